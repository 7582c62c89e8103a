import PyProof.Rows.All
import Wide.All
import OpenK.AllK
import Wide.FinOn
import Lean
import PySem.Challenge.RW_jq0003_01
open PySem PySem.W PySem.Calls PyProof.Rows
set_option Elab.async false
set_option maxRecDepth 100000
set_option maxHeartbeats 0
namespace Mine

/-! ## A logic of my own: as wpAny, but of those contexts alone on whose stack no code lends a buffer -/

/-- a code that may hold a bytearray's buffer while it stands on the stack -/
def lendIds : List String := ["bytearray.__contains__", "bytearray.__mod__", "bytearray.__rmod__", "_struct.pack_into.held", "bytearray.find.held"] ++ PySem.Builtin.Bytes.decodersThatHold
def lends : Code → Bool
  | .builtin id _ => lendIds.contains id
  | _ => false
theorem lends_not {id : String} {args : Args} (h : lendIds.contains id = false) : lends (.builtin id args) = false := h

def Clean (Γ : Ctx) : Prop := lends Γ.code = false ∧ ∀ x ∈ Γ.below, lends x.1 = false
def CleanBelow (Γ : Ctx) : Prop := ∀ x ∈ Γ.below, lends x.1 = false

theorem Clean.enter {Γ : Ctx} (h : Clean Γ) (c : Code) (hd : Option Value) (p : Pos) : CleanBelow (Γ.enter c hd p) := by
  intro x hx
  rcases List.mem_cons.mp hx with rfl | hx
  · exact h.1
  · exact h.2 x hx

def wpN {α : Type} (M : Model) (A : Around) (t : Sem α) (Q : α → Shared → Prop) (E : Value → Shared → Prop) (s : Shared) : Prop :=
  ∀ Γ p, Γ.In A → Clean Γ → Sem.wp M Γ t (fun a _ s' => Q a s') (fun e _ s' => E e s') p s

def codeN (M : Model) (A : Around) (c : Code) (R : Result → Shared → Prop) (s : Shared) : Prop :=
  ∀ Γ p, Γ.code = c → Γ.Below A → CleanBelow Γ → wpCode M Γ R p s

section
variable {α β : Type} {M : Model} {A : Around} {E : Value → Shared → Prop} {s : Shared}

theorem nAny {t : Sem α} {Q : α → Shared → Prop} (h : wpAny M A t Q E s) : wpN M A t Q E s := fun Γ p hΓ _ => h Γ p hΓ
theorem nCodeAny {c : Code} {R : Result → Shared → Prop} (h : codeAny M A c R s) : codeN M A c R s := fun Γ p hc hΓ _ => h Γ p hc hΓ

theorem nPure {a : α} {Q : α → Shared → Prop} (h : Q a s) : wpN M A (pure a) Q E s := fun _ _ _ _ => h

theorem nMono {t : Sem α} {Q Q' : α → Shared → Prop} {E' : Value → Shared → Prop} (h : wpN M A t Q E s)
    (hQ : ∀ a s, Q a s → Q' a s) (hE : ∀ e s, E e s → E' e s) : wpN M A t Q' E' s :=
  fun Γ p hΓ hC => Sem.wp_mono M Γ t (fun a _ s => hQ a s) (fun e _ s => hE e s) p s (h Γ p hΓ hC)

theorem nBind {m : Sem α} {f : α → Sem β} {Q : β → Shared → Prop} (h : wpN M A m (fun a s' => wpN M A (f a) Q E s') E s) :
    wpN M A (m >>= f) Q E s := fun Γ p hΓ hC => by
  rw [Sem.wp_bind']
  exact Sem.wp_mono M Γ m (fun a p' s' h' => h' Γ p' hΓ hC) (fun _ _ _ h' => h') p s (h Γ p hΓ hC)

/-- the first part makes no bytearray -/
theorem nBindAny {m : Sem α} {f : α → Sem β} {Q : β → Shared → Prop} (h : wpAny M A m (fun a s' => wpN M A (f a) Q E s') E s) :
    wpN M A (m >>= f) Q E s := nBind (nAny h)

theorem nOnRaise {m : Sem α} {k : Value → Sem Unit} {Q : α → Shared → Prop}
    (h : wpN M A m Q (fun e s' => wpAny M A (k e) (fun _ s'' => E e s'') E s') s) : wpN M A (m.onRaise k) Q E s := fun Γ p hΓ hC => by
  rw [Sem.wp_onRaise]
  exact Sem.wp_mono M Γ m (fun _ _ _ h' => h') (fun e p' s' h' => h' Γ p' hΓ) p s (h Γ p hΓ hC)

theorem nAttempt {m : Sem α} {Q : Except Value α → Shared → Prop} (h : wpN M A m (fun a => Q (.ok a)) (fun e => Q (.error e)) s) :
    wpN M A m.attempt Q E s := fun Γ p hΓ hC => by rw [Sem.wp_attempt]; exact h Γ p hΓ hC

theorem nHolding {vs : List Value} {m : Sem α} {Q : α → Shared → Prop} (h : wpN M A m Q E s) : wpN M A (holding vs m) Q E s :=
  fun Γ p hΓ hC => by rw [Sem.wp_holding]; exact h Γ p hΓ hC

theorem nKeep {vs : List Value} {m : Sem α} {Q : α → Shared → Prop} (h : wpN M A m Q E s) : wpN M A (m.keep vs) Q E s :=
  fun Γ p hΓ hC => by rw [Sem.wp_keep]; exact h Γ p hΓ hC

theorem nStandAt {pos : Pos} {Q : Unit → Shared → Prop} (h : Q () s) : wpN M A (standAt pos) Q E s := fun _ _ _ _ => h

theorem nIn1 {t : Sem α} {Q : α → Shared → Prop} (h : wpN M A.in1 t Q E s) : wpN M A t Q E s :=
  fun Γ p hΓ hC => h Γ p ⟨hΓ.1, hΓ.2.1, hΓ.2.2.1, hΓ.2.2.2.1, Nat.le_succ_of_le hΓ.2.2.2.2⟩ hC

theorem codeNMono {c : Code} {R R' : Result → Shared → Prop} (h : codeN M A c R s) (hR : ∀ r s, R r s → R' r s) : codeN M A c R' s :=
  fun Γ p hc hΓ hC => wpCode_mono hR (h Γ p hc hΓ hC)

theorem nRun {c : Code} {h : Option Value} {Q : Flow → Shared → Prop}
    (hc : codeN M (A.mark h) c (fun r s' => match r with | .ok f => Q f s' | .error e => E e s') s) (hnb : h ≠ some byPass := by intro x; cases x) :
    wpN M A (run c h) Q E s :=
  fun Γ p hΓ hC => by rw [Sem.wp_run]; exact hc _ p rfl (hΓ.enter c h p hnb) (hC.enter c h p)

theorem nRunValue {c : Code} {Q : Value → Shared → Prop}
    (hc : codeN M A c (fun r s' => match r with | .ok (.ret v) => Q v s' | .ok _ => False | .error e => E e s') s) :
    wpN M A (runValue c) Q E s := fun Γ p hΓ hC => by
  rw [Sem.wp_runValue]; exact hc _ p rfl (hΓ.enter c none p (by intro x; cases x)) (hC.enter c none p)

theorem nCall {f : Value} {pos : List Value} {kw : List (Str × Value)} {Q : Value → Shared → Prop}
    (hc : codeN M A (.call f ⟨pos, kw⟩) (fun r s' => match r with | .ok (.ret v) => Q v s' | .ok _ => False | .error e => E e s') s) :
    wpN M A (call f pos kw) Q E s := nRunValue hc

theorem codeNTree {c : Code} {R : Result → Shared → Prop} (hl : lends c = false)
    (h : wpN M (A.under c) (M.den c) (fun fin s' => match fin with | .done f => R (.ok f) s' | .again c' => c'.quiet = true ∧ codeN M A c' R s')
      (fun e s' => R (.error e) s') s) : codeN M A c R s := fun Γ p hc hΓ hC => by
  rw [wpCode_iff_wp, hc]
  refine Sem.wp_mono M Γ _ (fun fin p' s' h' => ?_) (fun _ _ _ h' => h') p s (h Γ p (hc ▸ hΓ.in) ⟨by rw [hc]; exact hl, hC⟩)
  cases fin with
  | done f => exact h'
  | again c' => exact ⟨h'.1, h'.2 (Γ.goto c') p' rfl (hΓ.goto c') hC⟩

theorem codeNLoop {c : Code} {R : Result → Shared → Prop} (hl : lends c = false) (hq : c.quiet = true) (I : Nat → Shared → Prop)
    (turn : ∀ n s, I n s → wpN M (A.under c) (M.den c)
      (fun fin s' => match fin with
        | .done f => R (.ok f) s'
        | .again c' => (c' = c ∧ ∃ m, m < n ∧ I m s') ∨ (c'.quiet = true ∧ codeN M A c' R s')) (fun e s' => R (.error e) s') s)
    (n : Nat) (h : I n s) : codeN M A c R s := by
  induction n using Nat.strongRecOn generalizing s with
  | ind n ih =>
    refine codeNTree hl (nMono (turn n s h) (fun fin s' hf => ?_) fun _ _ h' => h')
    cases fin with
    | done f => exact hf
    | again c' =>
      rcases hf with ⟨rfl, m, hm, hI⟩ | hf
      · exact ⟨hq, ih m hm hI⟩
      · exact hf

theorem nRunOwn {c : Code} {env : Env} {Q : Flow → Shared → Prop}
    (hc : codeN M (A.mark none) c (fun r s' => match r with | .ok f => Q f s' | .error e => cameBackBy M A env E e s') s) :
    wpN M A (runOwn c env none) Q E s := by
  unfold runOwn
  exact nOnRaise (nRun hc)

theorem nNoted {env : Env} {m : Sem α} {Q : α → Shared → Prop} (h : wpN M A m Q (notedBy M A env E) s) : wpN M A (m.onRaise fun x => do noteFrame x env; theTreesLotGoes x) Q E s :=
  nOnRaise (nMono h (fun _ _ q => q) fun _ _ hx => wpAny_bind (wpAny_mono hx (fun _ _ e => wpAny_theTreesLotGoes e) fun _ _ e => e))

/-! statements -/
theorem nExecs {env : Env} {st : Stmt} {rest : List Stmt} {Q : Flow → Shared → Prop}
    (h : wpN M A (exec st env) (fun f s' => match f with | .next => wpN M A (execs rest env) Q E s' | f => Q f s') E s) :
    wpN M A (execs (st :: rest) env) Q E s := by
  rw [execs]
  refine nBind (nMono h (fun f s' h' => ?_) fun _ _ x => x)
  cases f <;> first | exact h' | exact nPure h'

theorem execs_append {env : Env} {pre rest : List Stmt} : execs (pre ++ rest) env = (execs pre env >>= fun f => match f with | .next => execs rest env | f => pure f) := by
  induction pre with
  | nil => simp only [List.nil_append, execs]; rfl
  | cons st r ih =>
    rw [List.cons_append, execs, execs, ih, bind_assoc]
    congr 1
    funext f
    cases f <;> simp

/-- the first statements make no bytearray -/
theorem nExecsAny {env : Env} {pre rest : List Stmt} {Q : Flow → Shared → Prop}
    (h : wpAny M A (execs pre env) (fun f s' => match f with | .next => wpN M A (execs rest env) Q E s' | f => Q f s') E s) :
    wpN M A (execs (pre ++ rest) env) Q E s := by
  rw [execs_append]
  refine nBindAny (wpAny_mono h (fun f s' h' => ?_) fun _ _ x => x)
  cases f <;> first | exact h' | exact nPure h'


theorem nReturn {env : Env} {e : Expr} {pos : Pos} {Q : Flow → Shared → Prop} (h : wpN M A (eval e env) (fun v s' => Q (.ret v) s') E s) :
    wpN M A (exec (.Return (some e) pos) env) Q E s := by
  have e1 : exec (.Return (some e) pos) env = (do standAt pos; let v ← eval e env; return Flow.ret v) := rfl
  rw [e1]
  exact nBind (nStandAt (nBind (nMono h (fun v s' h' => nPure h') fun _ _ x => x)))
end

/-! ## The head: from the walk in wpN to the row -/
theorem caller_clean : Clean (⟨.builtin "claim.caller" {}, none, none, [], none⟩ : Ctx) := ⟨by decide +kernel, fun x hx => nomatch hx⟩

theorem endsN {prog : Program} {w : World} {t : Sem Fin} {s : Shared} {R : Result → Shared → Prop} (hreg : s.asleep)
    (h : wpN (model prog w) callerA t (fun fin s' => ∃ f, fin = .done f ∧ (R (.ok f) s' ∧ leftWithCleanup s'.gens = false)) (fun e s' => R (.error e) s' ∧ leftWithCleanup s'.gens = false) s) :
    ∃ n r s' s'', runN (denote table) prog w n s ⟨t, .builtin "claim.caller" {}, default, []⟩ = .halted (outcomeOf r) s' ∧
      schedN (denote table) prog w n (.single s ⟨t, .builtin "claim.caller" {}, default, []⟩) = .halted (outcomeOf r) s' ∧ s'.forget = s''.forget ∧ R r s'' := by
  obtain ⟨n, r, s₁, s₂, hs, hn, hfo, hR⟩ := wp_halts_full (M := model prog w) (R := R) (c := .builtin "claim.caller" {}) (p := default) hreg
    (Sem.wp_mono _ _ t (fun fin p' s' h' => by obtain ⟨f, rfl, hf⟩ := h'; exact hf) (fun _ _ _ h' => h') default s (h _ default caller_in caller_clean))
  exact ⟨n, r, s₂, s₁, hn, hs, hfo, hR⟩

theorem callFromN {c : ClaimW} {tree : List Value → Sem Fin} {w : World} {s : Shared} {free : Addr → Prop} {gens : Prop} {kept : Heap → Prop} (hz : s.asleep) (hgens : s.gens = #[])
    (hspec : ∀ args, c.pre args = true → WData.layableAll args = true →
      ∀ ord : List DictEntry → List DictEntry, (∀ l, (ord l).Perm l) →
      ∃ vs s₁, layAllW c.records (classAt s.heap) w.params ord args s = some (vs, s₁) ∧
        wpN (model c.prog w) callerA (tree vs) (fun fin s' => ∃ f, fin = .done f ∧ (c.Ends s args vs s₁ (.ok f) s' ∧ s'.os = s.os ∧ AllBare s'.gens ∧ kept s'.heap))
          (fun e s' => c.Ends s args vs s₁ (.error e) s' ∧ s'.os = s.os ∧ AllBare s'.gens ∧ kept s'.heap) s₁) :
    c.CallFrom (fun vs => ⟨tree vs, .builtin "claim.caller" {}, default, []⟩) w free gens kept s := by
  intro args hpre hlay ord hord
  obtain ⟨vs, s₁, hlaid, hcode⟩ := hspec args hpre hlay ord hord
  have hal := layAllW_rest _ _ _ hlaid
  obtain ⟨k, r, s', s'', hrun, hsched, hfo, hcase, hos, hkp⟩ := endsN (prog := c.prog) (w := w) (t := tree vs) (s := s₁)
    (R := fun r s' => c.Ends s args vs s₁ r s' ∧ s'.os = s.os ∧ kept s'.heap)
    (Shared.asleep_of_life hal.2.2.2 hz)
    (nMono hcode (fun fin s' ⟨f, e, h1, h2, h3, h4⟩ => ⟨f, e, ⟨h1, h2, h4⟩, leftWithCleanup_false_of_bare h3⟩) fun e s' ⟨h1, h2, h3, h4⟩ => ⟨⟨h1, h2, h4⟩, leftWithCleanup_false_of_bare h3⟩)
  obtain ⟨eh, _, _, eo, _⟩ := Shared.forget_eq hfo
  have hcase := hcase.congr eh
  rw [← eh] at hkp
  rw [← eo] at hos
  have hlife : s'.heap.life = s.heap.life := (runN_life _ _ _ hrun).trans hal.2.2.2
  refine ⟨vs, s₁, hlaid, k, _, s', hsched, ?_, (fun _ i x hx => by rw [hgens] at hx; simp at hx), hkp, by rw [hlife], Shared.rest_eq hos⟩
  rcases hcase with ⟨v, rfl, d1, d2, d3, d4, d5⟩ | ⟨e, ob, cls, rfl, d1, d2, d3, d4, d5⟩
  · exact .inl ⟨v, rfl, d1, d2, d3, fun b o y _ => d4 b o y, d5⟩
  · exact .inr ⟨e, ob, cls, rfl, d1, d2, d3, d4, fun b o y _ => d5 b o y⟩

/-- what is left to show of the law's call -/
abbrev WalkM (q : Program) (loose : List Str) (XP : (Str → Option Value) → Heap → Prop) (YP : World → Heap → Prop) (r : RowW) (d : DefRec) (kwd : List (Str × Expr)) : Prop :=
  ∀ (w : World) (s₀ s₁ : Shared) (mg mb : Str → Option Value), Ground q loose r.records XP w s₀ mg mb s₁.heap → YP w s₁.heap → ∀ (a : Addr) (o : Obj) (pm cd doc dV kV : Value), s₁.heap.get? a = some o →
    o.data = .func { docDef d.name d.params d.body d.scope pm cd doc with defaults := dV, kwdefaults := kV } → s₁.heap.CodeRec cd d.name → Dflts mg s₁.heap d.params kwd dV kV → mg d.name = some (.ref a) → s₁.gens = #[] →
    ∀ (args : List WData) (vals : List Value) (as : List Addr), r.claim.pre args = true → WData.layableAll args = true → ReadsAllW r.records (classAt s₀.heap) s₁.heap vals args as → WellAll w.params s₁.heap vals args → (∀ a ∈ as, (a == sysModules) = false) →
      wpN (model r.prog w) callerA (PySem.call (.ref a) vals) (fun v s' => GoodWG r.claim (classAt s₀.heap) (ExcName.means s₀.heap) args s₁ (.ok (.ret v)) s')
        (fun e s' => GoodWG r.claim (classAt s₀.heap) (ExcName.means s₀.heap) args s₁ (.error e) s') s₁

theorem PySem.W.holds_open {r : OpenRow} {q : Program} {loose : List Str} {Xt : Shared → Bool} {XP : (Str → Option Value) → Heap → Prop} {α : Type} {Yf : Shared → α} {Ya : World → α} {YP : World → Heap → Prop} {d : DefRec} {kwd : List (Str × Expr)} {N : Nat}
    (left : LeftO r.prog q loose Xt Yf Ya N) (hY : ∀ w s, Yf s = Ya w → YP w s.heap) (hYk : ∀ w h h', YP w h → (∀ b o, h.get? b = some o → h'.get? b = some o) → YP w h')
    (hX : ∀ s, Xt s = true → XP (s.heap.nsMap mainGlobals) s.heap) (hXk : ∀ mg h h', XP mg h → (∀ b o, h.get? b = some o → h'.get? b = some o) → XP mg h')
    (hdef : defOf q r.name = some (d, kwd)) (hp : r.prog.theDef r.name = some (d.params, d.body, d.scope)) (hk : kwWritten? d.params.kwonlyargs d.params.kw_defaults = some kwd) (hRf : ∀ s, Xt s = true → RecFacts r.records s.heap) (hwr : (!r.writes || r.records.isEmpty) = true)
    (k1 : r.wellSaid = true) (ok : (chainsOk q && opensWell r.prog && (frees r.toRowW && r.within.isEmpty)) = true) (hb : r.prog.bare) (hw : r.toRowW.promised)
    (walk : WalkM q loose XP YP r.toRowW d kwd) : r.Holds := by
  refine ⟨k1, hw, ?_⟩
  obtain ⟨ok, k5⟩ := Bool.and_eq_true_iff.mp ok
  obtain ⟨hch, o1⟩ := Bool.and_eq_true_iff.mp ok
  obtain ⟨k5, k6⟩ := Bool.and_eq_true_iff.mp k5
  obtain ⟨hsame, hu, ha, hap, hm⟩ := frees_parts k5
  refine ⟨⟨hb, o1, by show r.toRowW.makers.map _ = []; rw [hm]; rfl⟩, hw.witness, fun w => ⟨(left.behind hX hch w).1, fun s' hs' => ?_⟩⟩
  obtain ⟨s₀, hf, hg0, s, hT, hz, hgens, hg, G00, y⟩ := (left.behind (XP := fun mg h => XP mg h ∧ RecFacts r.records h) (fun s hs => ⟨hX s hs, hRf s hs⟩) hch w).2 s' hs'
  have G0 : Ground q loose [] XP w s (s.heap.nsMap mainGlobals) (s.heap.nsMap builtinsNs) s.heap := ⟨G00.T, G00.B, G00.D, G00.TE, G00.TD, G00.W, G00.X.1, G00.cls, G00.has, G00.apart, G00.once, G00.K⟩
  have RF := G00.X.2
  have hT' := hT
  refine ⟨s₀, hf, hg0, s, hT, (fun n hn => ?_), RF.1, RF.2.1, ?_⟩
  · obtain rfl : n = r.name := by split at hn <;> simp_all
    exact pinned_of_view hg G0 hdef hp hk
  have hgens : s.gens = #[] := Array.eq_empty_of_size_eq_zero (beq_iff_eq.mp hgens)
  have G : Ground q loose r.records XP w s _ _ s.heap := RF.ground G0
  refine callFromN (c := r.toRowW.claim) (tree := fun vs => do match ← nsGet mainNs r.name with
      | some f => do ret (← PySem.call f vs)
      | none => unsupported "claim.caller:no-such-global") hz hgens fun args hpre hlay ord hord => ?_
  obtain ⟨⟨vs, s₁⟩, hlaid⟩ := Option.isSome_iff_exists.mp (layAllW_isSome (P := w.params) (ord := ord) G.has args r.args s (pre_splitW hpre).1)
  have keeps := layAllW_keeps _ _ _ hlaid
  have hal := layAllW_rest _ _ _ hlaid
  obtain ⟨as, hrd, hin, hold⟩ := reads_layAllW hord _ _ _ hlaid hlay s₁.heap (fun _ _ e => e)
  have L : Laid r.records w s s₁ args vs as := ⟨⟨ord, hord, hlaid⟩, hrd, hin, hold, keeps, hal.1.trans hgens, hal.2.2.1⟩
  have G₁ := G.keeps hXk keeps
  obtain ⟨a, o, pm, cd, doc, dV, kV, h1, h2, h3, h4, h5⟩ := G₁.fn hdef
  have h := walk w s s₁ _ _ G₁ (hYk _ _ _ (hY w s y) keeps) a o pm cd doc dV kV h2 h3 h4 h5 (defOf_name hdef ▸ h1) L.gens args vs as hpre hlay L.reads L.well (L.low G.low)
  have hi := ident_freeW hu ha hap
  have hwi : r.toRowW.claim.within = [] := List.isEmpty_iff.mp k6
  refine ⟨vs, s₁, hlaid, nBindAny (wpAny_nsGet G₁.T.g (by
    rw [h1]
    refine nBind (nMono h (fun v s' g => nPure ⟨_, rfl, ?_⟩) fun e s' g => ?_)
    · have z := g.laid (c := r.toRowW.claim) hsame hwi hi L
      exact ⟨z.1, z.2.1, z.2.2, fun q => ⟨namesKept_of hT' hg r.keeps keeps g.2.1.old, noTable hwr q⟩⟩
    · have z := g.laid (c := r.toRowW.claim) hsame hwi hi L
      exact ⟨z.1, z.2.1, z.2.2, fun q => ⟨namesKept_of hT' hg r.keeps keeps g.2.1.old, noTable hwr q⟩⟩))⟩
end Mine
namespace Mine
open_top hd for PySem.Challenge.rw_jq0003_01
end Mine
namespace Mine

/-! ## A def of the text that is called: the callee's base is the caller's whole heap -/
section
variable {prog : Program} {w : World} {A : Around} {s : Shared} {K : Frag} {R : Result → Shared → Prop} {name qual : Str} {params : Arguments} {body : List Stmt} {scope : Scope}
  {dV kV doc pm cdv ct oc : Value} {an od : Option Addr} {osl : Array (Option Value)} {f : Addr} {args : Args} {binds : List (Str × Value)}

theorem enterDef (X : K.In s.heap) (hlim : s.heap.NoLimit) (ho : K.lookup f = some ⟨oc, od, .func (fnOf name qual params body scope dV kV doc pm an cdv ct), osl⟩)
    (hcd : codeIn K cdv qual = true) (hroom : A.depth < recursionLimit) (hbind : BindsTo s (fnOf name qual params body scope dV kV doc pm an cdv ct) args binds)
    (hloc : ∀ y ∈ binds, scope.names.lookup y.1 = some .local)
    (h : ∀ h₁, Fr s.heap s.heap.objs.size h₁ (fun y => binds.reverse.lookup y) →
      wpAny (model prog w) (A.deeper (envOf qual scope s.heap.objs.size f cdv)) (execs body (envOf qual scope s.heap.objs.size f cdv))
        (fun fl s' => R (.ok (.ret (match fl with | .ret v => v | _ => .none))) s')
        (fun e s' => wpAny (model prog w) (A.deeper (envOf qual scope s.heap.objs.size f cdv)) (leaving (envOf qual scope s.heap.objs.size f cdv) e) (fun _ s'' => R (.error e) s'') (fun e' s'' => R (.error e') s'') s')
        { s with heap := h₁, toks := s.toks + binds.length })
    (hcell : ∀ x ∈ scope.names, x.2 ≠ .cell) (hco : scope.isCoroutine = false := by rfl) (hgen : scope.isGenerator = false := by rfl) (hk : scope.kind = .function := by rfl) :
    codeAny (model prog w) A (.call (.ref f) args) R s :=
  codeAny_call_def hroom (X _ _ ho) rfl hlim (codeRec_of X hcd) rfl hbind hcell hloc (fun h₁ hns hk₁ => h h₁ ⟨hns, hk₁, Nat.le_refl _⟩) hco hgen hk
end

/-- the frame of the law -/
abbrev lawB (w : World) (H : Heap) (mg mb : Str → Option Value) (mean : ExcName → Option Value) : Prop :=
  (hd.heap_39 w.params).In H ∧ Top hd.view_39 (looseW hd.view_39 [Str.ofString "ApplyDeltaError"]) mean mg mb H

def far1 (pre : List Int) : Int := (pre.map fun k => (128 : Int) ^ k.toNat).sum
def far2 (ns pre : List Int) : Int := (pre.map fun k => (ns.getD ((ns.length : Int) - 1 - k).toNat 0).fmod 128 * 128 ^ k.toNat).sum
def farSpec (ns : List Int) : Int := far1 (rangeKs 1 ((ns.length : Int) - 1).toNat) + far2 ns (rangeKs 0 ((ns.length : Int) - 0).toNat)
theorem far1_zero : (0 : Int) = far1 [] := rfl
theorem far2_zero (ns : List Int) (c : Int) : c = c + far2 ns [] := by simp [far2]
theorem far1_more (pre : List Int) (k : Int) : far1 (pre ++ [k]) = far1 pre + 128 ^ k.toNat := by simp [far1]
theorem far2_more (ns pre : List Int) (k : Int) : far2 ns (pre ++ [k]) = far2 ns pre + (ns.getD ((ns.length : Int) - 1 - k).toNat 0).fmod 128 * 128 ^ k.toNat := by simp [far2]

theorem far_call {prog : Program} {w : World} {H : Heap} {mg mb : Str → Option Value} {mean : ExcName → Option Value} {s : Shared} {L : Addr} {m : Str → Option Value} {E₁ : Env} {r : Addr} {vs : List Value} {ns : List Int} {Q E : Value → Shared → Prop}
    (D : lawB w H mg mb mean) (F : Fr H L s.heap m) (hf : E₁.frame = some L) (hke : E₁.scope.kind = .function) (hl : s.heap.IsList r vs.toArray) (hI : IntsAre vs ns) (h1 : 1 ≤ ns.length) (h12 : ns.length ≤ 12)
    (hQ : ∀ h' tk t, (∀ b o, s.heap.get? b = some o → h'.get? b = some o) → Q (.int (farSpec ns) t) { s with heap := h', toks := tk }) :
    wpAny (model prog w) (callerA.deeper E₁) (call (.ref 98) [.ref r] []) Q E s := by
  have hfill : (PySem.Challenge.rw_jq0003_01, hd.heap_39) = (PySem.Challenge.rw_jq0003_01, hd.heap_39) := by k_fill; rfl
  clear hfill
  w_on
  w_top on
  have X := D.1.keeps F.keep
  have T := D.2.keeps F.keep
  have B := pushX (below_caller H) F hf hke
  refine wpAny_call ?_
  refine' enterDef (binds := [(Str.ofString "row", Value.ref r)]) ?k1 ?k2 ?k3 ?k4 ?k5 ?k6 ?k7 ?_ ?k8 ?k9 ?k10 ?k11
  case k1 => exact X
  case k2 => exact T.nolimit
  case k3 => k_is
  case k4 => k_is
  case k5 => k_room
  case k6 => exact BindsTo.of_eq rfl
  case k7 => exact locs rfl
  case k8 => decide
  case k9 => exact rfl
  case k10 => exact rfl
  case k11 => exact rfl
  intro h₁ F'
  have N' : News s.heap s.heap.objs.size h₁ [] := News.nil
  try dsimp only [List.reverse_cons, List.reverse_nil, List.nil_append]

  change wpAny _ _ _ _ _ _
  k_fold
  k_with "pyIter ref" => k_state (fun pre far => far = far1 (rangeKs 1 ((ns.length : Int) - 1).toNat) + far2 ns pre) "far"
  k_with "pyIter ref" => k_state (fun pre far => far = far1 pre) "far"
  k_with "state" => first | with_reducible exact far1_zero | with_reducible exact kInv.trans (far2_zero _ _) | (rw [far1_more, kInv]; done) | (rw [far2_more, kInv, Int.add_assoc]; done)
  repeat' (first | (k_unfold; (try dsimp only)) | (k_end; wrow_close) | (walk1; (try dsimp only)) | (leave1; walk_say "STEP leave1"; try dsimp only))
  rename Fr _ _ _ _ => lF
  rw [kInv]
  exact hQ _ _ _ lF.keep
end Mine
namespace Mine

/-! ## Small rules of my own -/
section
variable {prog : Program} {w : World} {A : Around} {E : Value → Shared → Prop} {s : Shared} {h₀ : Heap} {L a : Addr} {m : Str → Option Value} {news : List (Addr × Obj)} {vs : List Value} {v v' : Value} {cnt : Nat} {u : Tok}

theorem last_sub {value slice : PySem.Expr} {Q : Value → Shared → Prop} (N : News h₀ L s.heap news) (hm : (a, listOf (vs ++ [v]).toArray cnt) ∈ news) (hlen : (vs ++ [v]).length ≤ sizeLine) (h : Q v s)
    (hs : subscripted slice false (.ref a) (.int (-1) u) = operate [.ref a, .int (-1) u] (getItem (.ref a) (.int (-1) u)) := by with_unfolding_all rfl) :
    wpAny (model prog w) A (subscriptTail value slice (.ref a) (.int (-1) u)) Q E s := by
  have hl : s.heap.IsList a (vs ++ [v]).toArray := PySem.IsL.isList (n := cnt) (N _ hm).1
  have hsz := sizeLine_eq
  refine tail_any hl.typeIs slot_list_getitem.lookup (wpAny_getItem_list_neg hl (by decide) (by simp; omega) (by decide) (x := v) ?_ h) hs
  have e : (-1 + (((vs ++ [v]).toArray.size : Nat) : Int)).toNat = vs.length := by simp; omega
  rw [e]
  simp

theorem setItem_last {l : Addr} {items : Array Value} {t : Tok} {x : Value} {Q : Unit → Shared → Prop} (hl : s.heap.IsList l items) (hn : 0 < items.size)
    (hQ : Q () { s with heap := s.heap.update l (Obj.mapSeq (·.setIfInBounds (items.size - 1) x)) }) :
    wpAny (model prog w) A (setItem (.ref l) (.int (-1) t) x) Q E s := by
  obtain ⟨o, ho, hc, ne, hd⟩ := id hl
  unfold setItem
  try with_reducible refine wpAny_holding ?_
  first | refine wpAny_bind (wpAny_pure ?_) | skip
  refine wpAny_bind (wpAny_sequenceKey hl.typeIs (by decide) ?_)
  refine wpAny_bind (wpAny_callSpecial?_slot (name := Str.ofString "__setitem__") hl.typeIs slot_list_setitem
    (wpAny_call_entry slot_list_setitem hl.typeIs entry_list_setitem ?_ (args_list_setitem _ _ _)))
  show wpAny _ _ (Builtin.List.listSubscript? (.int (-1) t) >>= _) _ _ s
  refine wpAny_bind (wpAny_listSubscript_int (by decide) ?_)
  have hidx : seqIndex? (-1) items.size = some (items.size - 1) := by
    rw [seqIndex_neg (by decide) (by omega)]
    congr 1
    omega
  have hx : items[items.size - 1]? = some items[items.size - 1] := Array.getElem?_eq_getElem (by omega)
  show wpAny _ _ ((Builtin.List.listItems (.ref l) >>= fun xs => pure ((seqIndex? (-1) xs.size).bind fun i => xs[i]?.map (i, ·))) >>= _) _ _ s
  refine wpAny_bind (wpAny_bind ?_)
  show wpAny _ _ (seqItems? (.ref l) >>= _) _ _ s
  refine wpAny_bind (wpAny_seqItems ho hd (wpAny_pure (wpAny_pure ?_)))
  rw [hidx]
  simp only [Option.bind_some, hx, Option.map_some]
  refine wpAny_bind (wpAny_setSeqItemAt ho hd ?_)
  first
    | exact wpAny_bind (wpAny_pure (wpAny_pure ⟨.none, rfl, wpAny_pure hQ⟩))
    | exact wpAny_pure ⟨.none, rfl, wpAny_pure hQ⟩

theorem last_set {t : Tok} {Q : Unit → Shared → Prop} (F : Fr h₀ L s.heap m) (N : News h₀ L s.heap [(a, listOf (vs ++ [v]).toArray cnt)])
    (h : ∀ h' c, Fr h₀ L h' m → News h₀ L h' [(a, listOf (vs ++ [v']).toArray c)] → Q () { s with heap := h' }) :
    wpAny (model prog w) A (setItem (.ref a) (.int (-1) t) v') Q E s := by
  have z := N (a, listOf (vs ++ [v]).toArray cnt) (.head _)
  have hl : s.heap.IsList a (vs ++ [v]).toArray := PySem.IsL.isList (n := cnt) z.1
  refine setItem_last hl (by simp) (h _ _ (F.change (Heap.SameBut.update ..) z.2.1 z.2.2) (ki_turn (pre := []) (post := []) _ N (fun _ hp => nomatch hp) (fun _ hp => nomatch hp) ?_ rfl))
  apply Array.toList_inj.mp
  simp
end
theorem bytes_of {prog : Program} {w : World} {A : Around} {E : Value → Shared → Prop} {s : Shared} {h₀ : Heap} {L a : Addr} {m : Str → Option Value} {news : List (Addr × Obj)} {us : List Value} {ns : List Int} {cnt : Nat} {Q : Value → Shared → Prop}
    (F : Fr h₀ L s.heap m) (N : News h₀ L s.heap news) (hm : (a, listOf us.toArray cnt) ∈ news) (hi : IntsAre us ns) (hr : ∀ n ∈ ns, 0 ≤ n ∧ n < 256) (hz : us.length ≤ sizeLine) (hh : A.handled = none)
    (h : ∀ h' t k, Fr h₀ L h' m → News h₀ L h' news → Q (.bytes (byteArr ns) t) { s with heap := h', toks := k }) : wpAny (model prog w) A (call (.type "bytes") [.ref a]) Q E s :=
  call_bytes_ints (PySem.IsL.isList (n := cnt) (N _ hm).1) hi hr hz hh fun h' t k hk => h h' t k (F.keeps hk) fun p hp => ⟨hk _ _ (N p hp).1, (N p hp).2⟩

theorem app_list {prog : Program} {w : World} {A : Around} {E : Value → Shared → Prop} {s : Shared} {h₀ : Heap} {L a : Addr} {m : Str → Option Value} {us : List Value} {v : Value} {cnt : Nat} {Q : Value → Shared → Prop}
    (F : Fr h₀ L s.heap m) (N : News h₀ L s.heap [(a, listOf us.toArray cnt)]) (hz : us.length ≤ sizeLine) (h : ∀ h' c, Fr h₀ L h' m → News h₀ L h' [(a, listOf (us ++ [v]).toArray c)] → Q .none { s with heap := h' }) :
    wpAny (model prog w) A (call (.builtin "list.append") [.ref a, v]) Q E s := by
  have e : us.toArray.push v = (us ++ [v]).toArray := by simp
  exact append_K F N (Upd.head (fun _ hp => nomatch hp)) (fun h' F' N' => h h' _ F' (e ▸ N')) (by simpa using hz)

theorem fr_b {h₀ h : Heap} {L : Addr} {m : Str → Option Value} {ps : List (Str × Value)} (h1 : ∀ p ∈ ps, m p.1 = some p.2) (F : Fr h₀ L h m) : Fr h₀ L h (kstB m ps) := by
  have e : kstB m ps = m := funext fun y => kstB_eq h1 fun _ => rfl
  rw [e]
  exact F

/-! ## The row of octets of kind 7 and a size -/
def octs (c : Int) (rest : Nat) : List Int := if rest = 0 then [c] else (c + 128) :: octs ((rest % 128 : Nat) : Int) (rest / 128)
termination_by rest
decreasing_by omega
def headOcts (size : Int) : List Int := octs (112 + size.fmod 16) (size.fdiv 16).toNat

theorem octs_nil (c : Int) {r : Nat} (h : r = 0) : octs c r = [c] := by rw [octs, if_pos h]
theorem octs_more (c : Int) {r : Nat} (h : r ≠ 0) : octs c r = (c + 128) :: octs ((r % 128 : Nat) : Int) (r / 128) := by rw [octs, if_neg h]
theorem octs_len (c : Int) (r : Nat) : 1 ≤ (octs c r).length := by
  by_cases h : r = 0
  · rw [octs_nil c h]; exact Nat.le_refl _
  · rw [octs_more c h, List.length_cons]; omega

def HeadJ (a : Addr) (size : Int) (n : Nat) (m : Str → Option Value) (news : List (Addr × Obj)) : Prop :=
  ∃ pre c vs tc cnt rest tr, news = [(a, listOf (vs ++ [.int c tc]).toArray cnt)] ∧ m (Str.ofString "octets") = some (.ref a) ∧ m (Str.ofString "rest") = some (.int rest tr) ∧ IntsAre vs pre ∧
    pre ++ octs c rest.toNat = headOcts size ∧ 0 ≤ rest ∧ 0 ≤ c ∧ c < 128 ∧ (∀ x ∈ pre, 0 ≤ x ∧ x < 256) ∧ n = rest.toNat

theorem two_named {m : Str → Option Value} {x y : Str} {u v : Value} (h1 : m x = some u) (h2 : m y = some v) : ∀ p ∈ [(x, u), (y, v)], m p.1 = some p.2 := by
  intro p hp
  rcases List.mem_cons.mp hp with rfl | hp
  · exact h1
  · rw [List.mem_singleton.mp hp]; exact h2

theorem head_call {prog : Program} {w : World} {H : Heap} {mg mb : Str → Option Value} {mean : ExcName → Option Value} {s : Shared} {L : Addr} {m : Str → Option Value} {E₁ : Env} {size : Int} {ts : Tok} {Q E : Value → Shared → Prop}
    (D : lawB w H mg mb mean) (F : Fr H L s.heap m) (hf : E₁.frame = some L) (hke : E₁.scope.kind = .function) (h0 : 0 ≤ size) (hlen : (headOcts size).length ≤ 20)
    (hQ : ∀ h' tk t, (∀ b o, s.heap.get? b = some o → h'.get? b = some o) → Q (.bytes (byteArr (headOcts size)) t) { s with heap := h', toks := tk }) :
    wpAny (model prog w) (callerA.deeper E₁) (call (.ref 91) [.int size ts] []) Q E s := by
  have hfill : (PySem.Challenge.rw_jq0003_01, hd.heap_39) = (PySem.Challenge.rw_jq0003_01, hd.heap_39) := by k_fill; rfl
  clear hfill
  w_on
  w_top on
  k_with_none
  have z1 : 0 ≤ size.fmod 16 ∧ size.fmod 16 < 16 := by rw [Int.fmod_eq_emod_of_nonneg _ (by decide)]; omega
  have z2 : 0 ≤ size.fdiv 16 := by rw [Int.fdiv_eq_ediv_of_nonneg _ (by decide)]; omega
  have X := D.1.keeps F.keep
  have T := D.2.keeps F.keep
  have B := pushX (below_caller H) F hf hke
  refine wpAny_call ?_
  refine' enterDef (binds := [(Str.ofString "size", Value.int size ts)]) ?k1 ?k2 ?k3 ?k4 ?k5 ?k6 ?k7 ?_ ?k8 ?k9 ?k10 ?k11
  case k1 => exact X
  case k2 => exact T.nolimit
  case k3 => k_is
  case k4 => k_is
  case k5 => k_room
  case k6 => exact BindsTo.of_eq rfl
  case k7 => exact locs rfl
  case k8 => decide
  case k9 => exact rfl
  case k10 => exact rfl
  case k11 => exact rfl
  intro h₁ F'
  have N' : News s.heap s.heap.objs.size h₁ [] := News.nil
  change wpAny _ _ _ _ _ _
  k_fold
  k_with "exec While Compare cons nil" =>
    k_here
    rename Fr _ _ _ _ => lF'
    rename News _ _ _ _ => lN'
    k_dflt (
      refine' While_inv2 (HeadJ _ size) lF' lN' (n₀ := (size.fdiv 16).toNat) ?start ?turn ?hE
      case hE => first | passes_own | with_unfolding_all passes_own
      case start => exact ⟨[], 112 + size.fmod 16, [], _, _, size.fdiv 16, _, by with_unfolding_all rfl, by with_unfolding_all rfl, by with_unfolding_all rfl, IntsAre.nil, rfl, by omega, by omega, by omega, (fun _ hx => nomatch hx), rfl⟩
      intro n₂ m₂ news₂ h₂ tk₂ F₂ N₂ J₂
      obtain ⟨pre, c, vs, tc, cnt, rest, tr, rfl, j1, j2, j3, j4, j5, j6, j7, j8, rfl⟩ := J₂
      replace F₂ := fr_b (two_named j1 j2) F₂
      clear j1 j2 lF' lN'
      have hv : vs.length ≤ 20 := by
        have q := congrArg List.length j4
        rw [List.length_append] at q
        have q2 := j3.length
        omega
      try dsimp only)
  k_with "setItem ref int int" =>
    k_here
    rename Fr _ _ _ _ => lF'
    rename News _ _ _ _ => lN'
    k_dflt (
      refine' last_set lF' lN' ?_
      intro h₃ c₃ F₃ N₃
      clear lF' lN'
      try dsimp only)
  k_with "call builtin:list.append cons nil" =>
    k_here
    rename Fr _ _ _ _ => lF'
    rename News _ _ _ _ => lN'
    k_dflt (
      refine' app_list lF' lN' ?sz ?_
      case sz =>
        have hz := sizeLine_eq
        simp only [List.length_append, List.length_cons, List.length_nil]
        omega
      intro h₃ c₃ F₃ N₃
      clear lF' lN'
      try dsimp only)
  k_with "call type:bytes cons nil" =>
    k_here
    rename Fr _ _ _ _ => lF'
    rename News _ _ _ _ => lN'
    k_dflt (
      refine' bytes_of lF' lN' (List.mem_singleton.mpr rfl) (IntsAre.append j3 (.cons _ _ .nil)) ?_ ?_ rfl ?_
      · intro x hx
        rcases List.mem_append.mp hx with hx | hx
        · exact j8 x hx
        · rw [List.mem_singleton.mp hx]; omega
      · have hz := sizeLine_eq
        simp only [List.length_append, List.length_cons, List.length_nil]
        omega
      · intro h₃ t₃ k₃ F₃ N₃
        have e : pre ++ [c] = headOcts size := by rw [← j4, octs_nil c (by omega)]
        rw [e]
        exact hQ _ _ _ F₃.keep)
  repeat' (first | (k_unfold; (try dsimp only)) | (k_end; wrow_close) | (walk1; (try dsimp only)) | (leave1; walk_say "STEP leave1"; try dsimp only))
  rename 0 < _ => hr
  rename Fr s.heap _ _ _ => lF
  rename News _ _ _ _ => lN
  try rw [List.push_toArray] at lN
  have e1 : (rest.fmod 128 : Int) = ((rest.toNat % 128 : Nat) : Int) := by rw [Int.fmod_eq_emod_of_nonneg _ (by decide)]; omega
  have e2 : (rest.fdiv 128).toNat = rest.toNat / 128 := by rw [Int.fdiv_eq_ediv_of_nonneg _ (by decide)]; omega
  have e3 : 0 ≤ rest.fdiv 128 := by rw [Int.fdiv_eq_ediv_of_nonneg _ (by decide)]; omega
  have e4 : octs c rest.toNat = (c + 128) :: octs (rest.fmod 128) (rest.fdiv 128).toNat := by rw [octs_more c (by omega), e1, e2]
  refine ⟨_, _, _, _, (rest.fdiv 128).toNat, rfl, lF, lN, by rw [e2]; omega, pre ++ [c + 128], rest.fmod 128, vs ++ [_], _, _, rest.fdiv 128, _, rfl, rfl, rfl,
    IntsAre.append j3 (.cons _ _ .nil), ?_, e3, by rw [e1]; omega, by rw [e1]; omega, ?_, rfl⟩
  · rw [← j4, e4]; simp
  · intro x hx
    rcases List.mem_append.mp hx with hx | hx
    · exact j8 x hx
    · rw [List.mem_singleton.mp hx]; omega
end Mine
namespace Mine

/-! ## bytearray of a list of ints -/
theorem ba_mro : mroOf (.type "bytearray") = pure [.type "bytearray", .type "object"] := by rw [mroOf_type]; kernel_rfl
theorem ba_lookup_new : typeLookup (.type "bytearray") "__new__" = pure (some (.builtin "bytearray.__new__")) := by rw [typeLookup_type, builtinLookup_eq_fast]; kernel_rfl
theorem ba_slot_init : Slot "bytearray" "__init__" "bytearray.__init__" :=
  .of (owner := "bytearray") (n := "__init__") (by rw [typeLookup_type, builtinLookup_eq_fast]; kernel_rfl) (by decide +kernel) (by decide +kernel) (by decide +kernel)
    (by first | exact .inl (by decide +kernel) | exact .inr (by decide +kernel)) (by rw [isSubtype_type]; kernel_rfl)
theorem ba_called : TypeCalled "bytearray" "bytearray.__new__" "bytearray.__init__" :=
  ⟨by decide +kernel, by decide +kernel, ⟨_, _, ba_mro⟩, madeBy_type ba_mro ba_lookup_new (by decide +kernel), by decide +kernel, by rw [isSubtype_type]; kernel_rfl, ba_slot_init⟩
theorem ba_typeCall (a : Value) : checkTypeCall "bytearray" ⟨[a], []⟩ = pure () := by kernel_rfl
theorem ba_newCall (a : Value) : checkBuiltinCall "bytearray.__new__" ⟨[.type "bytearray", a], []⟩ = pure () := by kernel_rfl
theorem ba_entry_new : entryFor table "bytearray.__new__" = some PySem.Builtin.«list.__new__» := entryFor_alias (id' := "list.__new__") (by kernel_rfl) (by first | rfl | decide +kernel) (by decide +kernel) (by kernel_rfl)
theorem ba_plain_new : plainId "bytearray.__new__" = true := by decide +kernel
set_option maxRecDepth 1000000 in
set_option maxHeartbeats 4000000 in
theorem ba_owner : ("bytearray.__new__".splitOn ".__new__").headD "" = "bytearray" := by simp +decide [String.splitOn, String.splitOnAux]
theorem ba_sub : isSubtype (.type "bytearray") (.type "bytearray") = pure true := by rw [isSubtype_type]; kernel_rfl
theorem ba_entry_init : entryFor table "bytearray.__init__" = some PySem.Builtin.«bytearray.__init__» := by first | exact entryFor_of_fast (by kernel_rfl) | exact entryFor_of_tree (by kernel_rfl)
theorem ba_plain_init : plainId "bytearray.__init__" = true := by decide +kernel

section
variable {prog : Program} {w : World} {A : Around} {E : Value → Shared → Prop} {s : Shared}
theorem ba_new (a : Value) {Q₁ : Value → Shared → Prop}
    (h : Q₁ (.ref s.heap.objs.size) { s with heap := s.heap.push { cls := .type "bytearray", data := .bytearray #[] } }) :
    codeAny (model prog w) A (.call (.builtin "bytearray.__new__") ⟨[.type "bytearray", a], []⟩) (wants Q₁ E) s := by
  refine codeAny_of_tree ?_
  show wpAny _ A.in1 (do checkBuiltinCall "bytearray.__new__" ⟨[.type "bytearray", a], []⟩; again (.builtin "bytearray.__new__" ⟨[.type "bytearray", a], []⟩)) _ _ s
  refine wpAny_bind (wpAny_of_eq (ba_newCall a) (wpAny_pure ⟨plainId_quiet ba_plain_new _, codeAny_builtin_stack ba_entry_new rfl fun p st => ?_⟩))
  rw [Around.under_plainId ba_plain_new _]
  have hsub := ba_sub
  have hown := ba_owner
  obtain ⟨hp, g, d, tk, os⟩ := s
  simp only [hown]
  wp_walk
  exact h

theorem codeNBuiltin {id : String} {args : Args} {b : Builtin} {R : Result → Shared → Prop} (hl : lendIds.contains id = false) (hb : entryFor table id = some b)
    (h : wpN (model prog w) (A.under (.builtin id args)) (b args)
      (fun fin s' => match fin with | .done f => R (.ok f) s' | .again c' => c'.quiet = true ∧ codeN (model prog w) A c' R s') (fun e s' => R (.error e) s') s) :
    codeN (model prog w) A (.builtin id args) R s := by
  refine codeNTree (lends_not hl) ?_
  show wpN _ _ (match entryFor table id with | some b => b args | none => unsupported ((withoutEnding? id "#data").getD id)) _ _ s
  rw [hb]; exact h

theorem codeNCallBuiltin {id : String} {args : Args} {b : Builtin} {R : Result → Shared → Prop} (hq : plainId id = true) (hl : lendIds.contains id = false) (hb : entryFor table id = some b) (hc : wpAny (model prog w) A.in1 (checkBuiltinCall id args) (fun _ s₁ => s₁ = s) (fun _ _ => False) s)
    (h : wpN (model prog w) A.in1 (b args)
      (fun fin s' => match fin with | .done f => R (.ok f) s' | .again c' => c'.quiet = true ∧ codeN (model prog w) A c' R s') (fun e s' => R (.error e) s') s) :
    codeN (model prog w) A (.call (.builtin id) args) R s := by
  refine codeNTree rfl ?_
  show wpN _ A.in1 (do checkBuiltinCall id args; again (.builtin id args)) _ _ s
  refine nBindAny (wpAny_mono hc (fun _ s₁ e => ?_) fun _ _ h' => h'.elim)
  subst e
  refine nPure ⟨plainId_quiet hq args, codeNBuiltin hl hb ?_⟩
  rw [Around.under_plainId hq args]
  exact h

theorem ba_type_call {l : Addr} {Q : Value → Shared → Prop}
    (hinit : ∀ s₁ : Shared, s₁ = { s with heap := s.heap.push { cls := .type "bytearray", data := .bytearray #[] } } →
      codeN (model prog w) A.in1 (.call (.builtin "bytearray.__init__") ⟨[.ref s.heap.objs.size, .ref l], []⟩) (wants (fun r s₂ => r = .none ∧ Q (.ref s.heap.objs.size) s₂) E) s₁) :
    wpN (model prog w) A (call (.type "bytearray") [.ref l]) Q E s := by
  have hmro := ba_mro
  have hmade := ba_called.made
  have hsub := ba_called.sub
  have h1 := ba_called.notType
  have h2 := ba_called.canCreate
  have hct := ba_typeCall (.ref l)
  refine nCall (codeNTree rfl ?_)
  show wpN _ _ (callAny (.type "bytearray") _) _ _ _
  refine nPure ⟨Code.quiet_builtin _ (by decide +kernel), codeNBuiltin (by decide +kernel) F.entry_type_call ?_⟩
  rw [Around.under_plain (weight_type_call_type "bytearray" [.ref l] []) rfl]
  dsimp only [PySem.Builtin.«type.__call__»]
  rw [h1, h2, hct, hmro, hmade]
  simp only [Bool.false_eq_true, if_false, pure_bind, List.isEmpty_cons]
  have hT : ({ s with heap := s.heap.push { cls := .type "bytearray", data := .bytearray #[] } } : Shared).TypeIs (.ref s.heap.objs.size) "bytearray" := ⟨_, Heap.get?_push_size _ rfl, rfl⟩
  refine nBindAny (wpAny_holding (wpAny_call (codeAny_mono (ba_new (.ref l) (Q₁ := fun obj s₁ => obj = .ref s.heap.objs.size ∧ s₁ = { s with heap := s.heap.push { cls := .type "bytearray", data := .bytearray #[] } }) (E := fun _ _ => False) ⟨rfl, rfl⟩) fun r s₁ hr => ?_)))
  cases r with
  | error e => exact hr.elim
  | ok fl =>
    cases fl with
    | ret obj =>
      obtain ⟨rfl, rfl⟩ := hr
      refine nBindAny (wpAny_isInstance hT hsub ?_)
      simp only [Bool.not_true, Bool.false_eq_true, if_false]
      refine nBind (nHolding ?_)
      unfold callSpecial?
      refine nBindAny (wpAny_specialOf hT ba_slot_init.lookup ?_)
      dsimp only
      refine nHolding ?_
      rw [ba_slot_init.bind]
      simp only [pure_bind]
      refine nBind (nCall (codeNMono (hinit _ rfl) fun r₂ s₂ hr₂ => ?_))
      cases r₂ with
      | error e => exact hr₂
      | ok fl₂ =>
        cases fl₂ with
        | ret r =>
          obtain ⟨rfl, hq⟩ := hr₂
          exact nPure (nPure hq)
        | _ => exact hr₂.elim
    | _ => exact hr.elim
end
end Mine
namespace Mine
theorem ba_bind (v : Value) : PySem.Builtin.Bytes.bindOptional "bytearray.__init__" "bytearray" ["source", "encoding", "errors"] [v] [] = pure [some v, none, none] := by kernel_rfl
theorem ba_args (a b : Value) : argsOk "bytearray.__init__" ⟨[a, b], []⟩ := by
  unfold argsOk; rw [signature?_of (id := "bytearray.__init__") (n := ['_', '_', 't', 'i', 'n', 'i', '_', '_']) (o := ['y', 'a', 'r', 'r', 'a', 'e', 't', 'y', 'b']) (by kernel_rfl) (rows := Manifest.sig_bytearray) (by first | kernel_rfl | rfl)]; kernel_rfl
/-- no code of a clean stack lends the object -/
theorem exportedN {M : Model} {A : Around} {E : Value → Shared → Prop} {s : Shared} {v : Value} {Q : Bool → Shared → Prop} (h : Q false s) : wpN M A (PySem.Builtin.Bytes.exported v) Q E s := by
  intro Γ p _ hC
  unfold PySem.Builtin.Bytes.exported
  show Q (List.any ((Γ.code, p) :: Γ.below) _) s
  have e : ∀ (f : Code × Pos → Bool), (∀ c q, lends c = false → f (c, q) = false) → List.any ((Γ.code, p) :: Γ.below) f = false := by
    intro f hf
    rw [List.any_eq_false]
    intro x hx
    rcases List.mem_cons.mp hx with rfl | hx
    · rw [hf _ _ hC.1]; decide
    · rw [show x = (x.1, x.2) from rfl, hf _ _ (hC.2 x hx)]; decide
  rw [e _ ?_]
  · exact h
  · intro c q hc
    cases c with
    | builtin id args =>
      have hid : lendIds.contains id = false := hc
      have ne : ∀ k : String, lendIds.contains k = true → id ≠ k := fun k hk e => by rw [e, hk] at hid; cases hid
      have hdec : PySem.Builtin.Bytes.decodersThatHold.contains id = false := by
        cases hq : PySem.Builtin.Bytes.decodersThatHold.contains id with
        | false => rfl
        | true =>
          have : lendIds.contains id = true := by
            rw [List.contains_iff_mem] at hq ⊢
            exact List.mem_append_right _ hq
          rw [hid] at this; cases this
      split
      all_goals first
        | (rename_i heq; injection heq with e1 e2; injection e1 with e3 e4; exact absurd e3 (ne _ (by decide +kernel)))
        | (rename_i heq; injection heq with e1 e2; injection e1 with e3 e4; subst e3; rw [hdec, Bool.and_false])
        | rfl
    | _ => rfl
theorem ba_lookup_release : typeLookup (.type "bytearray") "__release_buffer__" = pure (some (.builtin "bytearray.__release_buffer__")) := by rw [typeLookup_type, builtinLookup_eq_fast]; kernel_rfl
theorem ba_ends : "bytearray.__release_buffer__".endsWith ("." ++ "__release_buffer__") = true := by decide +kernel
theorem ba_drop : ("bytearray.__release_buffer__".dropRight ("__release_buffer__".length + 1)) = "bytearray" := by decide +kernel
section
variable {prog : Program} {w : World} {A : Around} {E : Value → Shared → Prop} {s : Shared}
theorem ba_ownRelease {obj : Value} {Q : Bool → Shared → Prop} (hT : s.TypeIs obj "bytearray") (h : Q false s) : wpAny (model prog w) A (PySem.Builtin.Bytes.ownRelease obj) Q E s := by
  unfold PySem.Builtin.Bytes.ownRelease PySem.Builtin.Bytes.slotIsOwn
  refine wpAny_bind (wpAny_bind (wpAny_specialOf hT ba_lookup_release ?_))
  dsimp only
  rw [ba_ends]
  simp only [Bool.not_true, Bool.false_eq_true, if_false]
  rw [ba_drop]
  exact wpAny_isInstance hT ba_sub (wpAny_pure h)

theorem ba_write {S : Addr} {o : Obj} {b : Array UInt8} {n : Nat} {f : Array UInt8 → Array UInt8} {Q : Unit → Shared → Prop} (ho : s.heap.get? S = some o) (hd : o.data = .bytearray b n) (hz : (f b).size ≤ sizeLine)
    (h : Q () { s with heap := s.heap.update S (Obj.mapBytearray f) }) : wpAny (model prog w) A (PySem.Builtin.Bytes.write (.ref S) f) Q E s := by
  show wpAny _ _ (updateBytearray S f) _ _ _
  unfold updateBytearray
  refine wpAny_bind (wpAny_load ho ?_)
  rw [hd]
  show wpAny _ _ (update S (Obj.mapBytearray f) >>= fun _ => lookBehind S) _ _ _
  refine wpAny_bind (wpAny_update ho ?_)
  obtain ⟨c, d, dt, sl⟩ := o
  obtain rfl : dt = _ := hd
  have h₂ : (s.heap.update S (Obj.mapBytearray f)).get? S = some (Obj.mapBytearray f ⟨c, d, .bytearray b n, sl⟩) := Heap.get?_update_self _ ho rfl
  refine wpAny_lookBehind h₂ ?_ h
  show (if (f b).size > sizeLine then some "bytearray:memory" else none) = none
  rw [if_neg (by omega)]

theorem good_ints {vs : List Value} {ns : List Int} (hI : IntsAre vs ns) (hr : ∀ n ∈ ns, 0 ≤ n ∧ n < 256) :
    (vs.takeWhile fun | .int i _ => decide (0 ≤ i) && decide (i < 256) | _ => false) = vs ∧ (vs.filterMap fun | .int i _ => some i.toNat.toUInt8 | _ => none) = ns.map fun n => n.toNat.toUInt8 := by
  induction hI with
  | nil => exact ⟨rfl, rfl⟩
  | cons n t r ih =>
    obtain ⟨a, b⟩ := hr _ (.head _)
    obtain ⟨i1, i2⟩ := ih fun m hm => hr m (.tail _ hm)
    refine ⟨?_, ?_⟩
    · rw [List.takeWhile_cons_of_pos (by simp [a, b])]
      rw [i1]
    · rw [List.filterMap_cons_some (by rfl), i2, List.map_cons]
theorem ba_init {S l : Addr} {vs : List Value} {ns : List Int} {Q : Shared → Prop} (hh : s.heap.get? S = some { cls := .type "bytearray", data := .bytearray #[] }) (hl : s.heap.IsList l vs.toArray) (hne : S ≠ l) (hI : IntsAre vs ns)
    (hr : ∀ n ∈ ns, 0 ≤ n ∧ n < 256) (hz : ns.length ≤ sizeLine)
    (hQ : ∀ h', h'.get? S = some { cls := .type "bytearray", data := .bytearray (byteArr ns) } → Heap.SameBut S s.heap h' → Q { s with heap := h' }) :
    codeN (model prog w) A (.call (.builtin "bytearray.__init__") ⟨[.ref S, .ref l], []⟩) (wants (fun r s₂ => r = .none ∧ Q s₂) E) s := by
  have hT : s.TypeIs (.ref S) "bytearray" := ⟨_, hh, rfl⟩
  refine codeNCallBuiltin ba_plain_init (by decide +kernel) ba_entry_init (ba_slot_init.check _ _ _ _ _ _ _ _ hT (ba_args _ _) rfl) ?_
  dsimp only [PySem.Builtin.«bytearray.__init__»]
  refine nBindAny (ba_ownRelease hT ?_)
  simp only [Bool.false_eq_true, if_false]
  rw [ba_bind]
  simp only [pure_bind]
  refine nBindAny (wpAny_of_eq (a := ()) rfl ?_)
  refine nBindAny (wpAny_of_eq (a := ()) rfl ?_)
  refine nBind ?_
  unfold orM
  refine nBind (exportedN ?_)
  show wpN _ _ (do let n ← PySem.Builtin.Bytes.exportsOf (.ref S); pure (decide (n > 0))) _ _ _
  refine nAny (wpAny_bind ?_)
  unfold PySem.Builtin.Bytes.exportsOf
  refine wpAny_bind (wpAny_load hh (wpAny_pure (wpAny_pure ?_)))
  have hd0 : decide ((0 : Nat) > 0) = false := by decide
  rw [hd0]
  simp only [Bool.false_eq_true, if_false]
  refine nBindAny (ba_write hh rfl (Nat.zero_le _) ?_)
  obtain ⟨ol, hol, hoc, nl, hod⟩ := id hl
  have h₁ : (s.heap.update S (Obj.mapBytearray fun _ => #[])).get? S = some { cls := .type "bytearray", data := .bytearray #[] } := Heap.get?_update_self (Obj.mapBytearray fun _ => #[]) hh rfl
  have hol₁ : (s.heap.update S (Obj.mapBytearray fun _ => #[])).get? l = some ol := (Heap.get?_update_other _ _ hne).trans hol
  have hT₁ : ({ s with heap := s.heap.update S (Obj.mapBytearray fun _ => #[]) } : Shared).TypeIs (.ref l) "list" := ⟨_, hol₁, hoc⟩
  refine nAny (wpAny_bind ?_)
  show wpAny _ _ (load l >>= _) _ _ _
  refine wpAny_bind (wpAny_load hol₁ ?_)
  rw [hod]
  refine wpAny_pure ?_
  simp only [Option.isSome_none, Bool.false_eq_true, if_false, pure_bind]
  refine wpAny_bind (wpAny_specialOf hT₁ PySem.F.bm_no_index ?_)
  simp only [Option.isSome_none, Bool.false_eq_true, if_false]
  refine wpAny_bind ?_
  unfold PySem.Builtin.Bytes.buffer?
  refine wpAny_bind (wpAny_specialOf hT₁ PySem.F.bm_no_buffer ?_)
  refine wpAny_bind (wpAny_specialOf hT₁ PySem.F.bm_no_buffer ?_)
  refine wpAny_pure ?_
  dsimp only
  refine wpAny_bind (wpAny_typeOf hT₁ ?_)
  refine bm_if_true (by decide) ?_
  refine wpAny_bind (wpAny_seqItems hol₁ hod ?_)
  dsimp only
  obtain ⟨g1, g2⟩ := good_ints hI hr
  have hnone : vs.toArray[vs.length]? = none := by simp
  erw [g1]
  rw [hnone]
  dsimp only
  refine wpAny_bind (wpAny_rule ?_)
  erw [g2]
  refine wpAny_bind (ba_write h₁ rfl (by show (ns.map _).toArray.size ≤ _; simpa using hz) ?_)
  refine wpAny_pure ⟨rfl, ?_⟩
  refine hQ _ ?_ ((Heap.SameBut.update ..).trans (Heap.SameBut.update ..))
  exact Heap.get?_update_self (Obj.mapBytearray fun _ => byteArr ns) h₁ rfl
end
end Mine
namespace Mine
/-- a bytearray as an object of the ledger -/
def baObj (b : Array UInt8) : Obj := { cls := .type "bytearray", data := .bytearray b }

theorem ba_no_bytes : typeLookup (.type "bytearray") "__bytes__" = pure none := by rw [typeLookup_type, builtinLookup_eq_fast]; kernel_rfl
theorem ba_no_index : typeLookup (.type "bytearray") "__index__" = pure none := by rw [typeLookup_type, builtinLookup_eq_fast]; kernel_rfl
theorem ba_lookup_buffer : typeLookup (.type "bytearray") "__buffer__" = pure (some (.builtin "bytearray.__buffer__")) := by rw [typeLookup_type, builtinLookup_eq_fast]; kernel_rfl
theorem ba_ends2 : "bytearray.__buffer__".endsWith ("." ++ "__buffer__") = true := by decide +kernel
theorem ba_drop2 : ("bytearray.__buffer__".dropRight ("__buffer__".length + 1)) = "bytearray" := by decide +kernel

section
variable {prog : Program} {w : World} {A : Around} {E : Value → Shared → Prop} {s : Shared}
theorem ba_ownBuffer {obj : Value} {Q : Bool → Shared → Prop} (hT : s.TypeIs obj "bytearray") (h : Q true s) : wpAny (model prog w) A (PySem.Builtin.Bytes.slotIsOwn obj "__buffer__") Q E s := by
  unfold PySem.Builtin.Bytes.slotIsOwn
  refine wpAny_bind (wpAny_specialOf hT ba_lookup_buffer ?_)
  try dsimp only
  rw [ba_ends2]
  simp only [Bool.not_true, Bool.false_eq_true, if_false]
  rw [ba_drop2]
  exact wpAny_isInstance hT ba_sub h

theorem bm_new_ba {S : Addr} {b : Array UInt8} {Q : Value → Shared → Prop} (hS : s.heap.get? S = some (baObj b)) (hz : b.size ≤ sizeLine)
    (hQ : ∀ t k, Q (.bytes b t) { s with toks := k }) :
    codeAny (model prog w) A (.call (.builtin "bytes.__new__") ⟨[.type "bytes", .ref S], []⟩) (wants Q E) s := by
  refine codeAny_of_tree ?_
  show wpAny _ A.in1 (do checkBuiltinCall "bytes.__new__" ⟨[.type "bytes", .ref S], []⟩; again (.builtin "bytes.__new__" ⟨[.type "bytes", .ref S], []⟩)) _ _ s
  refine wpAny_bind (wpAny_of_eq (PySem.F.bm_newCall _) (wpAny_pure ⟨plainId_quiet PySem.F.bm_plain _, codeAny_builtin PySem.F.bm_entry ?_⟩))
  rw [Around.under_plainId PySem.F.bm_plain _]
  have hT : s.TypeIs (.ref S) "bytearray" := ⟨_, hS, rfl⟩
  unfold PySem.Builtin.«bytes.__new__»
  refine wpAny_bind (wpAny_of_eq (a := true) rfl ?_)
  refine bm_if_false rfl ?_
  refine wpAny_bind (wpAny_of_eq PySem.F.bm_sub ?_)
  refine bm_if_false rfl ?_
  refine wpAny_bind (wpAny_of_eq (PySem.F.bm_bind _) ?_)
  refine wpAny_bind (wpAny_of_eq (a := ()) rfl ?_)
  refine wpAny_bind (wpAny_of_eq (a := ()) rfl ?_)
  refine bm_if_false rfl ?_
  refine wpAny_bind (wpAny_specialOf hT ba_no_bytes ?_)
  refine wpAny_bind (wpAny_bind ?_)
  show wpAny _ _ (load S >>= _) _ _ _
  refine wpAny_bind (wpAny_load hS ?_)
  refine wpAny_pure (wpAny_pure ?_)
  refine bm_if_false rfl ?_
  refine wpAny_bind (wpAny_specialOf hT ba_no_index ?_)
  refine bm_if_true rfl ?_
  first
    | show wpAny _ _ (PySem.Builtin.Bytes.buffer? "bytes.__new__" (.ref S) true >>= _) _ _ _
    | (refine wpAny_bind ?_; show wpAny _ _ (PySem.Builtin.Bytes.buffer? "bytes.__new__" (.ref S) true >>= _) _ _ _)
  refine wpAny_bind ?_
  unfold PySem.Builtin.Bytes.buffer?
  refine wpAny_bind (wpAny_specialOf hT ba_lookup_buffer ?_)
  try dsimp only
  refine wpAny_bind (ba_ownBuffer hT ?_)
  simp only [Bool.not_true, Bool.false_eq_true, if_false]
  refine wpAny_bind (wpAny_specialOf hT ba_lookup_buffer ?_)
  try dsimp only
  refine wpAny_bind (ba_ownRelease hT ?_)
  simp only [Bool.false_eq_true, if_false]
  refine wpAny_bind ?_
  unfold PySem.Builtin.Bytes.payload PySem.Builtin.Bytes.payload?
  refine wpAny_bind (wpAny_bind (wpAny_load hS ?_))
  refine wpAny_pure (wpAny_pure (wpAny_pure ?_))
  refine wpAny_bind (wpAny_rule ?_)
  refine wpAny_bind ?_
  refine wpAny_mkBytes ?_ hz
  show wpAny _ _ (if (Value.type "bytes" == Value.type "bytes") = true then _ else _) _ _ _
  refine bm_if_true (by decide) ?_
  first
    | exact wpAny_pure (hQ _ _)
    | exact wpAny_bind (wpAny_pure (wpAny_pure (hQ _ _)))
theorem call_bytes_ba {S : Addr} {b : Array UInt8} {Q : Value → Shared → Prop} (hS : s.heap.get? S = some (baObj b)) (hz : b.size ≤ sizeLine)
    (hQ : ∀ t k, Q (.bytes b t) { s with toks := k }) : wpAny (model prog w) A (call (.type "bytes") [.ref S]) Q E s := by
  refine callType_codes (Q₁ := fun obj s₁ => s₁.TypeIs obj "bytes" ∧ Q obj s₁) PySem.F.bm_called (PySem.F.bm_typeCall _) PySem.F.entry_object_init
    (bm_new_ba hS hz fun t k => ⟨PySem.W.typeIs_bytes _ _ _, hQ t k⟩) fun obj s₁ h₁ => ?_
  exact ⟨h₁.1, PySem.F.args_object_init_2 obj _, object_init_meets PySem.F.bm_called.init.lookup PySem.F.bm_called.made (by decide) prog w A.in1 _ s₁ ⟨h₁.1, rfl, h₁.2⟩⟩

/-- the one step that wants a clean stack -/
theorem call_bytearray {l : Addr} {vs : List Value} {ns : List Int} {Q : Value → Shared → Prop} (hl : s.heap.IsList l vs.toArray) (hI : IntsAre vs ns) (hr : ∀ n ∈ ns, 0 ≤ n ∧ n < 256) (hz : ns.length ≤ sizeLine)
    (hQ : ∀ h', (∀ b o, s.heap.get? b = some o → h'.get? b = some o) → h'.get? s.heap.objs.size = some (baObj (byteArr ns)) → Q (.ref s.heap.objs.size) { s with heap := h' }) :
    wpN (model prog w) A (call (.type "bytearray") [.ref l]) Q E s := by
  obtain ⟨ol, hol, _⟩ := id hl
  have hlt : l < s.heap.objs.size := Heap.lt_size hol
  refine ba_type_call fun s₁ e => ?_
  subst e
  refine ba_init (Heap.get?_push_size _ rfl) (hl.push _) (Nat.ne_of_gt hlt) hI hr hz fun h' hS hs => ?_
  exact hQ h' (fun b o e => (hs.2 b (Nat.ne_of_lt (Heap.lt_size e))).trans (Heap.get?_push_of_some _ e)) hS
end
end Mine
namespace Mine
theorem il_fills : fillsInplaceSlot (.type "list") "add" true = pure false := by
  unfold fillsInplaceSlot
  dsimp only
  rw [PySem.F.slot_list_iadd.lookup]
  rfl
theorem il_num_list : fillsNumberSlot (.type "list") "add" = pure false := by kernel_rfl
theorem il_num_bytes : fillsNumberSlot (.type "bytes") "add" = pure false := by kernel_rfl
theorem il_seq : seqSlot? (.type "list") (dunderI "add") = pure (some (.builtin "list.__iadd__")) := by
  unfold seqSlot?
  rw [PySem.F.slot_list_iadd.lookup]
  rfl
theorem il_split : splitId "bytes.__len__" = some ("bytes", "__len__") := by decide +kernel
section
variable {prog : Program} {w : World} {A : Around} {E : Value → Shared → Prop} {s : Shared}

/-- the loop that takes a bytes' ints into a list -/
theorem ext_loop {R : Result → Shared → Prop} {S I : Addr} {vs : List Value} {b : Array UInt8} {tb : Tok} (hh : A.handled = none) (hSI : S ≠ I) (hz : vs.length + b.size ≤ sizeLine) :
    ∀ (k i : Nat) (s : Shared) (us : List Value) (c : Nat), b.size - i = k → i ≤ b.size → KBw.IsBytesIter s.heap I b tb i → s.heap.get? S = some (listOf (vs ++ us).toArray c) → IntsAre us ((KBw.bInts b).take i) →
      (∀ h' tk us' c', (∀ x o, x ≠ I → x ≠ S → s.heap.get? x = some o → h'.get? x = some o) → h'.get? S = some (listOf (vs ++ us').toArray c') → IntsAre us' (KBw.bInts b) → R (.ok (.ret (.ref S))) { s with heap := h', toks := tk }) →
      codeAny (model prog w) A (.builtin "list.extend.loop" ⟨[.ref S, .ref I, .ref S], []⟩) R s := by
  intro k
  induction k with
  | zero =>
    intro i s us c hk hle hit hS hU hR
    have hin : i = b.size := by omega
    subst hin
    refine codeAny_builtin PySem.F.entry_extend_loop ?_
    rw [Around.under_plainId PySem.F.plain_extend_loop _]
    show wpAny _ A.in1 (pyNext (.ref I) >>= _) _ _ s
    refine wpAny_bind (KBw.next_end hh hit (by simp) fun h' he => wpAny_pure ?_)
    have e : (KBw.bInts b).take b.size = KBw.bInts b := List.take_of_length_le (by rw [KBw.ints_length]; exact Nat.le_refl _)
    rw [e] at hU
    exact hR h' _ us c (fun x o hx _ q => he x o hx q) (he S _ hSI hS) hU
  | succ k ih =>
    intro i s us c hk hle hit hS hU hR
    have hlt : i < b.size := by omega
    have hx : b[i]? = some b[i] := Array.getElem?_eq_getElem hlt
    refine codeAny_builtin PySem.F.entry_extend_loop ?_
    rw [Around.under_plainId PySem.F.plain_extend_loop _]
    show wpAny _ A.in1 (pyNext (.ref I) >>= _) _ _ s
    refine wpAny_bind (KBw.next_item hit hx fun h' hit' hs => ?_)
    have hS' : h'.get? S = some (listOf (vs ++ us).toArray c) := (hs.2 S hSI).trans hS
    show wpAny _ A.in1 (updateSeq S (·.push (Value.int (b[i].toNat : Int) s.toks)) >>= _) _ _ _
    refine wpAny_bind ?_
    have hlen : us.length = i := by rw [hU.length, List.length_take, KBw.ints_length]; omega
    have hU' : IntsAre (us ++ [Value.int (b[i].toNat : Int) s.toks]) ((KBw.bInts b).take (i + 1)) := by
      rw [List.take_add_one, KBw.ints_get hx]
      exact IntsAre.append hU (.cons _ _ .nil)
    have hs2 := sizeLine_eq
    refine wpAny_updateSeq hS' rfl (wpAny_pure ⟨plainId_quiet PySem.F.plain_extend_loop _, ?_⟩) (by simp; omega) (by show ((vs ++ us).toArray.push _).size ≤ sizeLine + 1; simp; omega)
    have hS₂ := PySem.IsL.update hS' (·.push (Value.int (b[i].toNat : Int) s.toks))
    have e : (vs ++ us).toArray.push (Value.int (b[i].toNat : Int) s.toks) = (vs ++ (us ++ [Value.int (b[i].toNat : Int) s.toks])).toArray := by simp
    rw [e] at hS₂
    refine ih (i + 1) _ (us ++ [Value.int (b[i].toNat : Int) s.toks]) _ (by omega) hlt ?_ hS₂ hU' fun h3 tk us' c' hk3 h4 h5 => ?_
    · obtain ⟨o, ho, q1, q2⟩ := hit'
      exact ⟨o, (Heap.get?_update_other _ _ hSI).trans ho, q1, q2⟩
    · exact hR h3 tk us' c' (fun x o hx1 hx2 q => hk3 x o hx1 hx2 ((Heap.get?_update_other _ _ (Ne.symm hx2)).trans ((hs.2 x hx1).trans q))) h4 h5
theorem inplace_list_bytes {l : Addr} {vs : List Value} {c : Nat} {b : Array UInt8} {tb : Tok} {Q : Value → Shared → Prop} (hh : A.handled = none) (hl : s.heap.get? l = some (listOf vs.toArray c)) (hz : vs.length + b.size ≤ sizeLine)
    (hQ : ∀ h' tk us c', (∀ x o, x ≠ l → s.heap.get? x = some o → h'.get? x = some o) → h'.get? l = some (listOf (vs ++ us).toArray c') → IntsAre us (KBw.bInts b) → Q (.ref l) { s with heap := h', toks := tk }) :
    wpAny (model prog w) A (inplaceOp .Add (.ref l) (.bytes b tb)) Q E s := by
  have hL : s.heap.IsList l vs.toArray := PySem.IsL.isList (n := c) hl
  have hT : s.TypeIs (.ref l) "list" := hL.typeIs
  have hB : s.TypeIs (.bytes b tb) "bytes" := PySem.W.typeIs_bytes s b tb
  unfold inplaceOp
  refine wpAny_holding ?_
  dsimp only [Operator.info]
  refine wpAny_bind (wpAny_typeOf hT ?_)
  refine wpAny_bind (wpAny_of_eq il_fills ?_)
  simp only [Bool.false_eq_true, if_false]
  refine wpAny_bind ?_
  unfold binaryOp1
  dsimp only
  refine wpAny_bind (wpAny_typeOf hT ?_)
  refine wpAny_bind (wpAny_typeOf hB ?_)
  refine wpAny_bind (wpAny_of_eq il_num_list ?_)
  have hne : (Value.type "list" == Value.type "bytes") = false := by decide
  simp only [hne, Bool.false_eq_true, if_false]
  refine wpAny_bind (wpAny_of_eq il_num_bytes ?_)
  simp only [Bool.false_and, Bool.and_false, Bool.false_eq_true, if_false, pure_bind]
  refine wpAny_pure ?_
  try dsimp only
  refine wpAny_bind (wpAny_of_eq il_seq ?_)
  try dsimp only
  refine wpAny_bind (wpAny_rule ?_)
  refine wpAny_call (codeAny_call_builtin PySem.F.plain_list_iadd PySem.F.entry_list_iadd (PySem.F.slot_list_iadd.check _ _ _ _ _ _ _ _ hT (PySem.F.args_list_iadd_2 _ _) ?_))
  show wpAny _ A.in1 (PySem.Builtin.List.listExtendWith (.ref l) (.bytes b tb) (.ref l)) _ _ _
  unfold PySem.Builtin.List.listExtendWith
  refine wpAny_bind (wpAny_typeOf hB ?_)
  have h1 : PySem.Builtin.List.listSameRef (.ref l) (.bytes b tb) = false := rfl
  have h2 : (Value.type "bytes" == Value.type "list") = false := by decide
  have h3 : (Value.type "bytes" == Value.type "tuple") = false := by decide
  simp only [h1, h2, h3, Bool.or_false, Bool.false_eq_true, if_false]
  refine wpAny_bind (KBw.pyIter_bytes ?_)
  refine wpAny_bind (wpAny_holding ?_)
  unfold PySem.Builtin.List.listLengthHint
  have hB' : ({ s with heap := s.heap.push { cls := .type "bytes_iterator", data := .fields #[.bytes b tb, .int 0 0] } } : Shared).TypeIs (.bytes b tb) "bytes" := PySem.W.typeIs_bytes _ b tb
  refine wpAny_bind (wpAny_specialOf hB' FB.slot_bytes_len.lookup ?_)
  dsimp only
  rw [il_split]
  dsimp only
  refine wpAny_bind (wpAny_isInstance hB' PySem.F.bm_sub ?_)
  simp only [Bool.not_true, Bool.false_eq_true, if_false]
  refine bm_if_true (by decide +kernel) ?_
  refine wpAny_bind (wpAny_typeOf hB' ?_)
  refine wpAny_pure ?_
  have hI : KBw.IsBytesIter (s.heap.push { cls := .type "bytes_iterator", data := .fields #[.bytes b tb, .int 0 0] }) s.heap.objs.size b tb 0 := ⟨_, Heap.get?_push_size _ rfl, rfl, rfl⟩
  have hlt : l < s.heap.objs.size := Heap.lt_size hl
  refine bm_if_false (by decide +kernel) ?_
  refine wpAny_pure ⟨plainId_quiet PySem.F.plain_extend_loop _, ?_⟩
  refine ext_loop (S := l) (I := s.heap.objs.size) (vs := vs) (b := b) (tb := tb) hh (Nat.ne_of_lt hlt) hz b.size 0 _ [] c rfl (Nat.zero_le _) hI (by rw [List.append_nil]; exact Heap.get?_push_of_some _ hl) .nil fun h' tk us' c' hk h4 h5 => ?_
  exact hQ h' tk us' c' (fun x o hx q => hk x o (Nat.ne_of_lt (Heap.lt_size q)) hx (Heap.get?_push_of_some _ q)) h4 h5
end
end Mine
namespace Mine

/-! ## A def entered, in wpN -/
section
variable {prog : Program} {w : World} {A : Around} {E : Value → Shared → Prop} {s : Shared} {R : Result → Shared → Prop}
theorem codeNCallFunction {a : Addr} {args : Args} {o : Obj} {fd : FuncData} {body : List Stmt} (hroom : A.depth < recursionLimit)
    (ho : s.heap.get? a = some o) (hd' : o.data = .func fd) (hco : fd.scope.isCoroutine = false) (hgen : fd.scope.isGenerator = false) (hbody : fd.body = .stmts body) (hcd : s.heap.CodeRec fd.code fd.qualname)
    (h : wpAny (model prog w) A.in1 (bindArgs fd args) (fun binds s₁ =>
      wpAny (model prog w) A.in1 (newFunctionEnv fd.scope fd.globals fd.closure binds (fd.qualname ++ ".<locals>.") (some a) fd.code none fd.builtins)
        (fun env s₂ => s₂.heap.NoLimit ∧ codeN (model prog w) A (.func body env) R s₂) (fun e s' => R (.error e) s') s₁) (fun e s' => R (.error e) s') s) :
    codeN (model prog w) A (.call (.ref a) args) R s := by
  refine codeNTree rfl ?_
  show wpN _ A.in1 (callAny (.ref a) args) _ _ s
  simp only [callAny]
  refine nBindAny (wpAny_load ho ?_)
  obtain ⟨c, oc, vs, tq, hc, hoc, hdc, hq⟩ := hcd
  simp only [hd', callFunction, hco, hgen, hbody, hc]
  rw [hc] at h
  refine nBindAny (m := field (.ref c) 1) (wpAny_field hoc hdc hq (nBind (nPure ?_)))
  exact nBindAny (wpAny_mono h (fun binds s₁ h₁ => nBindAny (wpAny_mono h₁ (fun env s₂ h₂ => nBindAny (wpAny_enterFrame h₂.1 hroom
    (nPure (And.intro rfl h₂.2)))) fun _ _ h' => h')) fun _ _ h' => h')

theorem codeNFunc {body : List Stmt} {env : Env}
    (h : wpN (model prog w) (A.deeper env) (execs body env) (fun f s' => R (.ok (.ret (match f with | .ret v => v | _ => .none))) s')
      (fun e s' => wpAny (model prog w) (A.deeper env) (leaving env e) (fun _ s'' => R (.error e) s'') (fun e' s'' => R (.error e') s'') s') s) :
    codeN (model prog w) A (.func body env) R s := by
  refine codeNTree rfl ?_
  show wpN _ (A.deeper env) (do point; match ← (execs body env).onRaise (leaving env) with | .ret v => ret v | _ => ret .none) _ _ s
  refine nBindAny (wpAny_point (nBind (nOnRaise (nMono h (fun f s' h' => ?_) fun _ _ h' => h'))))
  cases f <;> exact nPure h'

variable {K : Frag} {name qual : Str} {params : Arguments} {body : List Stmt} {scope : Scope}
  {dV kV doc pm cdv ct oc : Value} {an od : Option Addr} {osl : Array (Option Value)} {f : Addr} {args : Args} {binds : List (Str × Value)}

theorem enterDefN (X : K.In s.heap) (hlim : s.heap.NoLimit) (ho : K.lookup f = some ⟨oc, od, .func (fnOf name qual params body scope dV kV doc pm an cdv ct), osl⟩)
    (hcd : codeIn K cdv qual = true) (hroom : A.depth < recursionLimit) (hbind : BindsTo s (fnOf name qual params body scope dV kV doc pm an cdv ct) args binds)
    (hloc : ∀ y ∈ binds, scope.names.lookup y.1 = some .local)
    (h : ∀ h₁, Fr s.heap s.heap.objs.size h₁ (fun y => binds.reverse.lookup y) →
      wpN (model prog w) (A.deeper (envOf qual scope s.heap.objs.size f cdv)) (execs body (envOf qual scope s.heap.objs.size f cdv))
        (fun fl s' => R (.ok (.ret (match fl with | .ret v => v | _ => .none))) s')
        (fun e s' => wpAny (model prog w) (A.deeper (envOf qual scope s.heap.objs.size f cdv)) (leaving (envOf qual scope s.heap.objs.size f cdv) e) (fun _ s'' => R (.error e) s'') (fun e' s'' => R (.error e') s'') s')
        { s with heap := h₁, toks := s.toks + binds.length })
    (hcell : ∀ x ∈ scope.names, x.2 ≠ .cell) (hco : scope.isCoroutine = false := by rfl) (hgen : scope.isGenerator = false := by rfl) (hk : scope.kind = .function := by rfl) :
    codeN (model prog w) A (.call (.ref f) args) R s := by
  refine codeNCallFunction hroom (X _ _ ho) rfl hco hgen rfl (codeRec_of X hcd) (hbind _ _ _ _ ?_)
  refine wpAny_newFunctionEnv hcell hloc (fun h₀ hns₀ hsb₀ => ⟨hlim.fresh _ hsb₀, codeNFunc (h h₀ ⟨hns₀, fun b o e => ?_, Nat.le_refl _⟩)⟩) hk
  exact hsb₀.extBut b o (Nat.ne_of_lt (Heap.lt_size e)) (Heap.get?_push_of_some _ e)
end

/-! ## Calls as expressions, in wpN -/
section
variable {M : Model} {A : Around} {E : Value → Shared → Prop} {s : Shared} {env : Env}
theorem nEvalArgs {f : Value} {x : Sem Value} {rest : List (Bool × Sem Value)} {Q : Args → Shared → Prop}
    (h : wpN M A (spliced ((false, x) :: rest)) (fun vs s' => Q ⟨vs, []⟩ s') E s) : wpN M A (evalArgs f true ((false, x) :: rest) []) Q E s := by
  unfold evalArgs
  show wpN M A (spliced ((false, x) :: rest) >>= _) Q E s
  refine nBind (nMono h (fun vs s' h' => ?_) fun _ _ x => x)
  refine nHolding ?_
  exact nBind (nPure (nBind (nPure (nPure h'))))
theorem nSpliced1 {x : Sem Value} {Q : List Value → Shared → Prop} (h : wpN M A x (fun v s₁ => Q [v] s₁) E s) : wpN M A (spliced [(false, x)]) Q E s := by
  rw [spliced]
  refine nBind (nMono h (fun v s₁ h₁ => ?_) fun _ _ x => x)
  simp only [Bool.false_eq_true, if_false]
  exact nBind (nPure (nBind (nHolding (by rw [spliced]; exact nPure (nPure h₁)))))
theorem nCallWith {P : Heap → Prop} {pos : Pos} {f : Value} {args : List (Bool × Sem Value)} {Q : Value → Shared → Prop} (hplain : args.any (·.1) = false)
    (hk : ∀ h, P h → ∃ k, (k = Keeper.frame ∨ k = Keeper.machine ∨ k = Keeper.boundFrame) ∧ Looks M h (keeperOf f) k)
    (h : wpN M A (evalArgs f true args []) (fun a s₁ => P s₁.heap ∧ wpN M A (call f ([] ++ a.pos) a.kw) Q E s₁) E s) : wpN M A (callWith pos f [] args []) Q E s := by
  unfold callWith
  refine nBind (nHolding (nMono h (fun a s₁ h₁ => nBind (nStandAt ?_)) fun _ _ x => x))
  obtain ⟨k, hk', L⟩ := hk _ h₁.1
  simp only [hplain, List.any_nil, Bool.or_false]
  refine nBindAny (L.here ?_)
  have tail : ∀ {t : Sem Value}, wpN M A t Q E s₁ → wpN M A (t >>= fun r => holding [r] point >>= fun _ => pure r) Q E s₁ :=
    fun ht => nBind (nMono ht (fun r s₂ hr => nBindAny (wpAny_holding (wpAny_point (nPure hr)))) fun _ _ x => x)
  have marked (mk : Value) : wpN M A (callMarked mk f ([] ++ a.pos) a.kw) Q E s₁ := by unfold callMarked; exact nKeep h₁.2
  rcases hk' with rfl | rfl | rfl <;> dsimp only <;> first | exact tail h₁.2 | (split <;> first | exact tail h₁.2 | exact tail (marked _))
theorem nCallType {pos : Pos} {T : String} {x : Sem Value} {Q : Value → Shared → Prop} (h : wpN M A x (fun v s₁ => wpN M A (call (.type T) [v]) Q E s₁) E s) :
    wpN M A (callWith pos (.type T) [] [(false, x)] []) Q E s :=
  nCallWith (P := fun _ => True) rfl (fun _ _ => ⟨.machine, .inr (.inl rfl), Looks.of_pure rfl⟩) (nEvalArgs (nSpliced1 (nMono h (fun _ _ q => ⟨trivial, q⟩) fun _ _ q => q)))
theorem eval_call (x : Str) (p pos : Pos) (args : List Expr) : eval (.Call (.Name x p) args [] pos) env = (eval (.Name x p) env >>= fun f => callWith pos f [] (backTo pos (starEach args env)) []) := rfl
end
end Mine
namespace Mine

theorem ns_some_of {K : Frag} {h : Heap} {N : Addr} {mg : Str → Option Value} {n : Str} {v : Value} (X : K.In h) (G : h.Ns N mg) (e : nsIn K N n = some (some v)) : mg n = some v := by
  obtain ⟨o, es, ep, ho, hd, _, hf⟩ := G
  unfold nsIn at e
  split at e
  · rename_i c d es' n' sl q
    have := X _ _ q
    rw [ho] at this
    cases this
    cases hd
    split at e
    · rename_i en he
      cases e
      rw [← hf]
      unfold nsFind findBy
      rw [← Array.find?_toList, he]
      rfl
    · split at e <;> cases e
  · cases e

def excInit (K : Frag) (C fI : Addr) (bm : List Value) (newId : String) : Bool := match K.lookup C with
  | some ⟨.type "type", _, .cls cd, sl⟩ => (match cd.mro, sl.toList with
    | .ref C' :: bm', [_, _, _, _, some (.builtin n), _] => C' == C && n == newId && !cd.hasDel && bm' == bm && nsOkIn K cd.ns && nsIn K cd.ns "__init__" == some (some (.ref fI))
    | _, _ => false)
  | _ => false

theorem init_of_in {K : Frag} {h₀ : Heap} {C fI : Addr} {bm : List Value} {newId : String} (X : K.In h₀) (q : excInit K C fI bm newId = true) :
    ∃ nm qn N bs hdct sn sub ab col dd k0 k1 k2 k3 k5 mN, h₀.get? C = some (excClassObj nm qn C N bs bm hdct sn sub ab col dd k0 k1 k2 k3 k5 newId) ∧ h₀.Ns N mN ∧ mN "__init__" = some (.ref fI) := by
  unfold excInit at q
  split at q
  · rename_i dd cd sl ho
    split at q
    · rename_i C' bm' k0 k1 k2 k3 n k5 hm hs
      simp only [Bool.and_eq_true, beq_iff_eq, Bool.not_eq_true'] at q
      obtain ⟨⟨⟨⟨⟨rfl, rfl⟩, hdel⟩, rfl⟩, hok⟩, hni⟩ := q
      obtain ⟨nm, bs, mro, ns, qn, hd, sn, sub, ab, col, del⟩ := cd
      dsimp only at hm hdel hok hni
      subst hm hdel
      have hsl : sl = #[k0, k1, k2, k3, some (.builtin n), k5] := by
        obtain ⟨l⟩ := sl
        simp only at hs
        rw [hs]
      subst hsl
      have G : h₀.Ns ns _ := .of_isNs (isNs_of_in X hok)
      exact ⟨nm, qn, ns, bs, hd, sn, sub, ab, col, dd, k0, k1, k2, k3, k5, _, X _ _ ho, G, ns_some_of X G hni⟩
    · cases q
  · cases q

/-! ## Exceptions that leave a callee: the caller's ledger stays; and are caught in a frame with cells -/
/-- the caller's ledger, as a leaving callee sees it -/
def Kept (base : Heap) (outer : List Env) (g : Heap) (nl : List (Addr × Obj)) : Prop :=
  ∀ q ∈ nl, g.get? q.1 = some q.2 ∧ base.get? q.1 = none ∧ ∀ env ∈ outer, env.frame ≠ some q.1
theorem Kept.of {base g : Heap} {L : Addr} {E₁ : Env} {nl : List (Addr × Obj)} (N : News base L g nl) (hf : E₁.frame = some L) : Kept base [E₁] g nl := fun q hq =>
  ⟨(N q hq).1, (N q hq).2.2, fun env he e => by
    rw [List.mem_singleton.mp he, hf] at e
    exact (N q hq).2.1 (Option.some.inj e).symm⟩

section
variable {M : Model} {A : Around} {E : Value → Shared → Prop} {s' : Shared} {base g h : Heap} {outer : List Env} {L a e : Addr} {m : Str → Option Value} {name : Str} {scope : Scope} {cd : Value} {Q : Unit → Shared → Prop} {nl : List (Addr × Obj)}
theorem hide_kept (F : Fr g L h m) (Nl : Kept base outer g nl) :
    ∀ q ∈ nl, (hideAll h ((envOf name scope L a cd :: outer).filterMap (·.frame))).get? q.1 = some q.2 ∧ base.get? q.1 = none := fun q hq => by
  obtain ⟨k1, k2, k3⟩ := Nl q hq
  refine ⟨hideAll_get _ (F.keep _ _ k1) fun hm => ?_, k2⟩
  obtain ⟨env, he, hf⟩ := List.mem_filterMap.mp hm
  rcases List.mem_cons.mp he with rfl | he
  · have e1 : L = q.1 := Option.some.inj hf
    exact absurd (Nat.lt_of_lt_of_le (Heap.lt_size k1) F.above) (e1 ▸ Nat.lt_irrefl _)
  · exact k3 env he hf
theorem leave_newL {cls : String} (K : Below A base outer g) (hx : Heap.NewExc h s'.heap e cls) (F : Fr g L h m) (Nl : Kept base outer g nl)
    (hQ : ∀ h', RaisedN base outer e (.type cls) nl h' → g.UpToSlots h' → Q () { s' with heap := h' }) (hk : scope.kind = .function := by rfl) :
    wpAny M (A.deeper (envOf name scope L a cd)) (leaving (envOf name scope L a cd) (.ref e)) Q E s' := by
  have K' := K.push (name := name) (a := a) (cd := cd) F hk
  have hin : ∀ env ∈ (envOf name scope L a cd :: outer), ∀ b, env.frame = some b → b ∈ (envOf name scope L a cd :: outer).filterMap (·.frame) := fun env he b hb => List.mem_filterMap.mpr ⟨env, he, hb⟩
  have st : base.StaysIn (hideAll h ((envOf name scope L a cd :: outer).filterMap (·.frame))) := fun b o q => hideAll_get _ (K'.stays b o q) fun hm => by
    rw [(K'.frames.mem hm).1] at q; cases q
  have hl := hide_kept (name := name) (scope := scope) (a := a) (cd := cd) F Nl
  obtain ⟨ob, tp, he, hcls, hd⟩ := hx.there
  have hen : (hideAll h ((envOf name scope L a cd :: outer).filterMap (·.frame))).get? e = none := by
    cases q : (hideAll h ((envOf name scope L a cd :: outer).filterMap (·.frame))).get? e with
    | none => rfl
    | some o => have := of_hideAll _ q; rw [hx.new] at this; cases this
  refine wpAny_leaving_firstW (a0 := tp) K'.stack ((funFrames_hide K'.frames hin).of_keeps fun b o hb _ => ⟨o, hx.keeps b o hb, rfl⟩) rfl he (fun b o hb => hx.keeps b o (of_hideAll _ hb)) hen hd rfl rfl fun h' hL => ?_
  obtain ⟨k1, ⟨_, _, k2⟩, k3, k4⟩ := hL
  exact hQ h' ⟨_, tp, st, hl, k1, hen, k2, by rw [← hcls]; exact k3⟩ (((Heap.UpToSlots.of_keeps F.keep).trans (Heap.UpToSlots.of_keeps hx.keeps)).trans k4)

theorem leave_madeL {cls : Value} {vs : List Value} (K : Below A base outer g) (hx : Heap.MadeExcOf h s'.heap e cls vs) (F : Fr g L h m) (Nl : Kept base outer g nl)
    (hQ : ∀ h', RaisedN base outer e cls nl h' → g.UpToSlots h' → Q () { s' with heap := h' }) (hk : scope.kind = .function := by rfl) :
    wpAny M (A.deeper (envOf name scope L a cd)) (leaving (envOf name scope L a cd) (.ref e)) Q E s' := by
  have K' := K.push (name := name) (a := a) (cd := cd) F hk
  have hin : ∀ env ∈ (envOf name scope L a cd :: outer), ∀ b, env.frame = some b → b ∈ (envOf name scope L a cd :: outer).filterMap (·.frame) := fun env he b hb => List.mem_filterMap.mpr ⟨env, he, hb⟩
  have st : base.StaysIn (hideAll h ((envOf name scope L a cd :: outer).filterMap (·.frame))) := fun b o q => hideAll_get _ (K'.stays b o q) fun hm => by
    rw [(K'.frames.mem hm).1] at q; cases q
  have hl := hide_kept (name := name) (scope := scope) (a := a) (cd := cd) F Nl
  exact wpAny_leaves_madeW K'.stack rfl (fun b o q => of_hideAll _ q) (funFrames_hide K'.frames hin) hx fun h' t x1 x2 x3 x4 =>
    hQ h' ⟨_, _, st, hl, x1⟩ (((Heap.UpToSlots.of_keeps F.keep).trans (Heap.UpToSlots.of_keeps hx.keeps)).trans x4)
end

section
variable {prog : Program} {w : World} {A₀ : Around} {E : Value → Shared → Prop} {s' : Shared} {h₀ h : Heap} {outer : List Env} {L a e : Addr} {m : Str → Option Value} {cn : Str} {cs : Scope} {cd : Value} {cl : List (Str × Addr)}
  {b₀ : Stmt} {suite : List Stmt} {pos np : Pos} {rest : List ExceptHandler} {Q : Flow → Shared → Prop} {news : List (Addr × Obj)} {KF : Frag}
  {p : Program} {loose : List Str} {mg mb : Str → Option Value} {x : Str} {X T' : String}
theorem caught_X0 (K : Below A₀ h₀ outer h₀) (F : Fr h₀ L h m) (hsm : h.UpToSlots s'.heap) (R : RaisedN h₀ (envX cn cs L a cd cl :: outer) e (.type X) news s'.heap)
    (XK : KF.In h₀) (T : TopRead p loose mg mb h₀) (ex : nsIn KF mainGlobals x = some none) (hv : bootBuiltins x = some (.type T')) (hn : x ≠ "__name__")
    (hexc : isSubtype (.type T') (.type "BaseException") = pure true) (hnt : isSubtype (.type ((Manifest.find? T').elim "type" fun y => y.metatype)) (.type "tuple") = pure false) (hsub : isSubtype (.type X) (.type T') = pure true)
    (k : ∀ h', Fr h₀ L h' m → News h₀ L h' news →
      wpAny (model prog w) ((A₀.deeper (envX cn cs L a cd cl)).mark (some (.ref e))) (execs (b₀ :: suite) (envX cn cs L a cd cl)) Q (fun _ _ => False) { s' with heap := h' })
    (hk : cs.kind = .function := by rfl) (hx : (envX cn cs L a cd cl).kindOf x = some .globalImplicit := by rfl) (hd : (x == ("__debug__" : Str)) = false := by decide) :
    wpAny (model prog w) (A₀.deeper (envX cn cs L a cd cl)) (noteFrame (.ref e) (envX cn cs L a cd cl))
      (fun _ s₂ => wpAny (model prog w) (A₀.deeper (envX cn cs L a cd cl)) (setFlight (.ref e) none) (fun _ s₃ =>
        wpAny (model prog w) (A₀.deeper (envX cn cs L a cd cl)) (handleBy (.ref e) (envX cn cs L a cd cl) (.ExceptHandler (some (.Name x np)) none (b₀ :: suite) pos :: rest)) Q E s₃) E s₂) E s' := by
  obtain ⟨B, a0, hB, hl, hfl⟩ := R
  have hL : B.get? L = none := by
    obtain ⟨_, ⟨L', _, hf, hn', _⟩, _⟩ := hfl.2.2.1
    obtain rfl : L = L' := Option.some.inj hf
    exact hn'
  refine wpAny_looks_onW (Around.frames_deeper K.stack) rfl hfl fun h₄ hheld₄ hsm₄ => ?_
  refine wpAny_landsW hheld₄ fun h₅ hheld hsm₅' => ?_
  have hsm₅ := hsm₄.trans hsm₅'
  have hheld' := flyingW_base hB hheld
  have F₅ := F.of_stays hheld'.1 (hsm.trans hsm₅)
  obtain ⟨ob, hob, hobc⟩ := hheld'.there
  refine wpAny_handleBy_builtin (X := X) (T := T') (b := true) hexc hnt hsub (nameX_B F₅ XK T ex hv hn ⟨rfl, ⟨ob, hob, hobc⟩, ?_⟩ hk hx hd)
  refine lands_againW hheld fun h₆ hfl₆ hsm₆ => ?_
  have F₆ := F.of_stays (flyingW_base hB hfl₆).1 ((hsm.trans hsm₅).trans hsm₆)
  exact wpAny_noRaise (k h₆ F₆ fun q hq => ⟨hfl₆.1 _ _ (hl q hq).1, (fun z => by have := (hl q hq).1; rw [z, hL] at this; cases this), (hl q hq).2⟩)

theorem caught_XO {C fI : Addr} {bm : List Value} {newId : String} {np₂ pos₂ : Pos} {b₁ : Stmt} {suite₂ : List Stmt} {y : Str} (K : Below A₀ h₀ outer h₀) (F : Fr h₀ L h m) (hsm : h.UpToSlots s'.heap) (R : RaisedN h₀ (envX cn cs L a cd cl :: outer) e (.ref C) news s'.heap)
    (XK : KF.In h₀) (T : TopRead p loose mg mb h₀) (q : excInit KF C fI bm newId = true) (ex : nsIn KF mainGlobals x = some none) (hv : bootBuiltins x = some (.type T')) (hn : x ≠ "__name__") (ey : nsIn KF mainGlobals y = some (some (.ref C)))
    (hexc : isSubtype (.type T') (.type "BaseException") = pure true) (hnt : isSubtype (.type ((Manifest.find? T').elim "type" fun y => y.metatype)) (.type "tuple") = pure false) (hb : bm.contains (.type T') = false) (hbase : bm.contains (.type "BaseException") = true)
    (k : ∀ h', Fr h₀ L h' m → News h₀ L h' news →
      wpAny (model prog w) ((A₀.deeper (envX cn cs L a cd cl)).mark (some (.ref e))) (execs (b₁ :: suite₂) (envX cn cs L a cd cl)) Q (fun _ _ => False) { s' with heap := h' })
    (hk : cs.kind = .function := by rfl) (hx : (envX cn cs L a cd cl).kindOf x = some .globalImplicit := by rfl) (hd : (x == ("__debug__" : Str)) = false := by decide)
    (hy : (envX cn cs L a cd cl).kindOf y = some .globalImplicit := by rfl) (hd' : (y == ("__debug__" : Str)) = false := by decide) :
    wpAny (model prog w) (A₀.deeper (envX cn cs L a cd cl)) (noteFrame (.ref e) (envX cn cs L a cd cl))
      (fun _ s₂ => wpAny (model prog w) (A₀.deeper (envX cn cs L a cd cl)) (setFlight (.ref e) none) (fun _ s₃ =>
        wpAny (model prog w) (A₀.deeper (envX cn cs L a cd cl)) (handleBy (.ref e) (envX cn cs L a cd cl) (.ExceptHandler (some (.Name x np)) none (b₀ :: suite) pos :: .ExceptHandler (some (.Name y np₂)) none (b₁ :: suite₂) pos₂ :: rest)) Q E s₃) E s₂) E s' := by
  obtain ⟨B, a0, hB, hl, hfl⟩ := R
  have hL : B.get? L = none := by
    obtain ⟨_, ⟨L', _, hf, hn', _⟩, _⟩ := hfl.2.2.1
    obtain rfl : L = L' := Option.some.inj hf
    exact hn'
  refine wpAny_looks_onW (Around.frames_deeper K.stack) rfl hfl fun h₄ hheld₄ hsm₄ => ?_
  refine wpAny_landsW hheld₄ fun h₅ hheld hsm₅' => ?_
  have hsm₅ := hsm₄.trans hsm₅'
  have hheld' := flyingW_base hB hheld
  have F₅ := F.of_stays hheld'.1 (hsm.trans hsm₅)
  obtain ⟨ob, hob, hobc⟩ := hheld'.there
  obtain ⟨nm, qn, N, bs, hdct, sn, sub, ab, col, dd, k0, k1, k2, k3, k5, mN, hC, hN, hni⟩ := init_of_in (XK.keeps F₅.keep) q
  refine wpAny_handleBy_cons (codeAny_handlers_test (nameX_B F₅ XK T ex hv hn ?_ hk hx hd)) (by intro q; cases q)
  refine wpAny_excMatches_sub_type hC hob hobc hexc hnt ?_
  rw [hb]
  refine wpAny_handleBy_cons (codeAny_handlers_test (nameX_K F₅ XK T ey ?_ hk hy hd')) (by intro q; cases q)
  refine wpAny_excMatches_sub_self hC hob hobc hbase (codeAny_handlers_suite ?_)
  refine lands_againW hheld fun h₆ hfl₆ hsm₆ => ?_
  have F₆ := F.of_stays (flyingW_base hB hfl₆).1 ((hsm.trans hsm₅).trans hsm₆)
  exact wpAny_noRaise (k h₆ F₆ fun q hq => ⟨hfl₆.1 _ _ (hl q hq).1, (fun z => by have := (hl q hq).1; rw [z, hL] at this; cases this), (hl q hq).2⟩)
end
end Mine
namespace Mine

def PackJ (fx : List (Str × Value)) (a : Addr) (size : Int) (n : Nat) (m : Str → Option Value) (news : List (Addr × Obj)) : Prop :=
  ∃ pre c vs tc cnt cur tr, news = [(a, listOf vs.toArray cnt)] ∧ m (Str.ofString "header") = some (.ref a) ∧ m (Str.ofString "c") = some (.int c tc) ∧ m (Str.ofString "size") = some (.int cur tr) ∧ (∀ p ∈ fx, m p.1 = some p.2) ∧ IntsAre vs pre ∧
    pre ++ octs c cur.toNat = headOcts size ∧ 0 ≤ cur ∧ 0 ≤ c ∧ c < 128 ∧ (∀ x ∈ pre, 0 ≤ x ∧ x < 256) ∧ n = cur.toNat

theorem bor_128 {c : Int} (h0 : 0 ≤ c) (h1 : c < 128) : PySem.Builtin.bitOr c 128 = c + 128 := by
  have k : ∀ n < 128, n &&& 128 = 0 := by decide
  rw [bitOr_and, bitAnd_pp h0 (by decide)]
  have e : (c.toNat &&& (128 : Int).toNat) = 0 := k c.toNat (by omega)
  rw [e]
  omega
theorem bor_head (size : Int) : PySem.Builtin.bitOr (7 * 2 ^ Int.toNat 4) (PySem.Builtin.bitAnd size 15) = 112 + size.fmod 16 := by
  have k : ∀ n < 16, 112 &&& n = 0 := by decide
  have e0 : (7 * 2 ^ Int.toNat 4 : Int) = 112 := by decide
  rw [bitAnd_m4, e0, Int.fmod_eq_emod_of_nonneg _ (by decide), bitOr_and, bitAnd_pp (by decide) (by omega)]
  have e : ((112 : Int).toNat &&& (size % 16).toNat) = 0 := k (size % 16).toNat (by omega)
  rw [e]
  omega
theorem band_127 (x : Int) : PySem.Builtin.bitAnd x 127 = x.fmod 128 := by rw [bitAnd_m7, Int.fmod_eq_emod_of_nonneg _ (by decide)]
theorem shr_4 (x : Int) : x.fdiv (2 ^ Int.toNat 4) = x.fdiv 16 := rfl
theorem three_named {m : Str → Option Value} {x y z : Str} {u v w : Value} {fx : List (Str × Value)} (h1 : m x = some u) (h2 : m y = some v) (h3 : m z = some w) (hf : ∀ p ∈ fx, m p.1 = some p.2) : ∀ p ∈ (x, u) :: (y, v) :: (z, w) :: fx, m p.1 = some p.2 := by
  intro p hp
  rcases List.mem_cons.mp hp with rfl | hp
  · exact h1
  rcases List.mem_cons.mp hp with rfl | hp
  · exact h2
  rcases List.mem_cons.mp hp with rfl | hp
  · exact h3
  · exact hf p hp

theorem fr_but {h₀ h h' : Heap} {L l : Addr} {m : Str → Option Value} (F : Fr h₀ L h m) (hl : l ≠ L) (hn : h₀.get? l = none) (hk : ∀ x o, x ≠ l → h.get? x = some o → h'.get? x = some o) : Fr h₀ L h' m := by
  obtain ⟨oL, es, ep, hL, r⟩ := F.ns
  refine ⟨⟨oL, es, ep, hk L oL (Ne.symm hl) hL, r⟩, fun b o e => hk b o (fun q => ?_) (F.keep b o e), F.above⟩
  rw [q, hn] at e; cases e

theorem byteArr_append (a b : List Int) : byteArr (a ++ b) = byteArr a ++ byteArr b := by simp [byteArr]
theorem byteArr_ints (b : Array UInt8) : byteArr (KBw.bInts b) = b := by
  apply Array.toList_inj.mp
  simp only [byteArr, KBw.bInts, List.map_map]
  have e : ((fun n : Int => n.toNat.toUInt8) ∘ fun c : UInt8 => (c.toNat : Int)) = id := by
    funext c
    simp
  rw [e, List.map_id]

theorem pack_callN {prog : Program} {w : World} {H : Heap} {mg mb : Str → Option Value} {mean : ExcName → Option Value} {s : Shared} {L : Addr} {m : Str → Option Value} {E₁ : Env} {size len : Int} {ts t7 tn tl : Tok} {nm : Array UInt8}
    {sh dsh : Addr} {es : List DictEntry} {n : Nat} {Q E : Value → Shared → Prop}
    (D : lawB w H mg mb mean) (F : Fr H L s.heap m) (hf : E₁.frame = some L) (hke : E₁.scope.kind = .function) (h0 : 0 ≤ size) (hlen : (headOcts size).length ≤ 20) (hnm : nm.size ≤ 100)
    (I : InstAt s.heap sh (instObj 80 dsh) 80 (some (dictOf es n))) (hget : getL (Str.ofString "oid_length") es = some (some (.int len tl)))
    (hQ : (nm.size : Int) = len → ∀ h' tk S, (∀ b o, s.heap.get? b = some o → h'.get? b = some o) → s.heap.get? S = none → h'.get? S = some (baObj (byteArr (headOcts size) ++ nm)) → Q (.ref S) { s with heap := h', toks := tk })
    {nl : List (Addr × Obj)} (N₀ : News H L s.heap nl)
    (hE : (nm.size : Int) ≠ len → ∀ h' tk e, RaisedN H [E₁] e (.type "AssertionError") nl h' → s.heap.UpToSlots h' → E (.ref e) { s with heap := h', toks := tk }) :
    wpN (model prog w) (callerA.deeper E₁) (call (.ref 56) [.int 7 t7, .bytes nm tn, .int size ts, .ref sh] []) Q E s := by
  have hfill : (PySem.Challenge.rw_jq0003_01, hd.heap_39) = (PySem.Challenge.rw_jq0003_01, hd.heap_39) := by k_fill; rfl
  clear hfill
  w_on
  w_top on
  k_with_none
  have X := D.1.keeps F.keep
  have T := D.2.keeps F.keep
  have B := pushX (below_caller H) F hf hke
  refine nCall ?_
  refine' enterDefN (binds := [(Str.ofString "type_num", Value.int 7 t7), (Str.ofString "delta_base", .bytes nm tn), (Str.ofString "size", Value.int size ts), (Str.ofString "object_format", .ref sh)]) ?k1 ?k2 ?k3 ?k4 ?k5 ?k6 ?k7 ?_ ?k8 ?k9 ?k10 ?k11
  case k1 => exact X
  case k2 => exact T.nolimit
  case k3 => k_is
  case k4 => k_is
  case k5 => k_room
  case k6 => exact BindsTo.of_eq rfl
  case k7 => exact locs rfl
  case k8 => decide
  case k9 => exact rfl
  case k10 => exact rfl
  case k11 => exact rfl
  have z1 : 0 ≤ size.fmod 16 ∧ size.fmod 16 < 16 := by rw [Int.fmod_eq_emod_of_nonneg _ (by decide)]; omega
  have z2 : 0 ≤ size.fdiv 16 := by rw [Int.fdiv_eq_ediv_of_nonneg _ (by decide)]; omega
  intro h₁ F'
  have N' : News s.heap s.heap.objs.size h₁ [] := News.nil
  change wpN _ _ (execs ([_, _, _, _, _, _] ++ [_]) _) _ _ _
  refine nExecsAny ?_
  k_fold
  k_with "exec While Name cons nil" =>
    k_here
    rename Fr _ _ _ _ => lF'
    rename News _ _ _ _ => lN'
    k_dflt (
      refine' While_inv2 (PackJ [(Str.ofString "type_num", Value.int 7 t7), (Str.ofString "delta_base", .bytes nm tn), (Str.ofString "object_format", .ref sh)] _ size) lF' lN' (n₀ := (size.fdiv 16).toNat) ?start ?turn ?hE
      case hE => first | passes_own | with_unfolding_all passes_own
      case start => exact ⟨[], 112 + size.fmod 16, [], _, _, size.fdiv 16, _, by with_unfolding_all rfl, by with_unfolding_all rfl, by rw [← bor_head]; with_unfolding_all rfl, by with_unfolding_all rfl, by kst_all, IntsAre.nil, rfl, by omega, by omega, by omega, (fun _ hx => nomatch hx), rfl⟩
      intro n₂ m₂ news₂ h₂ tk₂ F₂ N₂ J₂
      obtain ⟨pre, c, vs, tc, cnt, cur, tr, rfl, j1, j2, j2b, jf, j3, j4, j5, j6, j7, j8, rfl⟩ := J₂
      replace F₂ := fr_b (three_named j1 j2 j2b jf) F₂
      clear j1 j2 j2b jf lF' lN'
      have hv : vs.length ≤ 20 := by
        have q := congrArg List.length j4
        rw [List.length_append] at q
        have q2 := j3.length
        omega
      try dsimp only)
  k_with "getAttr ref" =>
    k_here
    rename Fr _ _ _ _ => lF'
    k_dflt (
      refine' get_own lF' X ⟨lF'.keep _ _ I.at_, I.cls, I.no, lF'.keep _ _ (show s.heap.get? dsh = some (dictOf es n) from I.dict)⟩ ?k4 ?k5 ?k6 ?k7 hget ?k9 ?_
      case k4 => k_is
      case k5 => k_is
      case k6 => k_is
      case k7 => k_is
      case k9 => rfl
      try dsimp only)
  k_with "inplaceOp Add ref bytes" =>
    k_here
    rename Fr _ _ _ _ => lF'
    rename News _ _ _ _ => lN'
    k_dflt (
      have z := lN' _ (List.mem_singleton.mpr rfl)
      refine' inplace_list_bytes rfl z.1 ?sz ?_
      case sz =>
        have hz := sizeLine_eq
        simp only [List.length_append, List.length_cons, List.length_nil]
        omega
      intro h₃ tk₃ us₃ c₃ hk₃ hS₃ hU₃
      have F₃ := fr_but lF' z.2.1 z.2.2 hk₃
      have N₃ : News s.heap s.heap.objs.size h₃ [(_, listOf (vs ++ [Value.int c tc] ++ us₃).toArray c₃)] := fun p hp => by
        rw [List.mem_singleton.mp hp]
        exact ⟨hS₃, z.2⟩
      clear z hk₃ hS₃ lF' lN'
      try dsimp only)
  k_with "leaving ref" =>
    k_here
    k_dflt (
      refine' leave_newL ?k1 ?k0 ?k2 (Kept.of N₀ hf) ?_
      case k0 => assumption
      case k1 => assumption
      case k2 => assumption
      intro h' R' U'
      try dsimp only at R' U' ⊢)
  repeat' (first | (k_unfold; (try dsimp only)) | (k_end; wrow_close) | (walk1; (try dsimp only)) | (leave1; walk_say "STEP leave1"; try dsimp only))
  · rename ¬cur = 0 => hr
    rename Fr s.heap _ _ _ => lF
    rename News _ _ _ _ => lN
    rw [List.push_toArray] at lN
    have e0 := bor_128 j6 j7
    have e1 : (PySem.Builtin.bitAnd cur 127 : Int) = ((cur.toNat % 128 : Nat) : Int) := by rw [bitAnd_m7]; omega
    have e2 : (cur.fdiv (2 ^ Int.toNat 7)).toNat = cur.toNat / 128 := by rw [show ((2 : Int) ^ Int.toNat 7) = 128 from rfl, Int.fdiv_eq_ediv_of_nonneg _ (by decide)]; omega
    have e3 : 0 ≤ cur.fdiv (2 ^ Int.toNat 7) := by rw [show ((2 : Int) ^ Int.toNat 7) = 128 from rfl, Int.fdiv_eq_ediv_of_nonneg _ (by decide)]; omega
    have e4 : octs c cur.toNat = PySem.Builtin.bitOr c 128 :: octs (PySem.Builtin.bitAnd cur 127) (cur.fdiv (2 ^ Int.toNat 7)).toNat := by rw [octs_more c (by omega), e0, e1, e2]
    refine ⟨_, _, _, _, (cur.fdiv (2 ^ Int.toNat 7)).toNat, rfl, lF, lN, by rw [e2]; omega, pre ++ [PySem.Builtin.bitOr c 128], PySem.Builtin.bitAnd cur 127, vs ++ [_], _, _, cur.fdiv (2 ^ Int.toNat 7), _, rfl, rfl, rfl, rfl, by kst_all,
      IntsAre.append j3 (.cons _ _ .nil), ?_, e3, by rw [e1]; omega, by rw [e1]; omega, ?_, rfl⟩
    · rw [← j4, e4]; simp
    · intro x hx
      rcases List.mem_append.mp hx with hx | hx
      · exact j8 x hx
      · rw [List.mem_singleton.mp hx, e0]; omega
  · refine nExecs (nReturn ?_)
    show wpN _ _ (eval (.Name _ _) _ >>= fun f => callWith _ f [] (backTo _ (starEach _ _)) []) _ _ _
    refine nBindAny ?_
    repeat' (first | (walk1; (try dsimp only)))
    refine nCallType ?_
    simp only [Bool.false_eq_true, if_false]
    refine nAny ?_
    repeat' (first | (walk1; (try dsimp only)))
    rename Fr s.heap _ _ _ => lF
    rename News _ _ _ _ => lN
    have z := lN _ (List.mem_singleton.mpr rfl)
    have hz := sizeLine_eq
    have hp := j3.length
    refine call_bytearray (PySem.IsL.isList z.1) (IntsAre.append (IntsAre.append j3 (.cons _ _ .nil)) (by assumption)) ?_ ?_ fun h₉ hk₉ hS₉ => ?_
    · intro x hx
      rcases List.mem_append.mp hx with hx | hx
      · rcases List.mem_append.mp hx with hx | hx
        · exact j8 x hx
        · rw [List.mem_singleton.mp hx]; omega
      · exact KBw.ints_in hx
    · rw [List.length_append, List.length_append, KBw.ints_length]
      simp only [List.length_cons, List.length_nil]
      omega
    · have e : pre ++ [c] = headOcts size := by rw [← j4, octs_nil c (by omega)]
      rw [e, byteArr_append, byteArr_ints] at hS₉
      exact hQ (by assumption) _ _ _ (fun b o q => hk₉ _ _ (lF.keep b o q)) (none_at_size lF) hS₉
  · rename RaisedN _ _ _ _ _ _ => lR
    rename Heap.UpToSlots _ _ => lU
    exact hE (by assumption) _ _ _ lR lU
end Mine
namespace Mine


theorem slice_1 {prog : Program} {w : World} {A : Around} {E : Value → Shared → Prop} {hp : Heap} {g : Array GenState} {d : Drawn} {tk : Nat} {os : OsState} {h₀ : Heap} {L : Addr} {m : Str → Option Value} {news : List (Addr × Obj)} {value slice : Expr} {l : Addr} {vs : List Value} {t : Tok} {Q : Value → Shared → Prop}
    (F : Fr h₀ L hp m) (N : News h₀ L hp news) (hl : hp.IsList l vs.toArray) (h1 : 1 ≤ vs.length) (hsz : vs.length ≤ sizeLine)
    (hs : subscripted slice false (.ref l) (.ref hp.objs.size) = operate [.ref hp.objs.size, .ref l] (getItem (.ref l) (.ref hp.objs.size)))
    (ht : ∀ r, letTemporaryGo value (.ref l) r = pure ())
    (h : ∀ h', Fr h₀ L h' m → News h₀ L h' ((hp.objs.size + 1, listOf (vs.drop 1).toArray 0) :: news) → Q (.ref (hp.objs.size + 1)) ⟨h', g, d, tk, os⟩) :
    wpAny (model prog w) A (subscriptTail value slice (.ref l) (.ref hp.objs.size)) Q E ⟨hp.push { cls := .type "slice", data := .fields #[.int 1 t, .none, .none] }, g, d, tk, os⟩ := by
  refine slice_list (s := ⟨hp, g, d, tk, os⟩) (lo := some 1) (hi := none) F N hl (.int _ _) .none (fun h' F' N' => h h' F' ?_) hs ht (by simpa using hsz)
  have e : slicePick vs.toArray (some 1) none none = (vs.drop 1).toArray := by
    have := slicePick_from vs.toArray 1 (by simpa using h1)
    simpa using this
  rw [e] at N'
  exact N'


theorem bits100 {a n : Int} (h0 : 0 ≤ a) (ha : a < 2 ^ 100) (hn : n ≤ 1000000) : (Builtin.Int.intBits a : Int) + n ≤ 2 ^ 27 := by
  have hb : Builtin.Int.intBits a ≤ 100 := intBits_le (by omega)
  omega

/-- a turn's end: it goes on, nothing new stays -/
def TurnEnd (h₀ : Heap) (L : Addr) (g : Array GenState) (d : Drawn) (os : OsState) (J : (Str → Option Value) → Prop) (led : List (Addr × Obj)) (f : Flow) (s₂ : Shared) : Prop :=
  f = .next ∧ ∃ h' tk'' m₂, s₂ = ⟨h', g, d, tk'', os⟩ ∧ Fr h₀ L h' m₂ ∧ News h₀ L h' led ∧ J m₂
theorem TurnEnd.of {h₀ h' : Heap} {L : Addr} {g : Array GenState} {d : Drawn} {tk : Nat} {os : OsState} {J : (Str → Option Value) → Prop} {led : List (Addr × Obj)} {m₂ : Str → Option Value} (F : Fr h₀ L h' m₂) (N : News h₀ L h' led) (j : J m₂) :
    TurnEnd h₀ L g d os J led .next ⟨h', g, d, tk, os⟩ := ⟨rfl, h', tk, m₂, rfl, F, N, j⟩

section
variable {prog : Program} {w : World} {A : Around} {E : Value → Shared → Prop} {env : Env} {h₀ : Heap} {x : Str} {body : List Stmt} {Q : Flow → Shared → Prop}
/-- a for over a list of ints of the ledger whose turns make nothing that stays -/
theorem iter_U {hp : Heap} {g : Array GenState} {d : Drawn} {tk : Nat} {os : OsState} {l : Addr} {vs : List Value} {ns : List Int} {nn : Nat} {m₀ : Str → Option Value} {news : List (Addr × Obj)} (J : Nat → (Str → Option Value) → Prop)
    (hh : A.handled = none) (hl : (l, listOf vs.toArray nn) ∈ news) (hi : IntsAre vs ns) (F : Fr h₀ env.locals hp m₀) (N : News h₀ env.locals hp news) (hj : J 0 m₀)
    (turn : ∀ i n t m₁ h tk' own, ns[i]? = some n → J i m₁ → Fr h₀ env.locals h (fun y => if y = x then some (.int n t) else m₁ y) → News h₀ env.locals h (own ++ news) →
      wpAny (model prog w) A (execs body env) (TurnEnd h₀ env.locals g d os (J (i + 1)) (own ++ news)) E ⟨h, g, d, tk', os⟩)
    (done : ∀ m₁ h tk', J ns.length m₁ → Fr h₀ env.locals h m₁ → News h₀ env.locals h news → Q .next ⟨h, g, d, tk', os⟩) :
    wpAny (model prog w) A (pyIter (.ref l)) (fun it s₂ => LoopAtV prog w A h₀ env x body Q E it s₂) E ⟨hp, g, d, tk, os⟩ := by
  have hol : hp.get? l = some (listOf vs.toArray nn) := (N _ hl).1
  have hls : hp.IsList l vs.toArray := ⟨_, hol, rfl, nn, rfl⟩
  have hne : l ≠ hp.objs.size := Nat.ne_of_lt (Heap.lt_size hol)
  refine wpAny_pyIter_list (s := ⟨hp, g, d, tk, os⟩) hls ?_
  have W := Walks.list (prog := prog) (w := w) hh hp.objs.size l hne vs.toArray
  have hlen : vs.toArray.size = ns.length := by simp [hi.length]
  rw [hlen] at W
  refine ⟨_, _, _, ns.length, _, _, m₀, news, (fun i m nx => nx = news ∧ J i m), rfl, W, ?_, ?_, ?_, ⟨⟨_, Heap.get?_push_size _ rfl, rfl, rfl⟩, hls.at fun o e => Heap.get?_push_of_some _ e⟩, F.push _, (fun p hp => ⟨Heap.get?_push_of_some _ (N p hp).1, (N p hp).2⟩), ⟨rfl, hj⟩, ?_, ?_⟩
  · intro hm
    rcases List.mem_cons.mp hm with e | hm
    · exact absurd F.ns.lt (e ▸ Nat.lt_irrefl _)
    · exact (N _ hl).2.1 ((List.mem_singleton.mp hm).symm)
  · intro b hb
    rw [List.mem_singleton.mp hb]
    exact next_is_new F
  · intro p hp hI
    exact absurd (Heap.lt_size (N p hp).1) ((List.mem_singleton.mp hI) ▸ Nat.lt_irrefl _)
  · rintro i v m₁ news₁ _ own ⟨h, tk', rfl⟩ hin hP ⟨rfl, hJ⟩ hoff hown hget hfp _ F₁ N₁
    obtain ⟨t, hx⟩ := hi.get i ns[i] (by simp [hin])
    have hv : v = .int ns[i] t := by
      have hP' : vs[i]? = some v := by simpa using hP
      rw [hx] at hP'; exact (Option.some.inj hP').symm
    subst hv
    refine wpAny_mono (turn i ns[i] t m₁ h tk' own (by simp [hin]) hJ F₁ N₁) (fun f s₂ p => ?_) fun _ _ e => e
    obtain ⟨rfl, h', tk'', m₂, rfl, F₂, N₂, J₂⟩ := p
    exact .next ⟨rfl, h', tk'', m₂, _, rfl, F₂, N₂, hoff, rfl, J₂⟩
  · rintro h' tk m' news' F' N' _ ⟨rfl, hJ⟩
    exact done m' h' tk hJ F' N'
end

def decS (c : Int) (l : List Int) : Int := l.foldl (fun a n => (a + 1) * 128 + PySem.Builtin.bitAnd n 127) c
def decOf (ns : List Int) : Int := decS (PySem.Builtin.bitAnd (ns.getD 0 0) 127) (ns.drop 1)
theorem decS_more (c : Int) (l : List Int) (n : Int) : decS c (l ++ [n]) = (decS c l + 1) * 128 + PySem.Builtin.bitAnd n 127 := by simp [decS]
theorem band_range (n : Int) : 0 ≤ PySem.Builtin.bitAnd n 127 ∧ PySem.Builtin.bitAnd n 127 < 128 := by rw [bitAnd_m7]; omega
theorem decS_both {c : Int} (h0 : 0 ≤ c) (hc : c < 128) (l : List Int) : 0 ≤ decS c l ∧ decS c l < 2 * 128 ^ (l.length + 1) - 2 := by
  rcases List.eq_nil_or_concat l with e | ⟨l', n, e⟩
  · subst e
    simp [decS]
    omega
  · rw [List.concat_eq_append] at e
    subst e
    have ih := decS_both h0 hc l'
    rw [decS_more, List.length_append, List.length_singleton, Int.pow_succ]
    have := band_range n
    omega
termination_by l.length
decreasing_by subst e; simp

def Fits (a : Int) : Prop := 0 ≤ a ∧ a < 2 ^ 99
theorem fits_shift {a : Int} (h : Fits a) : (Builtin.Int.intBits (a + 1) : Int) + 7 ≤ 2 ^ 27 := bits100 (by unfold Fits at h; omega) (by unfold Fits at h; omega) (by decide)
theorem decS_fits {c : Int} (h0 : 0 ≤ c) (hc : c < 128) (l : List Int) (hl : l.length ≤ 11) : Fits (decS c l) := by
  have h := decS_both h0 hc l
  refine ⟨h.1, ?_⟩
  have q : (128 : Int) ^ (l.length + 1) ≤ 128 ^ 12 := by
    have := Nat.pow_le_pow_right (n := 128) (by decide) (show l.length + 1 ≤ 12 by omega)
    exact_mod_cast this
  omega
theorem dec_turn {c : Int} {l : List Int} {i : Nat} {n : Int} (h : l[i]? = some n) : (decS c (l.take i) + 1) * 2 ^ Int.toNat 7 + PySem.Builtin.bitAnd n 127 = decS c (l.take (i + 1)) := by
  rw [List.take_add_one, h]
  exact (decS_more c (l.take i) n).symm
theorem dec_whole (ns : List Int) : decS (PySem.Builtin.bitAnd (ns.getD 0 0) 127) ((ns.drop 1).take (ns.drop 1).length) = decOf ns := by rw [List.take_length]; rfl
end Mine
namespace Mine


theorem init_39 (w : World) : excInit (hd.heap_39 w.params) 39 36 [.type "Exception", .type "BaseException", .type "object"] "Exception.__new__" = true := by kernel_rfl


theorem exc_init_call {prog : Program} {w : World} {A : Around} {E : Value → Shared → Prop} {hp : Heap} {g : Array GenState} {d : Drawn} {tk : Nat} {os : OsState} {nm q : Str} {C N : Addr} {bs bm : List Value} {hdct : Bool} {sn : List Str} {sub : List Value} {ab : Bool} {col : Option Bool} {dd : Option Addr} {k0 k1 k2 k3 k5 : Option Value} {B newId initId : String}
    (F : ExcBaseFacts B newId initId bm) {rest : List Value} {e t0 : Addr} {Q : Value → Shared → Prop}
    (hC : hp.get? C = some (excClassObj nm q C N bs bm hdct sn sub ab col dd k0 k1 k2 k3 k5 newId)) (he : hp.get? e = some { cls := .ref C, data := .fields #[.ref t0, .none, .none, .none, .bool false, .none] })
    (hq : ∀ h', (∀ b o, b ≠ e → hp.get? b = some o → h'.get? b = some o) → (∃ t', hp.get? t' = none ∧ h'.get? t' = some { cls := .type "tuple", data := .seq rest.toArray } ∧ h'.get? e = some { cls := .ref C, data := .fields #[.ref t', .none, .none, .none, .bool false, .none] }) → Q .none ⟨h', g, d, tk, os⟩)
    (hrest : rest.length ≤ sizeLine := by size_fits) :
    wpAny (model prog w) A (call (.builtin initId) (.ref e :: rest)) Q E ⟨hp, g, d, tk, os⟩ := by
  refine wpAny_call (codeAny_call_builtin F.init.plain F.initEntry (wpAny_check_init_sub F hC he rfl ?_))
  wp_walk
  have hlt := Heap.lt_size he
  refine hq _ (fun b o hne hb => ?_) ⟨hp.objs.size, Heap.get?_none_of_le (Nat.le_refl _), ?_, ?_⟩
  · rw [Heap.get?_update_other _ _ hne.symm]
    exact Heap.get?_push_of_some _ hb
  · rw [Heap.get?_update_other _ _ (Nat.ne_of_lt hlt)]
    exact Heap.get?_push_at rfl rfl
  · rw [Heap.get?_update_self _ (Heap.get?_push_of_some _ he) rfl]
    rfl

set_option maxHeartbeats 2000000 in
theorem apply_call {prog : Program} {w : World} {mg mb : Str → Option Value} {mean : ExcName → Option Value} {A : Around} {s : Shared} {x : Str} {t : Tok} {Q E : Value → Shared → Prop}
    (D : lawB w s.heap mg mb mean) (hroom : (A.under (.builtin "type.__call__" ⟨[.ref 39, .str x t], []⟩)).depth < recursionLimit)
    (hQ : ∀ h' e tk, Heap.MadeExcOf s.heap h' e (.ref 39) [.str x t] → Q (.ref e) { s with heap := h', toks := tk }) :
    wpAny (model prog w) A (call (.ref 39) [.str x t]) Q E s := by
  have hfill : (PySem.Challenge.rw_jq0003_01, hd.heap_39) = (PySem.Challenge.rw_jq0003_01, hd.heap_39) := by k_fill; rfl
  clear hfill
  w_on
  w_top on
  k_with_none
  obtain ⟨h, g, d, tk, os⟩ := s
  have X := D.1
  have T := D.2
  dsimp only at X T hQ
  obtain ⟨nm, qn, N, bs, hdct, sn, sub, ab, col, dd, k0, k1, k2, k3, k5, mN, hC, hN, hi⟩ := init_of_in X (init_39 w)
  refine wpAny_call_exc_init (fI := 36) PySem.F.excBase_Exception hC hN hi (X 36 _ rfl) rfl fun h₁ e M => ?_
  refine wpAny_call ?_
  refine' enterDef (binds := [(Str.ofString "self", Value.ref e), (Str.ofString "message", Value.str x t)]) ?k1 ?k2 ?k3 ?k4 ?k5 ?k6 ?k7 ?_ ?k8 ?k9 ?k10 ?k11
  case k1 => exact X.keeps M.keeps
  case k2 => exact (T.keeps M.keeps).nolimit
  case k3 => k_is
  case k4 => k_is
  case k5 => exact hroom
  case k6 => exact binds_K (X.keeps M.keeps) rfl rfl rfl rfl rfl
  case k7 => exact locs rfl
  case k8 => decide
  case k9 => exact rfl
  case k10 => exact rfl
  case k11 => exact rfl
  intro h₂ F'
  have X' := X.keeps M.keeps
  have T' := T.keeps M.keeps
  clear X T
  have N' : News h₁ h₁.objs.size h₂ [] := News.nil
  dsimp only at F'
  change wpAny _ _ _ _ _ _
  k_fold
  k_with "getMethod type:Exception" =>
    k_here
    rename Fr _ _ _ _ => lF'
    k_dflt (
      refine' method_type lF' X' ?m (by decide +kernel) ?e ?h ?_
      case m => first | rfl | kernel_rfl
      case e => k_is
      case h => first | rfl | k_handed
      try dsimp only)
  repeat' (first | (k_unfold; (try dsimp only)) | (walk1; (try dsimp only)) | (leave1; walk_say "STEP leave1"; try dsimp only))
  obtain ⟨t0, ht0, hn0, hs0⟩ := M.there
  rename Fr h₁ _ _ _ => lF
  refine exc_init_call PySem.F.excBase_Exception (lF.keep _ _ (M.keeps _ _ hC)) (lF.keep _ _ ht0) fun h' hk ht' => ?_
  repeat' (first | (k_unfold; (try dsimp only)) | (walk1; (try dsimp only)))
  obtain ⟨t', hn', hs', he'⟩ := ht'
  have hM : h.MadeExcOf h' e (.ref 39) [.str x t] := by
    refine ⟨fun b o hb => hk b o (fun q => ?_) (lF.keep b o (M.keeps b o hb)), M.new, t', he', ?_, hs'⟩
    · rw [q, M.new] at hb; cases hb
    · cases q : h.get? t' with
      | none => rfl
      | some o => rw [lF.keep _ _ (M.keeps _ _ q)] at hn'; cases hn'
  exact hQ h' e _ hM
end Mine
namespace Mine
theorem raise_39 {prog : Program} {w : World} {mg mb : Str → Option Value} {mean : ExcName → Option Value} {A : Around} {s : Shared} {h₀ : Heap} {L a : Addr} {m : Str → Option Value} {name msg : Str} {scope : Scope} {cd : Value} {np pos cpos p₁ : Pos} {k : Nat} {Q : Flow → Shared → Prop} {E : Value → Shared → Prop}
    (D : lawB w h₀ mg mb mean) (F : Fr h₀ L s.heap m) (hh : A.handled = none) (hroom : ∀ x, (A.under (.builtin "type.__call__" ⟨[.ref 39, x], []⟩)).depth < recursionLimit)
    (hx : ∀ P : Value → Shared → Prop, P (.ref 39) s → wpAny (model prog w) A (eval (.Name "ApplyDeltaError" np) (envOf name scope L a cd)) P E s)
    (hE : ∀ h' e tk t, Heap.MadeExcOf s.heap h' e (.ref 39) [.str msg t] → E (.ref e) { s with heap := h', toks := tk }) :
    wpAny (model prog w) A (exec (.Raise (some (.Call (.Name "ApplyDeltaError" np) [.Constant (.str msg) k p₁] [] cpos)) none pos) (envOf name scope L a cd)) Q E s := by
  obtain ⟨nm, qn, N, bs, hdct, sn, sub, ab, col, dd, k0, k1, k2, k3, k5, mN, hC, hN, hi⟩ := init_of_in (D.1.keeps F.keep) (init_39 w)
  rw [arm_exec_Raise]
  refine wpAny_bind (wpAny_standAt (wpAny_raiseStmt_made_sub (C := 39) (nm := nm) (q := qn) (N := N) (bs := bs) (bm := [.type "Exception", .type "BaseException", .type "object"]) (hdct := hdct) (sn := sn) (sub := sub) (ab := ab) (col := col) (dd := dd) (k0 := k0) (k1 := k1) (k2 := k2) (k3 := k3) (k5 := k5) (newId := "Exception.__new__") PySem.F.excBase_Exception.hasBase hh (wpAny_bind (wpAny_mono (wpAny_Call_ofName (hx _ ?_)) (fun v s₃ h₃ => wpAny_bind (wpAny_standAt (wpAny_pure h₃))) fun _ _ x => x))))
  unfold callWith
  refine wpAny_bind (wpAny_holding (wpAny_mono (Calls.evalArgs_plain (Q := fun a s₂ => a.kw = [] ∧ ∃ t tk, a.pos = [.str msg t] ∧ s₂ = { s with toks := tk }) (spliced_more (wpAny_Constant_str (spliced_none ⟨rfl, _, _, rfl, rfl⟩)) rfl)) (fun a s₂ h₂ => wpAny_bind (wpAny_standAt ?_)) fun _ _ x => x))
  obtain ⟨apos, akw⟩ := a
  obtain ⟨hkw, t, tk, hp, rfl⟩ := h₂
  obtain rfl : akw = [] := hkw
  obtain rfl : apos = [.str msg t] := hp
  obtain ⟨hp, g, d, tk₀, os⟩ := s
  have hplain : (backTo cpos (starEach [Expr.Constant (Const.str msg) k p₁] (envOf name scope L a cd))).any (·.1) = false := rfl
  simp only [hplain]
  refine wpAny_bind (wpAny_keeperOf_exc (D.1.keeps F.keep |> fun X => hC) ?_)
  have D' : lawB w hp mg mb mean := ⟨D.1.keeps F.keep, D.2.keeps F.keep⟩
  refine wpAny_bind (apply_call (s := ⟨hp, g, d, tk, os⟩) D' (hroom _) fun h' e tk' hm => wpAny_bind (wpAny_holding (wpAny_point (wpAny_pure ?_))))
  obtain ⟨t', ht, _, _⟩ := hm.there
  exact ⟨e, t', rfl, hm.keeps _ _ hC, ht, hE h' e tk' t hm⟩
end Mine
namespace Mine



theorem kst_self {m : Str → Option Value} {ps : List (Str × Value)} (h1 : ∀ p ∈ ps, m p.1 = some p.2) : kstB m ps = m := funext fun _ => kstB_eq h1 fun _ => rfl
theorem byte_named {m : Str → Option Value} {x : Str} {u : Value} (h : m x = some u) : ∀ p ∈ [(x, u)], m p.1 = some p.2 := by
  intro p hp
  rw [List.mem_singleton.mp hp]
  exact h

local macro_rules | `(tactic| walk_at "leaving ref") => `(tactic| k_extra "own leaving")
set_option maxHeartbeats 3000000 in
theorem decode_call {prog : Program} {w : World} {H : Heap} {mg mb : Str → Option Value} {mean : ExcName → Option Value} {s : Shared} {L : Addr} {m : Str → Option Value} {E₁ : Env} {r : Addr} {vs : List Value} {ns : List Int} {Q E : Value → Shared → Prop}
    (D : lawB w H mg mb mean) (F : Fr H L s.heap m) (hf : E₁.frame = some L) (hke : E₁.scope.kind = .function) (hl : s.heap.IsList r vs.toArray) (hI : IntsAre vs ns) (h1 : 1 ≤ ns.length) (h12 : ns.length ≤ 12)
    {nl : List (Addr × Obj)} (N₀ : News H L s.heap nl)
    (hE1 : PySem.Builtin.bitAnd (ns.getD (-1 + (ns.length : Int)).toNat 0) 128 ≠ 0 → ∀ h' tk e, RaisedN H [E₁] e (.type "AssertionError") nl h' → s.heap.UpToSlots h' → E (.ref e) { s with heap := h', toks := tk })
    (hE2 : PySem.Builtin.bitAnd (ns.getD (-1 + (ns.length : Int)).toNat 0) 128 = 0 → decOf ns = 0 → ∀ h' tk e, RaisedN H [E₁] e (.ref 39) nl h' → s.heap.UpToSlots h' → E (.ref e) { s with heap := h', toks := tk })
    (hQ : PySem.Builtin.bitAnd (ns.getD (-1 + (ns.length : Int)).toNat 0) 128 = 0 → decOf ns ≠ 0 → ∀ h' tk t, (∀ b o, s.heap.get? b = some o → h'.get? b = some o) → Q (.int (decOf ns) t) { s with heap := h', toks := tk }) :
    wpAny (model prog w) (callerA.deeper E₁) (call (.ref 49) [.ref r] []) Q E s := by
  have hfill : (PySem.Challenge.rw_jq0003_01, hd.heap_39) = (PySem.Challenge.rw_jq0003_01, hd.heap_39) := by k_fill; rfl
  clear hfill
  w_on
  w_top on
  k_with_none
  have X := D.1.keeps F.keep
  have T := D.2.keeps F.keep
  have B := pushX (below_caller H) F hf hke
  refine wpAny_call ?_
  refine' enterDef (binds := [(Str.ofString "raw", Value.ref r)]) ?k1 ?k2 ?k3 ?k4 ?k5 ?k6 ?k7 ?_ ?k8 ?k9 ?k10 ?k11
  case k1 => exact X
  case k2 => exact T.nolimit
  case k3 => k_is
  case k4 => k_is
  case k5 => k_room
  case k6 => exact BindsTo.of_eq rfl
  case k7 => exact locs rfl
  case k8 => decide
  case k9 => exact rfl
  case k10 => exact rfl
  case k11 => exact rfl
  intro h₁ F'
  have N' : News s.heap s.heap.objs.size h₁ [] := News.nil
  change wpAny _ _ _ _ _ _
  k_fold
  k_with "exec Raise some none" =>
    k_here
    rename Fr _ _ _ _ => kF
    k_dflt (first
      | (refine' Raise_classB rfl excClass_AssertionError ?ks ?kx ?_
         case ks => (rw [isSubtype_type]; kernel_rfl)
         case kx =>
           refine' name_B kF ?a ?b ?c ?d ?e ?f
           case a => k_asm
           case b => k_asm
           case c => k_is
           case d => boot_by_name
           case e => decide
           case f => exact ⟨rfl, rfl⟩
         intro h' e' x'
         try dsimp only)
      | (focus
           refine' raise_39 (h₀ := s.heap) ⟨X, T⟩ kF rfl ?room ?hx ?_
           case room => intro x; k_room
           case hx => intro P hP; exact name_K kF X (by k_asm) (by k_is) hP
           intro h' e' tk' t' x'
           try dsimp only at x' ⊢))
  k_with "subscriptTail Name Slice ref ref" =>
    k_here
    rename Fr _ _ _ _ => lF'
    rename News _ _ _ _ => lN'
    k_dflt (
      focus (refine' slice_1 lF' lN' (lF'.lst hl) ?h1 ?hsz ?hs ?ht ?_)
      case hs => with_unfolding_all rfl
      case ht => (intro _; with_unfolding_all rfl)
      case h1 => rw [hI.length]; exact h1
      case hsz => rw [hI.length]; have := sizeLine_eq; omega
      intro h₃ F₃ N₃
      clear lF' lN'
      try dsimp only)
  k_with "pyIter ref" =>
    k_here
    rename Fr _ _ _ _ => lF'
    rename News _ _ _ _ => lN'
    k_dflt (
      focus
        with_unfolding_all refine' iter_U (ns := ns.drop 1) (fun i m => ∃ t', m (Str.ofString "delta_base_offset") = some (.int (decS (PySem.Builtin.bitAnd (ns.getD 0 0) 127) ((ns.drop 1).take i)) t')) ?hh ?hl ?hi ?F ?N ?hj ?turn ?done
        case hh => rfl
        case hi => exact hI.drop 1
        case F => exact lF'
        case N => exact lN'
        case hl => exact List.mem_singleton.mpr rfl
        case hj => exact ⟨_, by with_unfolding_all rfl⟩
        all_goals clear lF' lN'
        case' turn =>
          intro i n t m₁ h tk' own hn hJ F₁ N₁
          have hfit := decS_fits (band_range (ns.getD 0 0)).1 (band_range (ns.getD 0 0)).2 ((ns.drop 1).take i) (by rw [List.length_take, List.length_drop]; omega)
          obtain ⟨ta, hm⟩ := hJ
          replace F₁ : Fr s.heap s.heap.objs.size h (fun y => if y = Str.ofString "byte" then some (.int n t) else kstB m₁ [(Str.ofString "delta_base_offset", .int (decS (PySem.Builtin.bitAnd (ns.getD 0 0) 127) ((ns.drop 1).take i)) ta)] y) := by rw [kst_self (byte_named hm)]; exact F₁
          replace N₁ : News s.heap s.heap.objs.size h _ := N₁
          skip
        case' done =>
          intro m₁ h tk' hJ F₁ N₁
          obtain ⟨ta, hm⟩ := hJ
          replace F₁ : Fr s.heap s.heap.objs.size h (kstB m₁ _) := fr_b (byte_named hm) F₁
          replace N₁ : News s.heap s.heap.objs.size h _ := N₁
          skip)
  k_with "inplaceOp LShift int int" =>
    k_here
    k_dflt (
      refine' ilshift_int (by decide) (fits_shift (by assumption)) ?_
      try dsimp only)
  k_with "own leaving" =>
    k_here
    k_dflt (first
      | (refine' leave_newL ?k1 ?k0 ?k2 (Kept.of N₀ hf) ?_
         case k0 => assumption
         case k1 => assumption
         case k2 => assumption)
      | (focus
           refine' leave_madeL ?k1 ?k0 ?k2 (Kept.of N₀ hf) ?_
           case k0 => assumption
           case k1 => assumption
           case k2 => assumption))
    intro h' R' U'
    try dsimp only at R' U' ⊢
  repeat' (first
    | (with_reducible show TurnEnd _ _ _ _ _ _ _ _ _
       rename Fr s.heap _ _ _ => lF
       rename News _ _ _ _ => lN
       exact TurnEnd.of lF lN ⟨_, (if_pos rfl).trans (by rw [dec_turn (by assumption)])⟩)
    | (k_unfold; (try dsimp only)) | (k_end; wrow_close) | (walk1; (try dsimp only)) | (leave1; walk_say "STEP leave1"; try dsimp only))
  · rename RaisedN _ _ _ _ _ _ => lR
    rename Heap.UpToSlots _ _ => lU
    exact hE1 (by assumption) _ _ _ lR lU
  · rename decS _ _ = 0 => hz0
    rename RaisedN _ _ _ _ _ _ => lR
    rename Heap.UpToSlots _ _ => lU
    exact hE2 (by assumption) ((dec_whole ns).symm.trans hz0) _ _ _ lR lU
  · rename ¬ decS _ _ = 0 => hz0
    rw [dec_whole] at hz0 ⊢
    rename Fr s.heap _ _ _ => lF
    exact hQ (by assumption) hz0 _ _ _ lF.keep
end Mine
namespace Mine

/-! ## The spine of the law, in wpN: for, try, assign, the frame with a cell -/
section
variable {M : Model} {A : Around} {E : Value → Shared → Prop} {s : Shared} {env : Env}
theorem nFor {target iter body orelse pos} {Q : Flow → Shared → Prop}
    (h : wpAny M A (eval iter env) (fun x s₁ => wpAny M A (pyIter x) (fun it s₂ =>
      codeN M (A.mark none) (.forLoop target it body orelse env) (fun r s' => match r with | .ok f => Q f s' | .error _ => False) s₂) E s₁) E s)
    (hs : ∀ x, foldedSetIterable iter env x = pure x := by intro _; rfl) :
    wpN M A (exec (.For target iter body orelse pos) env) Q E s := by
  rw [exec_For]
  refine nBind (nStandAt (nBindAny (wpAny_mono h (fun x s₁ h₁ => ?_) fun _ _ h' => h')))
  refine nBindAny (wpAny_of_eq (hs x) ?_)
  refine nBind (nStandAt ?_)
  refine nBindAny (wpAny_holding (wpAny_mono h₁ (fun it s₂ h₂ => ?_) fun _ _ h' => h'))
  refine nRunOwn (codeNMono h₂ fun r s' h' => ?_)
  cases r with
  | ok f => exact h'
  | error e => exact h'.elim

theorem nTry {prog : Program} {w : World} {body orelse : List Stmt} {h₀ : ExceptHandler} {hs : List ExceptHandler} {pos : Pos} {Q : Flow → Shared → Prop}
    (h : wpN (model prog w) A (execs body env) (fun f s₁ => match f with | .next => wpAny (model prog w) A (execs orelse env) Q E s₁ | f => Q f s₁)
      (fun e s₁ => wpAny (model prog w) A (noteFrame e env) (fun _ s₂ => wpAny (model prog w) A (setFlight e none) (fun _ s₃ => wpAny (model prog w) A (handleBy e env (h₀ :: hs)) Q E s₃) E s₂) E s₁) s) :
    wpN (model prog w) A (exec (.Try body (h₀ :: hs) orelse [] pos) env) Q E s := by
  rw [arm_exec_Try]
  refine nBind (nStandAt ?_)
  unfold tryStmt
  simp only [List.isEmpty_nil, if_true, List.isEmpty_cons, Bool.false_and, Bool.false_eq_true, if_false]
  refine nBind (nAttempt (nMono h (fun f s₁ h₁ => ?_) fun e s₁ h₁ => ?_))
  · cases f <;> first | exact nAny h₁ | exact nPure h₁
  · exact nAny (wpAny_bind (wpAny_mono h₁ (fun _ _ h₂ => wpAny_bind h₂) fun _ _ x => x))

theorem nAssign {x pos' value pos} {Q : Flow → Shared → Prop}
    (h : wpN M A (eval value env) (fun v s₁ => wpAny M A (storeName env x v) (fun _ => Q .next) E s₁) E s)
    (hs : swapsWith value (some (.Name x pos')) pos.line env = pure false := by rfl) :
    wpN M A (exec (.Assign [.Name x pos'] value pos) env) Q E s := by
  rw [exec_Assign_Name env x pos' value pos hs]
  refine nBind (nStandAt (nBind (nMono h (fun v s₁ h₁ => ?_) fun _ _ x => x)))
  refine nBind (nStandAt (nAny (wpAny_bind (wpAny_bindName (wpAny_mono h₁ (fun _ _ q => wpAny_pure q) fun _ _ x => x)))))

theorem nOnNo {α : Type} {m : Sem α} {k : Value → Sem Unit} {Q : α → Shared → Prop} (h : wpN M A m Q (fun _ _ => False) s) : wpN M A (m.onRaise k) Q E s :=
  nOnRaise (nMono h (fun _ _ q => q) fun _ _ x => x.elim)

theorem nExecsNil {Q : Flow → Shared → Prop} (h : Q .next s) : wpN M A (execs [] env) Q E s := by
  rw [execs]; exact nPure h
end

section
variable {prog : Program} {w : World} {A : Around} {s : Shared}
theorem codeNForLoop {R : Result → Shared → Prop} {target it body orelse env} (I : Nat → Shared → Prop)
    (turn : ∀ n s, I n s → wpAny (model prog w) A (pyNext it) (fun r s₁ => match r with
      | none => wpAny (model prog w) A (execs orelse env) (fun f s₃ => R (.ok f) s₃) (fun _ _ => False) s₁
      | some v => wpAny (model prog w) A (assign target env v) (fun _ s₂ => wpN (model prog w) A (execs body env) (fun f s₃ => match f with
          | .next | .cont => ∃ m, m < n ∧ I m s₃
          | .brk => R (.ok .next) s₃
          | .ret v => R (.ok (.ret v)) s₃) (fun _ _ => False) s₂) (fun _ _ => False) s₁) (fun _ _ => False) s)
    (n : Nat) (h : I n s) (ht : ∀ v, letOwnedTupleGo target it v = pure () := by intro _; rfl) : codeN (model prog w) A (.forLoop target it body orelse env) R s := by
  refine codeNLoop rfl rfl I (fun n s hI => ?_) n h
  show wpN _ A ((forTurn target it body orelse env).onRaise (fun x => do noteFrame x env; theTreesLotGoes x)) _ _ s
  refine nOnNo ?_
  simp only [forTurn]
  refine nBind (nStandAt (nBindAny (wpAny_onRaise (wpAny_mono (turn n s hI) (fun r s₁ h₁ => ?_) fun _ _ h' => h'.elim))))
  cases r with
  | none => exact nPure (.inr ⟨rfl, nCodeAny (codeAny_block (wpAny_mono h₁ (fun _ _ q => q) fun _ _ q => q.elim))⟩)
  | some v =>
    refine nBindAny (wpAny_of_eq (ht v) ?_)
    refine nBindAny (wpAny_mono h₁ (fun _ s₂ h₂ => nBind (nMono h₂ (fun f s₃ h₃ => ?_) fun _ _ h' => h'.elim)) fun _ _ h' => h'.elim)
    cases f with
    | next => exact nPure (.inl ⟨rfl, h₃⟩)
    | cont => exact nPure (.inl ⟨rfl, h₃⟩)
    | brk => exact nPure h₃
    | ret v => exact nPure h₃

/-- the law's own call: a frame with cells, its base the whole heap -/
theorem codeNCallCells {R : Result → Shared → Prop} {name : Str} {params : Arguments} {body : List Stmt} {scope : Scope}
    {dV kV pm cd doc : Value} {a : Addr} {o : Obj} {args : List Value} {binds : List (Str × Value)}
    (hroom : A.depth < recursionLimit) (ho : s.heap.get? a = some o) (hdata : o.data = .func { docDef name params body scope pm cd doc with defaults := dV, kwdefaults := kV }) (hlim : s.heap.NoLimit) (hcd : s.heap.CodeRec cd name)
    (hbind : BindsTo s { docDef name params body scope pm cd doc with defaults := dV, kwdefaults := kV } ⟨args, []⟩ binds)
    (hkind : (binds.all fun y => scope.names.lookup y.1 == some .local || scope.names.lookup y.1 == some .cell) = true)
    (hnd : ((cellsFrom 0 scope.names []).map (·.1)).Nodup)
    (h : ∀ h₁ tk cells, Fr s.heap s.heap.objs.size h₁ (bindL (envOfC name scope s.heap.objs.size a cd).kindOf binds fun _ => none) → News s.heap s.heap.objs.size h₁ cells →
      CellsAre (bindC (envOfC name scope s.heap.objs.size a cd).kindOf binds fun _ => none) (cellsFrom (s.heap.objs.size + 1) scope.names []) cells →
      wpN (model prog w) (A.deeper (envOfC name scope s.heap.objs.size a cd)) (execs body (envOfC name scope s.heap.objs.size a cd))
        (fun f s' => R (.ok (.ret (match f with | .ret v => v | _ => .none))) s') (fun _ _ => False) { s with heap := h₁, toks := tk })
    (hco : scope.isCoroutine = false := by rfl) (hgen : scope.isGenerator = false := by rfl) (hk : scope.kind = .function := by rfl) :
    codeN (model prog w) A (.call (.ref a) ⟨args, []⟩) R s := by
  refine codeNCallFunction hroom ho hdata hco hgen rfl hcd (hbind _ _ _ _ ?_)
  refine wpAny_newFunctionEnv_cells hk (kindsX hkind _) fun env' he s' x => ?_
  subst he
  refine ⟨hlim.keeps x.toInCall.keep, codeNFunc ?_⟩
  obtain ⟨h₁, tk, rfl, _⟩ := x.done
  have hk₁ := x.toInCall.keep
  obtain ⟨cells, NC, Y⟩ := Cl.news (h₀ := s.heap) (Nat.le_refl _) fun n c hm => ⟨x.cell n c (lookup_of_mem_nodup (cellsFrom_names scope.names 0 (s.heap.objs.size + 1) [] [] rfl ▸ hnd) hm), x.above n c hm⟩
  exact nMono (h h₁ tk cells ⟨x.toInCall.ns, hk₁, Nat.le_refl _⟩ NC Y) (fun _ _ q => q) fun _ _ q => q.elim
end
end Mine
namespace Mine

/-! ## The law's statements -/
noncomputable def lawBody : List Stmt := match defOf hd.view_39 (Str.ofString "law") with | some (d, _) => d.body | none => []
noncomputable def lawScope : Scope := match defOf hd.view_39 (Str.ofString "law") with | some (d, _) => d.scope | none => default
noncomputable def preBody : List Stmt := match lawBody with | a :: b :: c :: _ => [a, b, c] | _ => []
noncomputable def turnBody : List Stmt := match lawBody with | [_, _, _, .For _ _ b _ _, _, _, _] => b | _ => []
noncomputable def postBody : List Stmt := match lawBody with | [_, _, _, _, a, b, c] => [a, b, c] | _ => []

noncomputable abbrev lawE (nm : Str) (L a : Addr) (cd : Value) (c : Addr) : Env := envX nm lawScope L a cd [(Str.ofString "n", c)]

/-- what the law holds in hand ahead of its loop, and behind each turn -/
def LawSt (H : Heap) (L r c : Addr) (g : Array GenState) (d : Drawn) (os : OsState) (s' : Shared) : Prop :=
  ∃ h tk m oc tl len sh dsh es nd tq v, s' = ⟨h, g, d, tk, os⟩ ∧ Fr H L h m ∧ m (Str.ofString "script") = some (.ref r) ∧ m (Str.ofString "length") = some (.int len tl) ∧ m (Str.ofString "shape") = some (.ref sh) ∧
    News H L h [(sh, instObj 80 dsh), (dsh, dictOf es nd), (c, oc)] ∧ oc.data = .cell v ∧ getL (Str.ofString "oid_length") es = some (some (.int len tq)) ∧ 0 ≤ len ∧ len ≤ 40

theorem LawSt.of {H h : Heap} {L r c sh dsh : Addr} {g : Array GenState} {d : Drawn} {os : OsState} {tk : Nat} {m : Str → Option Value} {news : List (Addr × Obj)} {oc : Obj} {v : Option Value} {len : Int} {tl tq : Tok} {es : List DictEntry} {nd : Nat}
    (F : Fr H L h m) (N : News H L h news) (hc : oc.data = .cell v) (h1 : m (Str.ofString "script") = some (.ref r)) (h2 : m (Str.ofString "length") = some (.int len tl)) (h3 : m (Str.ofString "shape") = some (.ref sh))
    (m1 : (sh, instObj 80 dsh) ∈ news) (m2 : (dsh, dictOf es nd) ∈ news) (m3 : (c, oc) ∈ news) (hg : getL (Str.ofString "oid_length") es = some (some (.int len tq))) (h0 : 0 ≤ len ∧ len ≤ 40) : LawSt H L r c g d os ⟨h, g, d, tk, os⟩ :=
  ⟨h, tk, m, oc, tl, len, sh, dsh, es, nd, tq, v, rfl, F, h1, h2, h3, (fun p hp => by
    simp only [List.mem_cons, List.not_mem_nil, or_false] at hp
    rcases hp with rfl | rfl | rfl
    · exact N _ m1
    · exact N _ m2
    · exact N _ m3), hc, hg, h0.1, h0.2⟩
def LawNext (H : Heap) (L r c : Addr) (g : Array GenState) (d : Drawn) (os : OsState) (f : Flow) (s' : Shared) : Prop := f = .next ∧ LawSt H L r c g d os s'
theorem fmod_2 (x : Int) : 0 ≤ x.fmod 2 ∧ x.fmod 2 < 2 := by rw [Int.fmod_eq_emod_of_nonneg _ (by decide)]; omega

set_option maxHeartbeats 3000000 in
theorem law_pre {prog : Program} {w : World} {H : Heap} {mg mb : Str → Option Value} {mean : ExcName → Option Value} {s : Shared} {L a r c : Addr} {nm : Str} {cd : Value} {vs : List Value} {ns : List Int} {oc : Obj}
    (D : lawB w H mg mb mean) (F : Fr H L s.heap (fun y => if y = Str.ofString "script" then some (.ref r) else none)) (N : News H L s.heap [(c, oc)]) (hc : oc.data = .cell none)
    (hl : H.IsList r vs.toArray) (hI : IntsAre vs ns) (h63 : ns.length ≤ 63) :
    wpAny (model prog w) (callerA.deeper (lawE nm L a cd c)) (execs preBody (lawE nm L a cd c)) (LawNext H L r c s.gens s.drawn s.os) (fun _ _ => False) s := by
  have hfill : (PySem.Challenge.rw_jq0003_01, hd.heap_39) = (PySem.Challenge.rw_jq0003_01, hd.heap_39) := by k_fill; rfl
  clear hfill
  have e1 : lawScope = lawScope := rfl
  conv at e1 => rhs; whnf
  have e2 : preBody = preBody := rfl
  conv at e2 => rhs; whnf
  unfold lawE
  rw [e1, e2]
  clear e1 e2
  w_on
  w_top on
  k_with_none
  have X := D.1
  have T := D.2
  have B := below_caller H
  change wpAny _ _ _ _ _ _
  k_fold
  have z := fmod_2 ((ns.getD (Int.toNat 0) 0).fdiv 6)
  repeat' (first | (k_unfold; (try dsimp only)) | (walk1; (try dsimp only)) | (leave1; walk_say "STEP leave1"; try dsimp only))
  all_goals (
    rename Fr H _ _ _ => lF
    rename News H _ _ _ => lN
    refine' ⟨rfl, LawSt.of lF lN hc rfl rfl rfl ?m1 ?m2 ?m3 ?g ?b⟩
    case m1 => k_mem
    case m2 => k_mem
    case m3 => k_mem
    case g => exact rfl
    case b => first | omega | decide)
end Mine
namespace Mine

/-! ## The try of a turn -/
noncomputable def tryBody : List Stmt := match turnBody with | [_, _, _, _, t] => [t] | _ => []

/-- a turn comes to its end and goes on -/
def TurnOk (H : Heap) (L r : Addr) (len : Int) (tl : Tok) (sh : Addr) (g : Array GenState) (d : Drawn) (os : OsState) (news : List (Addr × Obj)) (f : Flow) (s' : Shared) : Prop :=
  f = .next ∧ ∃ h tk m, s' = ⟨h, g, d, tk, os⟩ ∧ Fr H L h m ∧ m (Str.ofString "script") = some (.ref r) ∧ m (Str.ofString "length") = some (.int len tl) ∧ m (Str.ofString "shape") = some (.ref sh) ∧ News H L h news

theorem all_named {m : Str → Option Value} {x : Str} {u : Value} {fx : List (Str × Value)} (h1 : m x = some u) (hf : ∀ p ∈ fx, m p.1 = some p.2) : ∀ p ∈ (x, u) :: fx, m p.1 = some p.2 := by
  intro p hp
  rcases List.mem_cons.mp hp with rfl | hp
  · exact h1
  · exact hf p hp

theorem evalArgs_back {M : Model} {A : Around} {E : Value → Shared → Prop} {s : Shared} {f : Value} {e : Expr} {rest : List Expr} {env : Env} {pos : Pos} {Q : Args → Shared → Prop}
    (h : wpAny M A (spliced (backTo pos (starEach (e :: rest) env))) (fun vs s' => Q ⟨vs, []⟩ s') E s) (he : starEach (e :: rest) env = (false, eval e env) :: starEach rest env := by rfl) :
    wpAny M A (evalArgs f true (backTo pos (starEach (e :: rest) env)) []) Q E s := by
  rw [he] at h ⊢
  exact Calls.evalArgs_plain h

set_option maxHeartbeats 3000000 in
theorem law_try {prog : Program} {w : World} {H : Heap} {mg mb : Str → Option Value} {mean : ExcName → Option Value} {s : Shared} {L a r c it lst sh dsh : Addr} {nm : Str} {cd : Value} {oc oi lo : Obj} {es : List DictEntry} {nd : Nat} {m : Str → Option Value} {len M sz : Int} {tl tq tM tN tS tH : Tok} {bs : Array UInt8}
    (D : lawB w H mg mb mean) (F : Fr H L s.heap m) (m1 : m (Str.ofString "script") = some (.ref r)) (m2 : m (Str.ofString "length") = some (.int len tl)) (m3 : m (Str.ofString "shape") = some (.ref sh))
    (m4 : m (Str.ofString "many") = some (.int M tM)) (m5 : m (Str.ofString "name") = some (.bytes bs tN)) (m6 : m (Str.ofString "size") = some (.int sz tS)) (m7 : m (Str.ofString "head") = some (.bytes (byteArr (headOcts sz)) tH))
    (N : News H L s.heap [(it, oi), (lst, lo), (sh, instObj 80 dsh), (dsh, dictOf es nd), (c, oc)]) (hg : getL (Str.ofString "oid_length") es = some (some (.int len tq)))
    (hM : (bs.size : Int) = M) (hM4 : M ≤ 40) (hs0 : 0 ≤ sz) (hs1 : (headOcts sz).length ≤ 20) :
    wpN (model prog w) (callerA.deeper (lawE nm L a cd c)) (execs tryBody (lawE nm L a cd c)) (TurnOk H L r len tl sh s.gens s.drawn s.os [(it, oi), (lst, lo), (sh, instObj 80 dsh), (dsh, dictOf es nd), (c, oc)]) (fun _ _ => False) s := by
  have hfill : (PySem.Challenge.rw_jq0003_01, hd.heap_39) = (PySem.Challenge.rw_jq0003_01, hd.heap_39) := by k_fill; rfl
  clear hfill
  have e1 : lawScope = lawScope := rfl
  conv at e1 => rhs; whnf
  have e2 : tryBody = tryBody := rfl
  conv at e2 => rhs; whnf
  unfold lawE
  rw [e1, e2]
  clear e1 e2
  w_on
  w_top on
  k_with_none
  have X := D.1
  have T := D.2
  have B := below_caller H
  replace F := fr_b (all_named m4 (all_named m5 (all_named m6 (all_named m7 (three_named m1 m2 m3 (fx := []) (fun _ h => nomatch h)))))) F
  clear m1 m2 m3 m4 m5 m6 m7
  refine nExecs (nTry ?_)
  refine nExecs (nAssign ?_)
  show wpN _ _ (eval (.Name _ _) _ >>= fun f => callWith _ f [] (backTo _ (starEach _ _)) []) _ _ _
  refine nBindAny ?_
  repeat' (first | (walk1; (try dsimp only)))
  refine nCallType ?_
  simp only [Bool.false_eq_true, if_false]
  show wpN _ _ (eval (.Name _ _) _ >>= fun f => callWith _ f [] (backTo _ (starEach _ _)) []) _ _ _
  refine nBindAny ?_
  repeat' (first | (walk1; (try dsimp only)))
  refine nCallWith (P := fun h => hd.heap_39 w.params |>.In h) rfl (fun h Xh => keeps_K (by k_is) h Xh) (nAny (evalArgs_back ?_))
  repeat' (first | (walk1; (try dsimp only)))
  have z1 : s.heap.get? sh = some (instObj 80 dsh) := (N (sh, instObj 80 dsh) (by k_mem)).1
  have z2 : s.heap.get? dsh = some (dictOf es nd) := (N (dsh, dictOf es nd) (by k_mem)).1
  have I : InstAt s.heap sh (instObj 80 dsh) 80 (some (dictOf es nd)) := ⟨z1, rfl, rfl, z2⟩
  have hbs : bs.size ≤ 40 := by omega
  refine pack_callN (s := { s with toks := _ }) D F rfl rfl hs0 hs1 (by omega) I hg ?hQ N ?hE
  case hQ =>
    intro hsz h' tk S hk hS0 hS
    have F' := F.keeps hk
    have N' : News H L h' _ := fun p hp => ⟨hk _ _ (N p hp).1, (N p hp).2⟩
    clear F N hk hS0 I z1 z2
    refine nAny (call_bytes_ba hS ?sz ?_)
    case sz =>
      have := sizeLine_eq
      rw [Array.size_append]
      simp only [byteArr, List.size_toArray, List.length_map]
      omega
    clear hS
    intro t k
    try dsimp only
    change wpAny _ _ _ _ _ _
    k_fold
    repeat' (first | (k_unfold; (try dsimp only)) | (walk1; (try dsimp only)) | (leave1; walk_say "STEP leave1"; try dsimp only))
    refine nExecsNil ?_
    try dsimp only
    change wpAny _ _ _ _ _ _
    k_fold
    k_with "binaryOp Add bytes bytes" =>
      k_here
      k_dflt (
        refine' KBy.add_bytes ?z ?_
        case z =>
          simp only [byteArr, List.size_toArray, List.length_map]
          omega
        intro t₉ k₉)
    repeat' (first | (k_unfold; (try dsimp only)) | (walk1; (try dsimp only)) | (leave1; walk_say "STEP leave1"; try dsimp only))
    all_goals first
      | (exfalso; omega)
      | (refine nExecsNil ?_
         rename Fr H _ _ _ => lF
         rename News H _ _ _ => lN
         exact ⟨rfl, _, _, _, rfl, lF, rfl, rfl, rfl, lN⟩)
      | (exfalso; rename _ = true => hno; simp only [bne_self_eq_false, Bool.false_eq_true] at hno)
  case hE =>
    intro hne h' tk e R U
    refine caught_X0 B F U R X (topRead_of T) ?ex PyProof.Rows.Boot.«AssertionError» (by decide) PySem.F.isExc_AssertionError PySem.F.notTuple_AssertionError (by rw [isSubtype_type]; kernel_rfl) ?_
    case ex => k_is
    intro h₂ F₂ N₂
    clear F N R U I z1 z2
    change wpAny _ _ _ _ _ _
    k_fold
    repeat' (first | (k_unfold; (try dsimp only)) | (walk1; (try dsimp only)) | (leave1; walk_say "STEP leave1"; try dsimp only))
    all_goals first
      | (exfalso; omega)
      | (refine nExecsNil ?_
         rename Fr H _ _ _ => lF
         rename News H _ _ _ => lN
         exact ⟨rfl, _, _, _, rfl, lF, rfl, rfl, rfl, lN⟩)
end Mine
namespace Mine

/-! ## A turn of the law's loop -/
theorem octs_short (c : Int) : ∀ (k : Nat) (r : Nat), r < 2 ^ (7 * k) → (octs c r).length ≤ k + 1
  | 0, r, h => by
    have : r = 0 := by simpa using h
    rw [octs_nil c this]; simp
  | k + 1, r, h => by
    by_cases hr : r = 0
    · rw [octs_nil c hr]; simp
    · rw [octs_more c hr, List.length_cons]
      have e : 2 ^ (7 * (k + 1)) = 2 ^ (7 * k) * 128 := by rw [Nat.mul_add, Nat.pow_add]
      have := octs_short ((r % 128 : Nat) : Int) k (r / 128) (by rw [e] at h; omega)
      omega
theorem size_ok (x : Int) (y : Int) : 0 ≤ x.fmod (2 ^ (y.fmod 67).toNat) ∧ (headOcts (x.fmod (2 ^ (y.fmod 67).toNat))).length ≤ 20 := by
  have hy : (y.fmod 67).toNat < 67 := by rw [Int.fmod_eq_emod_of_nonneg _ (by decide)]; omega
  have hp : (0 : Int) < 2 ^ (y.fmod 67).toNat := Int.pow_pos (by decide)
  have hle : (2 : Int) ^ (y.fmod 67).toNat ≤ 2 ^ 67 := by
    have := Nat.pow_le_pow_right (n := 2) (by decide) (Nat.le_of_lt hy)
    exact_mod_cast this
  rw [Int.fmod_eq_emod_of_nonneg _ (Int.le_of_lt hp)]
  have h0 := Int.emod_nonneg x (Int.ne_of_gt hp)
  have h1 := Int.emod_lt_of_pos x hp
  refine ⟨h0, ?_⟩
  unfold headOcts
  refine Nat.le_trans (octs_short _ 10 _ ?_) (by decide)
  rw [Int.fdiv_eq_ediv_of_nonneg _ (by decide)]
  have e : (2 : Nat) ^ (7 * 10) = 1180591620717411303424 := by decide
  have e' : (2 : Int) ^ 67 = 147573952589676412928 := by decide
  omega

theorem fmod_41 (x : Int) : 0 ≤ x.fmod 41 ∧ x.fmod 41 ≤ 40 := by rw [Int.fmod_eq_emod_of_nonneg _ (by decide)]; omega
theorem many_len {x : Int} (h : 0 ≤ x) : ((rangeKs 0 (x - 0).toNat).length : Int) = x := by
  rw [rangeKs_length]; omega

local macro_rules | `(tactic| walk_at "call ref") => `(tactic| k_extra "own call")
set_option maxHeartbeats 3000000 in
theorem law_turn {prog : Program} {w : World} {H : Heap} {mg mb : Str → Option Value} {mean : ExcName → Option Value} {s : Shared} {L a r c it lst sh dsh : Addr} {nm : Str} {cd : Value} {oc oi lo : Obj} {es : List DictEntry} {nd : Nat} {m : Str → Option Value} {len n : Int} {tl tn tq : Tok}
    (D : lawB w H mg mb mean) (F : Fr H L s.heap m) (m1 : m (Str.ofString "script") = some (.ref r)) (m2 : m (Str.ofString "length") = some (.int len tl)) (m3 : m (Str.ofString "shape") = some (.ref sh))
    (N : News H L s.heap [(it, oi), (lst, lo), (sh, instObj 80 dsh), (dsh, dictOf es nd), (c, oc)]) (hc : oc.data = .cell (some (.int n tn))) (hg : getL (Str.ofString "oid_length") es = some (some (.int len tq))) (h0 : 0 ≤ len) (h40 : len ≤ 40) :
    wpN (model prog w) (callerA.deeper (lawE nm L a cd c)) (execs turnBody (lawE nm L a cd c)) (TurnOk H L r len tl sh s.gens s.drawn s.os [(it, oi), (lst, lo), (sh, instObj 80 dsh), (dsh, dictOf es nd), (c, oc)]) (fun _ _ => False) s := by
  have hfill : (PySem.Challenge.rw_jq0003_01, hd.heap_39) = (PySem.Challenge.rw_jq0003_01, hd.heap_39) := by k_fill; rfl
  clear hfill
  have e1 : lawScope = lawScope := rfl
  conv at e1 => rhs; whnf
  have e2 : turnBody = turnBody := rfl
  conv at e2 => rhs; whnf
  unfold lawE
  rw [e1, e2]
  clear e1 e2
  w_on
  w_top on
  k_with_none
  have X := D.1
  have T := D.2
  have B := below_caller H
  replace F := fr_b (three_named m1 m2 m3 (fx := []) (fun _ h => nomatch h)) F
  clear m1 m2 m3
  change wpN _ _ (execs ([_, _, _, _] ++ [_]) _) _ _ _
  refine nExecsAny ?_
  k_fold
  have hsz := size_ok (n.fdiv 123) (n.fdiv 41)
  k_with "own call" =>
    k_here
    rename Fr _ _ _ _ => lF'
    rename News _ _ _ _ => lN'
    k_dflt (
      focus (refine' head_call D lF' rfl rfl ?p0 ?plen ?_)
      case p0 => exact hsz.1
      case plen => exact hsz.2
      intro h₃ tk₃ t₃ hk₃
      have F₃ := lF'.keeps hk₃
      have N₃ : News H L h₃ _ := fun p hp => ⟨hk₃ _ _ (lN' p hp).1, (lN' p hp).2⟩
      clear hk₃ lF' lN'
      try dsimp only)
  repeat' (first | (k_unfold; (try dsimp only)) | (walk1; (try dsimp only)) | (leave1; walk_say "STEP leave1"; try dsimp only))
  all_goals (
    rename Fr H _ _ _ => lF
    rename News H _ _ _ => lN
    refine' law_try (s := ⟨_, _, _, _, _⟩) D lF rfl rfl rfl rfl rfl rfl rfl (fun p hp => lN p (List.Mem.tail _ hp)) hg ?hM ?hM4 hsz.1 hsz.2
    case hM =>
      simp only [byteArr, List.size_toArray, List.length_map]
      rw [many_len]
      first | exact h0 | exact (fmod_41 _).1
    case hM4 => first | exact h40 | exact (fmod_41 _).2)
end Mine
section
set_option maxHeartbeats 400000
namespace Mine

/-! ## The plain laws -/
theorem bit_128 {x : Int} (h0 : 0 ≤ x) (h1 : x < 256) : (PySem.Builtin.bitAnd x 128 = 0 ↔ x < 128) := by
  have k : ∀ n < 256, (n &&& 128 = 0 ↔ n < 128) := by decide +kernel
  rw [bitAnd_pp h0 (by decide)]
  have e := k x.toNat (by omega)
  have e2 : (128 : Int).toNat = 128 := rfl
  rw [e2]
  constructor
  · intro h
    have : x.toNat &&& 128 = 0 := by exact_mod_cast h
    have := e.mp this
    omega
  · intro h
    have := e.mpr (by omega)
    rw [this]; rfl

def gsum (m : Nat) : Int := far1 (rangeKs 1 m)
theorem gsum_zero : gsum 0 = 0 := rfl
theorem rangeKs_more (a : Int) (m : Nat) : rangeKs a (m + 1) = rangeKs a m ++ [a + (m : Int)] := by simp [rangeKs, List.range_succ]
theorem gsum_more (m : Nat) : gsum (m + 1) = gsum m + 128 ^ (m + 1) := by
  unfold gsum
  rw [rangeKs_more, far1_more]
  have : (1 + (m : Int)).toNat = m + 1 := by omega
  rw [this]
theorem gsum_times : ∀ m, gsum (m + 1) = 128 * (gsum m + 1)
  | 0 => by rw [gsum_more, gsum_zero]; rfl
  | m + 1 => by
    rw [gsum_more (m + 1)]
    have h := gsum_times m
    have h2 := gsum_more m
    have e : (128 : Int) ^ (m + 1 + 1) = 128 ^ (m + 1) * 128 := Int.pow_succ ..
    rw [e]
    omega

def vsum (ns : List Int) : Int := far2 ns (rangeKs 0 ns.length)
theorem vsum_eq (ns : List Int) : vsum ns = ((List.range ns.length).map fun i => (ns.getD (ns.length - 1 - i) 0).fmod 128 * 128 ^ i).sum := by
  unfold vsum far2 rangeKs
  rw [List.map_map]
  congr 1
  refine List.map_congr_left fun i hi => ?_
  have hi' := List.mem_range.mp hi
  simp only [Function.comp]
  have e1 : ((ns.length : Int) - 1 - (0 + (i : Int))).toNat = ns.length - 1 - i := by omega
  have e2 : (0 + (i : Int)).toNat = i := by omega
  first | rw [e1, e2] | (simp only [Int.zero_add] at *; rw [e1, e2])
theorem sum_scaled (l : List Nat) (f : Nat → Int) : (l.map fun i => f i * 128).sum = 128 * (l.map f).sum := by
  induction l with
  | nil => rfl
  | cons a r ih => simp only [List.map_cons, List.sum_cons, ih]; omega
theorem vsum_more (l : List Int) (n : Int) : vsum (l ++ [n]) = n.fmod 128 + 128 * vsum l := by
  rw [vsum_eq, vsum_eq, List.length_append, List.length_singleton, List.range_succ_eq_map, List.map_cons, List.sum_cons, List.map_map]
  have e0 : ((l ++ [n]).getD (l.length + 1 - 1 - 0) 0).fmod 128 * 128 ^ 0 = n.fmod 128 := by simp
  rw [e0, ← sum_scaled]
  congr 2
  refine List.map_congr_left fun i hi => ?_
  have hi' := List.mem_range.mp hi
  simp only [Function.comp]
  have e1 : (l ++ [n]).getD (l.length + 1 - 1 - (i + 1)) 0 = l.getD (l.length - 1 - i) 0 := by
    have : l.length + 1 - 1 - (i + 1) = l.length - 1 - i := by omega
    rw [this, List.getD_eq_getElem?_getD, List.getD_eq_getElem?_getD, List.getElem?_append_left (by omega)]
  have e2 : (128 : Int) ^ (i + 1) = 128 ^ i * 128 := Int.pow_succ ..
  show ((l ++ [n]).getD (l.length + 1 - 1 - (i + 1)) 0).fmod 128 * 128 ^ (i + 1) = _
  rw [e1, e2, Int.mul_assoc]
theorem farSpec_eq (ns : List Int) : farSpec ns = gsum (ns.length - 1) + vsum ns := by
  unfold farSpec gsum vsum
  have e1 : ((ns.length : Int) - 1).toNat = ns.length - 1 := by omega
  have e2 : ((ns.length : Int) - 0).toNat = ns.length := by omega
  rw [e1, e2]
theorem farSpec_one (c : Int) : farSpec [c] = c.fmod 128 := by
  rw [farSpec_eq]
  have := vsum_more [] c
  rw [List.nil_append] at this
  rw [this]
  show gsum 0 + _ = _
  rw [gsum_zero]
  have : vsum [] = 0 := rfl
  rw [this]; omega
theorem farSpec_more (a : Int) (l : List Int) (n : Int) : farSpec ((a :: l) ++ [n]) = (farSpec (a :: l) + 1) * 128 + n.fmod 128 := by
  rw [farSpec_eq, farSpec_eq, vsum_more]
  have e1 : ((a :: l) ++ [n]).length - 1 = l.length + 1 := by simp
  have e2 : (a :: l).length - 1 = l.length := by simp
  rw [e1, e2, gsum_times]
  omega
theorem dec_far (a : Int) (l : List Int) : decOf (a :: l) = farSpec (a :: l) := by
  unfold decOf
  simp only [List.getD_cons_zero, List.drop_succ_cons, List.drop_zero]
  rcases List.eq_nil_or_concat l with e | ⟨l', n, e⟩
  · subst e
    rw [farSpec_one, ← band_127]
    rfl
  · rw [List.concat_eq_append] at e
    subst e
    have ih := dec_far a l'
    unfold decOf at ih
    simp only [List.getD_cons_zero, List.drop_succ_cons, List.drop_zero] at ih
    have e3 := farSpec_more a l' n
    rw [List.cons_append] at e3
    rw [decS_more, e3, ih, band_127]
termination_by l.length
decreasing_by subst e; simp
theorem dec_same {rs : List Int} (h : 1 ≤ rs.length) : decOf rs = farSpec rs := by
  cases rs with
  | nil => simp at h
  | cons a l => exact dec_far a l
theorem dec_nonneg (rs : List Int) : 0 ≤ decOf rs := (decS_both (band_range _).1 (band_range _).2 _).1
theorem dec_zero {rs : List Int} (h : 1 ≤ rs.length) (hz : decOf rs = 0) (hb : PySem.Builtin.bitAnd (rs.getD (-1 + (rs.length : Int)).toNat 0) 128 = 0)
    (h0 : 0 ≤ rs.getD (-1 + (rs.length : Int)).toNat 0) (h1 : rs.getD (-1 + (rs.length : Int)).toNat 0 < 256) : rs = [0] := by
  cases rs with
  | nil => simp at h
  | cons a l =>
    rcases List.eq_nil_or_concat l with e | ⟨l', n, e⟩
    · subst e
      have e1 : [a].getD (-1 + (([a] : List Int).length : Int)).toNat 0 = a := rfl
      rw [e1] at hb h0 h1
      have := (bit_128 h0 h1).mp hb
      have hz' : PySem.Builtin.bitAnd a 127 = 0 := hz
      rw [band_127, Int.fmod_eq_emod_of_nonneg _ (by decide)] at hz'
      have : a = 0 := by omega
      rw [this]
    · rw [List.concat_eq_append] at e
      subst e
      exfalso
      unfold decOf at hz
      simp only [List.getD_cons_zero, List.drop_succ_cons, List.drop_zero] at hz
      rw [decS_more] at hz
      have h2 := (decS_both (band_range a).1 (band_range a).2 l').1
      have h3 := band_range n
      omega
end Mine
end
namespace Mine

/-! ## What is asked of the decoder -/
noncomputable def askBody : List Stmt := match postBody with | [_, a, b] => [a, b] | _ => []
def PostOk (H : Heap) (g : Array GenState) (d : Drawn) (os : OsState) (f : Flow) (s' : Shared) : Prop :=
  f = .ret (.bool true) ∧ ∃ h tk, s' = ⟨h, g, d, tk, os⟩ ∧ ∀ b o, H.get? b = some o → h.get? b = some o

theorem PostOk.of {H h : Heap} {g : Array GenState} {d : Drawn} {os : OsState} {tk : Nat} {b : Bool} (e : b = true) (k : ∀ b o, H.get? b = some o → h.get? b = some o) : PostOk H g d os (.ret (.bool b)) ⟨h, g, d, tk, os⟩ :=
  ⟨by rw [e], _, _, rfl, k⟩

local macro_rules | `(tactic| walk_at "call ref") => `(tactic| k_extra "own call")
set_option maxHeartbeats 3000000 in
theorem law_ask {prog : Program} {w : World} {H : Heap} {mg mb : Str → Option Value} {mean : ExcName → Option Value} {s : Shared} {L a c r : Addr} {nm : Str} {cd : Value} {m : Str → Option Value} {ws : List Value} {rs : List Int}
    (D : lawB w H mg mb mean) (F : Fr H L s.heap m) (m1 : m (Str.ofString "row") = some (.ref r)) (N : News H L s.heap [(r, listOf ws.toArray 0)])
    (hI : IntsAre ws rs) (h1 : 1 ≤ rs.length) (h12 : rs.length ≤ 12) (hx0 : 0 ≤ rs.getD (-1 + (rs.length : Int)).toNat 0) (hx1 : rs.getD (-1 + (rs.length : Int)).toNat 0 < 256) :
    wpAny (model prog w) (callerA.deeper (lawE nm L a cd c)) (execs askBody (lawE nm L a cd c)) (PostOk H s.gens s.drawn s.os) (fun _ _ => False) s := by
  have hfill : (PySem.Challenge.rw_jq0003_01, hd.heap_39) = (PySem.Challenge.rw_jq0003_01, hd.heap_39) := by k_fill; rfl
  clear hfill
  have e1 : lawScope = lawScope := rfl
  conv at e1 => rhs; whnf
  have e2 : askBody = askBody := rfl
  conv at e2 => rhs; whnf
  unfold lawE
  rw [e1, e2]
  clear e1 e2
  w_on
  w_top on
  k_with_none
  have X := D.1
  have T := D.2
  have B := below_caller H
  replace F := fr_b (byte_named m1) F
  clear m1
  change wpAny _ _ _ _ _ _
  k_fold
  k_with "exec Try cons cons nil nil" => k_dflt (refine' wpAny_Try_except ?_; try dsimp only)
  k_with "own call" =>
    k_here
    rename Fr _ _ _ _ => lF'
    rename News _ _ _ _ => lN'
    k_dflt (
      refine' far_call D lF' rfl rfl ?hl hI h1 h12 ?_
      case hl => exact PySem.IsL.isList (lN' (r, _) (by k_mem)).1
      intro h₃ tk₃ t₃ hk₃
      have F₃ := lF'.keeps hk₃
      have N₃ : News H L h₃ _ := fun p hp => ⟨hk₃ _ _ (lN' p hp).1, (lN' p hp).2⟩
      clear hk₃ lF' lN'
      try dsimp only)
  k_with "own call" =>
    k_here
    rename Fr _ _ _ _ => lF'
    rename News _ _ _ _ => lN'
    k_dflt (
      refine' decode_call D lF' rfl rfl ?hl ?hI h1 h12 lN' ?hE1 ?hE2 ?hQ
      case hl => exact PySem.IsL.isList (lN' _ (List.Mem.head _)).1
      case hI => assumption
      case' hE1 =>
        intro hb h₃ tk₃ e₃ R₃ U₃
        refine' caught_X0 B lF' U₃ R₃ X (topRead_of T) ?ex PyProof.Rows.Boot.«AssertionError» (by decide) PySem.F.isExc_AssertionError PySem.F.notTuple_AssertionError ?sb ?_
        case ex => k_is
        case sb => (rw [isSubtype_type]; kernel_rfl)
        intro h₂ F₂ N₂
        clear lF' lN' R₃ U₃
        try dsimp only
      case' hE2 =>
        intro hb hz0 h₃ tk₃ e₃ R₃ U₃
        refine' caught_XO (y := Str.ofString "ApplyDeltaError") B lF' U₃ R₃ X (topRead_of T) (init_39 w) ?ex PyProof.Rows.Boot.«AssertionError» (by decide) ?ey PySem.F.isExc_AssertionError PySem.F.notTuple_AssertionError (by decide) (by decide) ?_
        case ex => k_is
        case ey => k_is
        intro h₂ F₂ N₂
        clear lF' lN' R₃ U₃
        try dsimp only
      case' hQ =>
        intro hb hz0 h₃ tk₃ t₃ hk₃
        have F₃ := lF'.keeps hk₃
        have N₃ : News H L h₃ _ := fun p hp => ⟨hk₃ _ _ (lN' p hp).1, (lN' p hp).2⟩
        clear hk₃ lF' lN'
        try dsimp only)
  repeat' (first | (k_unfold; (try dsimp only)) | (walk1; (try dsimp only)) | (leave1; walk_say "STEP leave1"; try dsimp only))
  all_goals (
    rename Fr H _ _ _ => lF
    refine PostOk.of ?_ lF.keep
    have hA := bit_128 hx0 hx1
    first
      | exact decide_eq_true (hA.mp (by assumption))
      | exact decide_eq_true (dec_zero h1 (by assumption) (by assumption) hx0 hx1)
      | exact decide_eq_true (by have q := mt hA.mpr (by assumption); omega)
      | exact decide_eq_true (dec_same h1)
      | exact beq_iff_eq.mpr (dec_same h1)
      | exact decide_eq_true (by have q := dec_nonneg rs; omega))
end Mine
namespace Mine

/-! ## Behind the loop -/
theorem last_getD (l : List Int) (x : Int) : (l ++ [x]).getD (-1 + ((l ++ [x]).length : Int)).toNat 0 = x := by
  have e : (-1 + ((l ++ [x]).length : Int)).toNat = l.length := by rw [List.length_append, List.length_singleton]; omega
  rw [e]
  simp
theorem fmod_256 (x : Int) : 0 ≤ x.fmod 256 ∧ x.fmod 256 < 256 := by rw [Int.fmod_eq_emod_of_nonneg _ (by decide)]; omega

set_option maxHeartbeats 3000000 in
theorem law_post {prog : Program} {w : World} {H : Heap} {mg mb : Str → Option Value} {mean : ExcName → Option Value} {s : Shared} {L a r c sh : Addr} {nm : Str} {cd : Value} {oc so : Obj} {m : Str → Option Value} {vs : List Value} {ns : List Int}
    (D : lawB w H mg mb mean) (F : Fr H L s.heap m) (m1 : m (Str.ofString "script") = some (.ref r)) (N : News H L s.heap [(sh, so), (c, oc)])
    (hl : H.IsList r vs.toArray) (hI : IntsAre vs ns) (h63 : ns.length ≤ 63) :
    wpN (model prog w) (callerA.deeper (lawE nm L a cd c)) (execs postBody (lawE nm L a cd c)) (PostOk H s.gens s.drawn s.os) (fun _ _ => False) s := by
  have hfill : (PySem.Challenge.rw_jq0003_01, hd.heap_39) = (PySem.Challenge.rw_jq0003_01, hd.heap_39) := by k_fill; rfl
  clear hfill
  have e1 : lawScope = lawScope := rfl
  conv at e1 => rhs; whnf
  have e2 : postBody = postBody := rfl
  conv at e2 => rhs; whnf
  unfold lawE
  rw [e1, e2]
  clear e1 e2
  w_on
  w_top on
  k_with_none
  have X := D.1
  have T := D.2
  have B := below_caller H
  replace F := fr_b (byte_named m1) F
  clear m1
  change wpN _ _ (execs ([_] ++ [_, _]) _) _ _ _
  refine nExecsAny ?_
  k_fold
  repeat' (first | (k_unfold; (try dsimp only)) | (walk1; (try dsimp only)) | (leave1; walk_say "STEP leave1"; try dsimp only))
  all_goals (
    rename Fr H _ _ _ => lF
    rename News H _ _ _ => lN
    rename IntsAre _ (_ ++ _) => lI
    refine' nAny (law_ask (s := ⟨_, _, _, _, _⟩) D lF rfl (fun p hp => lN p (by rw [List.mem_singleton.mp hp]; exact List.Mem.head _)) lI ?h1 ?h12 ?h0 ?h6)
    case h1 => rw [List.length_append, List.length_singleton]; omega
    case h12 =>
      rw [List.length_append, List.length_singleton, List.length_map, List.length_take, List.length_drop]
      omega
    case h0 =>
      rw [last_getD]
      first | exact (fmod_256 _).1 | decide
    case h6 =>
      rw [last_getD]
      first | exact (fmod_256 _).2 | decide)
end Mine
section
set_option maxHeartbeats 1000000
namespace Mine

/-! ## The law's loop -/
theorem ne_of_obj {h : Heap} {a b : Addr} {x y : Obj} (ha : h.get? a = some x) (hb : h.get? b = some y) (hxy : x.data ≠ y.data) : a ≠ b := by
  rintro rfl
  rw [ha] at hb
  exact hxy (congrArg Obj.data (Option.some.inj hb))

def LoopI (H : Heap) (L r c : Addr) (len : Int) (tl : Tok) (sh dsh : Addr) (es : List DictEntry) (nd : Nat) (it lst : Addr) (ws : List Value) (cnt : Nat) (g : Array GenState) (d : Drawn) (os : OsState) (n : Nat) (s : Shared) : Prop :=
  ∃ i h tk m oi oc v, i ≤ ws.length ∧ n = ws.length - i ∧ s = ⟨h, g, d, tk, os⟩ ∧ Fr H L h m ∧ m (Str.ofString "script") = some (.ref r) ∧ m (Str.ofString "length") = some (.int len tl) ∧ m (Str.ofString "shape") = some (.ref sh) ∧
    News H L h [(it, oi), (lst, listOf ws.toArray cnt), (sh, instObj 80 dsh), (dsh, dictOf es nd), (c, oc)] ∧ oc.data = .cell v ∧ oi.cls = .type "list_iterator" ∧ oi.data = .fields #[.ref lst, .int i 0]

theorem law_loop {prog : Program} {w : World} {H : Heap} {mg mb : Str → Option Value} {mean : ExcName → Option Value} {s : Shared} {L a r c it lst sh dsh : Addr} {nm : Str} {cd : Value} {es : List DictEntry} {nd cnt n₀ : Nat} {len : Int} {tl tq : Tok} {ws : List Value} {is : List Int}
    {g : Array GenState} {d : Drawn} {os : OsState} {px : Pos} {R : Result → Shared → Prop}
    (D : lawB w H mg mb mean) (hW : IntsAre ws is) (hg : getL (Str.ofString "oid_length") es = some (some (.int len tq))) (h0 : 0 ≤ len) (h40 : len ≤ 40)
    (hI : LoopI H L r c len tl sh dsh es nd it lst ws cnt g d os n₀ s) (hR : ∀ s', LawSt H L r c g d os s' → R (.ok .next) s') :
    codeN (model prog w) (callerA.deeper (lawE nm L a cd c)) (.forLoop (.Name (Str.ofString "n") px) (.ref it) turnBody [] (lawE nm L a cd c)) R s := by
  refine codeNForLoop (LoopI H L r c len tl sh dsh es nd it lst ws cnt g d os) (fun n s hI => ?_) n₀ hI
  obtain ⟨i, h, tk, m, oi, oc, v, hle, rfl, rfl, F, m1, m2, m3, N₀, hc, ho1, ho2⟩ := hI
  have z := N₀ (it, oi) (.head _)
  have zl := N₀ (lst, listOf ws.toArray cnt) (.tail _ (.head _))
  have zs := N₀ (sh, instObj 80 dsh) (.tail _ (.tail _ (.head _)))
  have zd := N₀ (dsh, dictOf es nd) (.tail _ (.tail _ (.tail _ (.head _))))
  have zc := N₀ (c, oc) (.tail _ (.tail _ (.tail _ (.tail _ (.head _)))))
  dsimp only at z zl zs zd zc
  have n1 : lst ≠ it := ne_of_obj zl.1 z.1 (by rw [ho2]; intro q; cases q)
  have n2 : sh ≠ it := ne_of_obj zs.1 z.1 (by rw [ho2]; intro q; cases q)
  have n3 : dsh ≠ it := ne_of_obj zd.1 z.1 (by rw [ho2]; intro q; cases q)
  have n4 : c ≠ it := ne_of_obj zc.1 z.1 (by rw [ho2, hc]; intro q; cases q)
  have n5 : lst ≠ c := ne_of_obj zl.1 zc.1 (by rw [hc]; intro q; cases q)
  have n6 : sh ≠ c := ne_of_obj zs.1 zc.1 (by rw [hc]; intro q; cases q)
  have n7 : dsh ≠ c := ne_of_obj zd.1 zc.1 (by rw [hc]; intro q; cases q)
  have hit : h.IsListIter it lst i := ⟨oi, z.1, ho1, ho2⟩
  have hl : h.IsList lst ws.toArray := PySem.IsL.isList zl.1
  have hln := hW.length
  by_cases hi : i < ws.length
  · obtain ⟨t, hv⟩ := hW.get i is[i] (by simp)
    refine wpAny_pyNext_list_item (s := ⟨h, g, d, tk, os⟩) (x := .int is[i] t) hit hl (by simpa using hv) fun h₁ hit₁ hs₁ => ?_
    dsimp only
    refine wpAny_assign_Name ?_
    have F₁ := F.change hs₁ z.2.1 z.2.2
    obtain ⟨oi', q1, q2, q3⟩ := hit₁
    have N₁ : News H L h₁ [(it, oi'), (lst, listOf ws.toArray cnt), (sh, instObj 80 dsh), (dsh, dictOf es nd), (c, oc)] :=
      News.setAt (own := []) N₀ (fun _ hp => nomatch hp) (fun p hp => by
        simp only [List.mem_cons, List.not_mem_nil, or_false] at hp
        rcases hp with rfl | rfl | rfl | rfl <;> assumption) hs₁ q1
    refine storeX_C (s := ⟨h₁, g, d, tk, os⟩) F₁ N₁ (c := c) (o := oc) (v₀ := v) (by rfl) (UpdF.tail (Ne.symm n4) (UpdF.tail n5 (UpdF.tail n6 (UpdF.tail n7 (UpdF.head (fun _ hp => nomatch hp)))))) hc (fun h₂ o₂ F₂ N₂ hd₂ => ?_) (by rfl) (by rfl)
    refine nMono (law_turn (s := ⟨h₂, g, d, tk, os⟩) D F₂ m1 m2 m3 N₂ hd₂ hg h0 h40) (fun f s' hT => ?_) (fun _ _ x => x)
    obtain ⟨rfl, h₃, tk₃, m₃, rfl, F₃, k1, k2, k3, N₃⟩ := hT
    exact ⟨ws.length - (i + 1), by omega, i + 1, h₃, tk₃, m₃, oi', o₂, _, hi, rfl, rfl, F₃, k1, k2, k3, N₃, hd₂, q2, q3⟩
  · refine wpAny_pyNext_list_end (s := ⟨h, g, d, tk, os⟩) rfl hit hl (by simp; omega) fun h' he => ?_
    dsimp only
    rw [execs]
    refine wpAny_pure (hR _ ?_)
    have keep : ∀ b o, b ≠ it → h.get? b = some o → h'.get? b = some o := fun b o hb q => he b o hb q
    exact LawSt.of (news := [(sh, instObj 80 dsh), (dsh, dictOf es nd), (c, oc)]) (fr_but F z.2.1 z.2.2 keep) (fun p hp => by
        simp only [List.mem_cons, List.not_mem_nil, or_false] at hp
        rcases hp with rfl | rfl | rfl
        · exact ⟨keep _ _ n2 zs.1, zs.2⟩
        · exact ⟨keep _ _ n3 zd.1, zd.2⟩
        · exact ⟨keep _ _ n4 zc.1, zc.2⟩) hc m1 m2 m3 (.head _) (.tail _ (.head _)) (.tail _ (.tail _ (.head _))) hg ⟨h0, h40⟩
end Mine
end
section
set_option maxHeartbeats 1000000
namespace Mine

/-! ## The for, whole, and the law's body -/
noncomputable def forBody : List Stmt := match lawBody with | [_, _, _, f, _, _, _] => [f] | _ => []
noncomputable def forIter : Expr := match forBody with | [.For _ it _ _ _] => it | _ => .Constant .none 0 default

def SliceOk (H : Heap) (L : Addr) (g : Array GenState) (d : Drawn) (os : OsState) (m : Str → Option Value) (led : List (Addr × Obj)) (x : Value) (s' : Shared) : Prop :=
  ∃ h tk lst ws is cnt, x = .ref lst ∧ s' = ⟨h, g, d, tk, os⟩ ∧ Fr H L h m ∧ News H L h ((lst, listOf ws.toArray cnt) :: led) ∧ IntsAre ws is

theorem SliceOk.of {H h : Heap} {L lst : Addr} {g : Array GenState} {d : Drawn} {os : OsState} {m : Str → Option Value} {led news : List (Addr × Obj)} {tk cnt : Nat} {ws : List Value} {is : List Int}
    (F : Fr H L h m) (N : News H L h news) (hm : (lst, listOf ws.toArray cnt) ∈ news) (hs : ∀ p ∈ led, p ∈ news) (hI : IntsAre ws is) : SliceOk H L g d os m led (.ref lst) ⟨h, g, d, tk, os⟩ :=
  ⟨h, tk, lst, ws, is, cnt, rfl, rfl, F, (fun p hp => by
    rcases List.mem_cons.mp hp with rfl | hp
    · exact N _ hm
    · exact N _ (hs p hp)), hI⟩

theorem slice_17 {prog : Program} {w : World} {A : Around} {E : Value → Shared → Prop} {hp : Heap} {g : Array GenState} {d : Drawn} {tk : Nat} {os : OsState} {h₀ : Heap} {L : Addr} {m : Str → Option Value} {news : List (Addr × Obj)} {value slice : Expr} {l : Addr} {vs : List Value} {t u : Tok} {Q : Value → Shared → Prop}
    (F : Fr h₀ L hp m) (N : News h₀ L hp news) (hl : hp.IsList l vs.toArray) (hsz : vs.length ≤ sizeLine)
    (hs : subscripted slice false (.ref l) (.ref hp.objs.size) = operate [.ref hp.objs.size, .ref l] (getItem (.ref l) (.ref hp.objs.size)))
    (ht : ∀ r, letTemporaryGo value (.ref l) r = pure ())
    (h : ∀ h', Fr h₀ L h' m → News h₀ L h' ((hp.objs.size + 1, listOf (slicePick vs.toArray (some 1) (some 7) none).toList.toArray 0) :: news) → Q (.ref (hp.objs.size + 1)) ⟨h', g, d, tk, os⟩) :
    wpAny (model prog w) A (subscriptTail value slice (.ref l) (.ref hp.objs.size)) Q E ⟨hp.push { cls := .type "slice", data := .fields #[.int 1 t, .int 7 u, .none] }, g, d, tk, os⟩ :=
  slice_list (s := ⟨hp, g, d, tk, os⟩) (lo := some 1) (hi := some 7) F N hl (.int _ _) (.int _ _) (fun h' F' N' => h h' F' N') hs ht (by simpa using hsz)

theorem law_slice {prog : Program} {w : World} {H : Heap} {mg mb : Str → Option Value} {mean : ExcName → Option Value} {s : Shared} {L a r c sh dsh : Addr} {nm : Str} {cd : Value} {oc : Obj} {es : List DictEntry} {nd : Nat} {m : Str → Option Value} {vs : List Value} {ns : List Int} {len : Int} {tl : Tok}
    (D : lawB w H mg mb mean) (F : Fr H L s.heap m) (m1 : m (Str.ofString "script") = some (.ref r)) (m2 : m (Str.ofString "length") = some (.int len tl)) (m3 : m (Str.ofString "shape") = some (.ref sh))
    (N : News H L s.heap [(sh, instObj 80 dsh), (dsh, dictOf es nd), (c, oc)]) (hl : H.IsList r vs.toArray) (hI : IntsAre vs ns) (h63 : ns.length ≤ 63) :
    wpAny (model prog w) (callerA.deeper (lawE nm L a cd c)) (eval forIter (lawE nm L a cd c))
      (SliceOk H L s.gens s.drawn s.os m [(sh, instObj 80 dsh), (dsh, dictOf es nd), (c, oc)]) (fun _ _ => False) s := by
  have hfill : (PySem.Challenge.rw_jq0003_01, hd.heap_39) = (PySem.Challenge.rw_jq0003_01, hd.heap_39) := by k_fill; rfl
  clear hfill
  have e1 : lawScope = lawScope := rfl
  conv at e1 => rhs; whnf
  have e2 : forIter = forIter := rfl
  conv at e2 => rhs; whnf
  unfold lawE
  rw [e1, e2]
  clear e1 e2
  w_on
  w_top on
  k_with_none
  have X := D.1
  have T := D.2
  have B := below_caller H
  have eM := kst_self (three_named m1 m2 m3 (fx := []) (fun _ h => nomatch h))
  rw [← eM] at F ⊢
  clear m1 m2 m3 eM
  change wpAny _ _ _ _ _ _
  repeat' (first | (walk1; (try dsimp only)))
  have hn := hI.length
  have hz := sizeLine_eq
  refine' slice_17 F N (F.lst hl) ?hsz ?hs ?ht ?_
  case hsz => omega
  case hs => with_unfolding_all rfl
  case ht => intro _; with_unfolding_all rfl
  intro h' F' N'
  exact SliceOk.of (ws := (slicePick vs.toArray (some 1) (some 7) none).toList) (cnt := 0) F' N' (.head _) (fun p hp => List.Mem.tail _ hp) (kmk_run hI (by decide) (by decide))

theorem law_for {prog : Program} {w : World} {H : Heap} {mg mb : Str → Option Value} {mean : ExcName → Option Value} {s : Shared} {L a r c : Addr} {nm : Str} {cd : Value} {g : Array GenState} {d : Drawn} {os : OsState} {vs : List Value} {ns : List Int}
    (D : lawB w H mg mb mean) (S : LawSt H L r c g d os s) (hl : H.IsList r vs.toArray) (hI : IntsAre vs ns) (h63 : ns.length ≤ 63) :
    wpN (model prog w) (callerA.deeper (lawE nm L a cd c)) (execs forBody (lawE nm L a cd c)) (LawNext H L r c g d os) (fun _ _ => False) s := by
  obtain ⟨h, tk, m, oc, tl, len, sh, dsh, es, nd, tq, v, rfl, F, m1, m2, m3, N, hc, hg, h0, h40⟩ := S
  obtain ⟨px, pos, e⟩ : ∃ px pos, forBody = [.For (.Name (Str.ofString "n") px) forIter turnBody [] pos] := ⟨_, _, rfl⟩
  rw [e]
  refine nExecs (nFor (wpAny_mono (law_slice (s := ⟨h, g, d, tk, os⟩) D F m1 m2 m3 N hl hI h63) (fun x s₁ hs => ?_) fun _ _ q => q) (by intro _; rfl))
  obtain ⟨h₁, tk₁, lst, ws, is, cnt, rfl, rfl, F₁, N₁, hW⟩ := hs
  have zl := N₁ (lst, listOf ws.toArray cnt) (.head _)
  refine wpAny_pyIter_list (s := ⟨h₁, g, d, tk₁, os⟩) (PySem.IsL.isList zl.1) ?_
  refine law_loop (n₀ := ws.length) (lst := lst) (len := len) (tl := tl) (sh := sh) (dsh := dsh) (es := es) (nd := nd) (cnt := cnt) D hW hg h0 h40 ?_ (fun s' hs' => nExecsNil ⟨rfl, hs'⟩)
  refine ⟨0, _, tk₁, m, { cls := .type "list_iterator", data := .fields #[.ref lst, .int 0 0] }, oc, v, Nat.zero_le _, rfl, rfl, F₁.push _, m1, m2, m3, ?_, hc, rfl, rfl⟩
  intro p hp
  rcases List.mem_cons.mp hp with rfl | hp
  · exact ⟨Heap.get?_push_size _ rfl, Nat.ne_of_gt F₁.ns.lt, next_is_new F₁⟩
  · exact ⟨Heap.get?_push_of_some _ (N₁ p hp).1, (N₁ p hp).2⟩

theorem law_whole {prog : Program} {w : World} {H : Heap} {mg mb : Str → Option Value} {mean : ExcName → Option Value} {s : Shared} {L a r c : Addr} {nm : Str} {cd : Value} {vs : List Value} {ns : List Int} {oc : Obj}
    (D : lawB w H mg mb mean) (F : Fr H L s.heap (fun y => if y = Str.ofString "script" then some (.ref r) else none)) (N : News H L s.heap [(c, oc)]) (hc : oc.data = .cell none)
    (hl : H.IsList r vs.toArray) (hI : IntsAre vs ns) (h63 : ns.length ≤ 63) :
    wpN (model prog w) (callerA.deeper (lawE nm L a cd c)) (execs lawBody (lawE nm L a cd c)) (PostOk H s.gens s.drawn s.os) (fun _ _ => False) s := by
  have e : lawBody = preBody ++ (forBody ++ postBody) := rfl
  rw [e]
  refine nExecsAny (wpAny_mono (law_pre D F N hc hl hI h63) (fun f s₁ h₁ => ?_) fun _ _ q => q)
  obtain ⟨rfl, S₁⟩ := h₁
  dsimp only
  rw [execs_append]
  refine nBind (nMono (law_for D S₁ hl hI h63) (fun f s₂ h₂ => ?_) fun _ _ q => q)
  obtain ⟨rfl, S₂⟩ := h₂
  dsimp only
  obtain ⟨h, tk, m, oc₂, tl, len, sh, dsh, es, nd, tq, v, rfl, F₂, m1, m2, m3, N₂, hc₂, hg, h0, h40⟩ := S₂
  exact law_post (s := ⟨h, s.gens, s.drawn, tk, s.os⟩) (sh := sh) (so := instObj 80 dsh) D F₂ m1 (fun p hp => by
    rcases List.mem_cons.mp hp with rfl | hp
    · exact N₂ _ (.head _)
    · rw [List.mem_singleton.mp hp]; exact N₂ _ (.tail _ (.tail _ (.head _)))) hl hI h63
end Mine
end
section
set_option maxHeartbeats 1000000
namespace Mine

/-! ## The whole -/
theorem codeNCallDoc {prog : Program} {w : World} {A : Around} {s : Shared} {R : Result → Shared → Prop} {name : Str} {params : Arguments} {body : List Stmt} {scope : Scope}
    {pm cd doc : Value} {a : Addr} {o : Obj} {args : List Value} {binds : List (Str × Value)}
    (hroom : A.depth < recursionLimit) (ho : s.heap.get? a = some o) (hdata : o.data = .func (Calls.docDef name params body scope pm cd doc)) (hlim : s.heap.NoLimit) (hcd : s.heap.CodeRec cd name)
    (hbind : bindArgs (Calls.docDef name params body scope pm cd doc) ⟨args, []⟩ = pure binds)
    (hkind : (binds.all fun y => scope.names.lookup y.1 == some .local || scope.names.lookup y.1 == some .cell) = true)
    (hnd : ((cellsFrom 0 scope.names []).map (·.1)).Nodup)
    (h : ∀ h₁ tk cells, Fr s.heap s.heap.objs.size h₁ (bindL (envOfC name scope s.heap.objs.size a cd).kindOf binds fun _ => none) → News s.heap s.heap.objs.size h₁ cells →
      CellsAre (bindC (envOfC name scope s.heap.objs.size a cd).kindOf binds fun _ => none) (cellsFrom (s.heap.objs.size + 1) scope.names []) cells →
      wpN (model prog w) (A.deeper (envOfC name scope s.heap.objs.size a cd)) (execs body (envOfC name scope s.heap.objs.size a cd))
        (fun f s' => R (.ok (.ret (match f with | .ret v => v | _ => .none))) s') (fun _ _ => False) { s with heap := h₁, toks := tk })
    (hco : scope.isCoroutine = false := by rfl) (hgen : scope.isGenerator = false := by rfl) (hk : scope.kind = .function := by rfl) :
    codeN (model prog w) A (.call (.ref a) ⟨args, []⟩) R s :=
  codeNCallCells (dV := .none) (kV := .none) hroom ho hdata hlim hcd (BindsTo.of_eq hbind) hkind hnd h hco hgen hk
theorem fin : PySem.Challenge.rw_jq0003_01.Holds := hd (by
  k_fill
  intro w s₀ s₁ mg mb G hY a o pm cd doc dV kV ho hdd hcd hD hmg hgens args vals as hpre hlay hrd hwl hlo
  have KX := kIn_of hY
  refine Ground.open G ?_
  intro T B D TE TW
  wrow_args hpre hlay hrd hwl hlo
  rename s₁.heap.IsList _ _ => hlist
  rename IntsAre _ _ => hints
  rename ¬ (_ < _) => hlen
  have DD : lawB w s₁.heap mg mb (ExcName.means s₀.heap) := ⟨KX, T⟩
  clear G hY B D TE TW
  have he := Dflts.none hD rfl
  subst he
  have he := Dflts.noKw hD
  subst he
  clear hD
  refine nCall ?_
  refine' codeNCallDoc ?room ho (fd_plain hdd) T.nolimit hcd rfl ?kind ?nd ?_ ?co ?gen ?kk
  case room => decide
  case kind => rfl
  case nd => decide +kernel
  case co => rfl
  case gen => rfl
  case kk => rfl
  intro h₁ tk cells F N Y
  obtain ⟨oc, hE, hc⟩ := CellsAre.one Y
  subst hE
  clear Y
  refine nMono (law_whole (s := ⟨h₁, s₁.gens, s₁.drawn, tk, s₁.os⟩) DD F N hc hlist hints (by omega)) (fun f s' hp => ?_) (fun _ _ q => q.elim)
  obtain ⟨rfl, h, tk', rfl, keep⟩ := hp
  refine GoodW.toG ⟨.inl ⟨.bool true, .bool true, [], rfl, fun cls => ?_, .bool true, ?_, unshared_nil⟩, keep, rfl, hgens⟩
  · rfl
  · exact postW_of (by wrow_shape) (by wtm_val) (by str_meet; first | done | w_fin))
end Mine
end
theorem PySem.Challenge.cw_jq0003_01_holds : PySem.Challenge.rw_jq0003_01.Holds := by
  exact Mine.fin
