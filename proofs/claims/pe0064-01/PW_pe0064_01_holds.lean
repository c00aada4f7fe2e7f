import PyProof.Rows.All
import Wide.All
import OpenK.AllK
import Wide.FinOn
import KE.KStar
import KE.KNest
import PySem.Challenge.RW_pe0064_01
set_option Elab.async false

section
set_option autoImplicit false
set_option maxRecDepth 100000
/-! wp at contexts beneath which the claim's caller stands: `wpAny` with one fact more -/
namespace Mine
open PySem PySem.W PySem.Calls PyProof.Rows
open Sem (wp)

noncomputable def isCl (c : Code) : Bool := match c with | .builtin "claim.caller" _ => true | _ => false
noncomputable def hasC (l : List (Code × Pos)) : Bool := l.any fun c => isCl c.1
noncomputable def wpC {α : Type} (M : Model) (A : Around) (t : Sem α) (Q : α → Shared → Prop) (E : Value → Shared → Prop) (s : Shared) : Prop :=
  ∀ (Γ : Ctx) (p : Pos), Γ.In A → (∀ p, hasC ((Γ.code, p) :: Γ.below) = true) → wp M Γ t (fun a _ s' => Q a s') (fun e _ s' => E e s') p s
noncomputable def codeC (M : Model) (A : Around) (c : Code) (R : Result → Shared → Prop) (s : Shared) : Prop :=
  ∀ (Γ : Ctx) (p : Pos), Γ.code = c → Γ.Below A → hasC Γ.below = true → wpCode M Γ R p s
theorem hasC_cons {c : Code} {l : List (Code × Pos)} (h : hasC l = true) (p : Pos) : hasC ((c, p) :: l) = true := by
  unfold hasC at *; rw [List.any_cons, h, Bool.or_true]

section
variable {α β : Type} {M : Model} {A : Around} {E : Value → Shared → Prop} {s : Shared}
theorem wpC_of {t : Sem α} {Q : α → Shared → Prop} (h : wpAny M A t Q E s) : wpC M A t Q E s := fun Γ p hΓ _ => h Γ p hΓ
theorem codeC_of {c : Code} {R : Result → Shared → Prop} (h : codeAny M A c R s) : codeC M A c R s := fun Γ p hc hΓ _ => h Γ p hc hΓ
theorem wpC_pure {a : α} {Q : α → Shared → Prop} (h : Q a s) : wpC M A (pure a) Q E s := fun _ _ _ _ => h
theorem wpC_mono {t : Sem α} {Q Q' : α → Shared → Prop} {E' : Value → Shared → Prop} (h : wpC M A t Q E s) (hQ : ∀ a s, Q a s → Q' a s) (hE : ∀ e s, E e s → E' e s) : wpC M A t Q' E' s :=
  fun Γ p hΓ hC => Sem.wp_mono M Γ t (fun a _ s => hQ a s) (fun e _ s => hE e s) p s (h Γ p hΓ hC)
theorem wpC_bind {m : Sem α} {f : α → Sem β} {Q : β → Shared → Prop} (h : wpC M A m (fun a s' => wpC M A (f a) Q E s') E s) : wpC M A (m >>= f) Q E s := fun Γ p hΓ hC => by
  rw [Sem.wp_bind']
  exact Sem.wp_mono M Γ m (fun a p' s' h' => h' Γ p' hΓ hC) (fun _ _ _ h' => h') p s (h Γ p hΓ hC)
/-- a first part by the plain logic, the rest beneath the caller -/
theorem wpC_first {m : Sem α} {f : α → Sem β} {Q : β → Shared → Prop} (h : wpAny M A m (fun a s' => wpC M A (f a) Q E s') E s) : wpC M A (m >>= f) Q E s := wpC_bind (wpC_of h)
theorem wpC_onRaise {m : Sem α} {k : Value → Sem Unit} {Q : α → Shared → Prop} (h : wpC M A m Q (fun e s' => wpAny M A (k e) (fun _ s'' => E e s'') E s') s) : wpC M A (m.onRaise k) Q E s := fun Γ p hΓ hC => by
  rw [Sem.wp_onRaise]
  exact Sem.wp_mono M Γ m (fun _ _ _ h' => h') (fun e p' s' h' => h' Γ p' hΓ) p s (h Γ p hΓ hC)
theorem wpC_attempt {m : Sem α} {Q : Except Value α → Shared → Prop} (h : wpC M A m (fun a => Q (.ok a)) (fun e => Q (.error e)) s) : wpC M A m.attempt Q E s := fun Γ p hΓ hC => by
  rw [Sem.wp_attempt]; exact h Γ p hΓ hC
theorem wpC_holding {vs : List Value} {m : Sem α} {Q : α → Shared → Prop} (h : wpC M A m Q E s) : wpC M A (holding vs m) Q E s := fun Γ p hΓ hC => by
  rw [Sem.wp_holding]; exact h Γ p hΓ hC
theorem wpC_keep {vs : List Value} {m : Sem α} {Q : α → Shared → Prop} (h : wpC M A m Q E s) : wpC M A (m.keep vs) Q E s := fun Γ p hΓ hC => by
  rw [Sem.wp_keep]; exact h Γ p hΓ hC
theorem codeC_mono {c : Code} {R R' : Result → Shared → Prop} (h : codeC M A c R s) (hR : ∀ r s, R r s → R' r s) : codeC M A c R' s := fun Γ p hc hΓ hC => wpCode_mono hR (h Γ p hc hΓ hC)
theorem wpC_run {c : Code} {h : Option Value} {Q : Flow → Shared → Prop} (hc : codeC M (A.mark h) c (fun r s' => match r with | .ok f => Q f s' | .error e => E e s') s) (hnb : h ≠ some byPass := by intro x; cases x) :
    wpC M A (run c h) Q E s := fun Γ p hΓ hC => by rw [Sem.wp_run]; exact hc _ p rfl (hΓ.enter c h p hnb) (hC p)
theorem wpC_runValue {c : Code} {Q : Value → Shared → Prop} (hc : codeC M A c (fun r s' => match r with | .ok (.ret v) => Q v s' | .ok _ => False | .error e => E e s') s) : wpC M A (runValue c) Q E s :=
  fun Γ p hΓ hC => by rw [Sem.wp_runValue]; exact hc _ p rfl (hΓ.enter c none p (by intro x; cases x)) (hC p)
theorem wpC_call {f : Value} {pos : List Value} {kw : List (Str × Value)} {Q : Value → Shared → Prop}
    (hc : codeC M A (.call f ⟨pos, kw⟩) (fun r s' => match r with | .ok (.ret v) => Q v s' | .ok _ => False | .error e => E e s') s) : wpC M A (call f pos kw) Q E s := wpC_runValue hc
theorem codeC_of_tree {c : Code} {R : Result → Shared → Prop}
    (h : wpC M (A.under c) (M.den c) (fun fin s' => match fin with | .done f => R (.ok f) s' | .again c' => c'.quiet = true ∧ codeC M A c' R s') (fun e s' => R (.error e) s') s) : codeC M A c R s := fun Γ p hc hΓ hC => by
  rw [wpCode_iff_wp, hc]
  refine Sem.wp_mono M Γ _ (fun fin p' s' h' => ?_) (fun _ _ _ h' => h') p s (h Γ p (hc ▸ hΓ.in) (hasC_cons hC))
  cases fin with
  | done f => exact h'
  | again c' => exact ⟨h'.1, h'.2 (Γ.goto c') p' rfl (hΓ.goto c') hC⟩
theorem codeC_loop {c : Code} {R : Result → Shared → Prop} (hq : c.quiet = true) (I : Nat → Shared → Prop)
    (turn : ∀ n s, I n s → wpC M (A.under c) (M.den c) (fun fin s' => match fin with
        | .done f => R (.ok f) s'
        | .again c' => (c' = c ∧ ∃ m, m < n ∧ I m s') ∨ (c'.quiet = true ∧ codeC M A c' R s')) (fun e s' => R (.error e) s') s) (n : Nat) (h : I n s) : codeC M A c R s := by
  induction n using Nat.strongRecOn generalizing s with
  | ind n ih =>
    refine codeC_of_tree (wpC_mono (turn n s h) (fun fin s' hf => ?_) fun _ _ h' => h')
    cases fin with
    | done f => exact hf
    | again c' =>
      rcases hf with ⟨rfl, m, hm, hI⟩ | hf
      · exact ⟨hq, ih m hm hI⟩
      · exact hf
/-- the mark of a refusal is not set beneath the claim's caller -/
theorem wpC_markTheRefusal {own : List String} {e : Value} {Q : Unit → Shared → Prop} (h : Q () s) : wpC M A (markTheRefusal own e) Q E s := fun Γ p hΓ hC => by
  unfold markTheRefusal
  rw [Sem.wp_bind']
  show wp M Γ (if pythonCodeMadeTheCall own (((Γ.code, p) :: Γ.below).map (·.1)) = true then _ else _) _ _ p s
  have hp : pythonCodeMadeTheCall own (((Γ.code, p) :: Γ.below).map (·.1)) = false := by
    unfold pythonCodeMadeTheCall
    have h1 : (((Γ.code, p) :: Γ.below).map (·.1)).any isCl = true := by
      have := hC p
      unfold hasC at this
      rw [List.any_map]; exact this
    have key : ∀ x y z : Bool, x = true → ((!x && y) && z) = false := fun x y z hx => by subst hx; rfl
    exact key _ _ _ h1
  rw [if_neg (by rw [hp]; exact Bool.false_ne_true)]
  exact h
end
end Mine
end

section
set_option autoImplicit false
set_option maxRecDepth 100000
namespace Mine
open PySem PySem.W PySem.Calls PyProof.Rows
open Sem (wp)

theorem ends_at_caller {prog : Program} {w : World} {t : Sem PySem.Fin} {s : Shared} {R : Result → Shared → Prop} (hreg : s.asleep)
    (h : wpC (model prog w) callerA t (fun fin s' => ∃ f, fin = .done f ∧ (R (.ok f) s' ∧ leftWithCleanup s'.gens = false)) (fun e s' => R (.error e) s' ∧ leftWithCleanup s'.gens = false) s) :
    ∃ n r s' s'', runN (denote table) prog w n s ⟨t, .builtin "claim.caller" {}, default, []⟩ = .halted (outcomeOf r) s' ∧
      schedN (denote table) prog w n (.single s ⟨t, .builtin "claim.caller" {}, default, []⟩) = .halted (outcomeOf r) s' ∧ s'.forget = s''.forget ∧ R r s'' := by
  have hw : wp (model prog w) ⟨.builtin "claim.caller" {}, none, none, [], none⟩ t (Sem.finPost (model prog w) ⟨.builtin "claim.caller" {}, none, none, [], none⟩ fun r s' => R r s' ∧ leftWithCleanup s'.gens = false)
      (fun e _ s' => R (.error e) s' ∧ leftWithCleanup s'.gens = false) default s := by
    refine Sem.wp_mono _ _ t (fun fin p' s' h' => ?_) (fun _ _ _ h' => h') _ s (h _ default caller_in fun p => rfl)
    obtain ⟨f, rfl, hf⟩ := h'
    exact hf
  obtain ⟨n, r, s₁, s₂, hs, hn, hfo, hR⟩ := wp_halts_full (M := model prog w) (R := R) hreg hw
  exact ⟨n, r, s₂, s₁, hn, hs, hfo, hR⟩

theorem callFrom_C {c : ClaimW} {tree : List Value → Sem PySem.Fin} {w : World} {s : Shared} {free : Addr → Prop} {gens : Prop} {kept : Heap → Prop} (hz : s.asleep) (hgens : s.gens = #[])
    (hspec : ∀ args, c.pre args = true → WData.layableAll args = true → ∀ ord : List DictEntry → List DictEntry, (∀ l, (ord l).Perm l) →
      ∃ vs s₁, layAllW c.records (classAt s.heap) w.params ord args s = some (vs, s₁) ∧
        wpC (model c.prog w) callerA (tree vs) (fun fin s' => ∃ f, fin = .done f ∧ (c.Ends s args vs s₁ (.ok f) s' ∧ s'.os = s.os ∧ AllBare s'.gens ∧ kept s'.heap))
          (fun e s' => c.Ends s args vs s₁ (.error e) s' ∧ s'.os = s.os ∧ AllBare s'.gens ∧ kept s'.heap) s₁) :
    c.CallFrom (fun vs => ⟨tree vs, .builtin "claim.caller" {}, default, []⟩) w free gens kept s := by
  intro args hpre hlay ord hord
  obtain ⟨vs, s₁, hlaid, hcode⟩ := hspec args hpre hlay ord hord
  have hal := layAllW_rest _ _ _ hlaid
  have hrun := ends_at_caller (R := fun r s' => c.Ends s args vs s₁ r s' ∧ s'.os = s.os ∧ kept s'.heap) (Shared.asleep_of_life hal.2.2.2 hz)
    (wpC_mono hcode (fun fin s' ⟨f, e, h1, h2, h3, h4⟩ => ⟨f, e, ⟨h1, h2, h4⟩, leftWithCleanup_false_of_bare h3⟩) fun e s' ⟨h1, h2, h3, h4⟩ => ⟨⟨h1, h2, h4⟩, leftWithCleanup_false_of_bare h3⟩)
  obtain ⟨k, r, s', s'', hrun, hsched, hfo, hcase, hos, hkp⟩ := hrun
  obtain ⟨eh, _, _, eo, _⟩ := Shared.forget_eq hfo
  have hcase := hcase.congr eh
  have hkp : kept s'.heap := by rw [eh]; exact hkp
  rw [← eo] at hos
  have hlife : s'.heap.life = s.heap.life := (runN_life _ _ _ hrun).trans hal.2.2.2
  refine ⟨vs, s₁, hlaid, k, _, s', hsched, ?_, (fun _ i x hx => by rw [hgens] at hx; simp at hx), hkp, by rw [hlife], Shared.rest_eq hos⟩
  rcases hcase with ⟨v, rfl, d1, d2, d3, d4, d5⟩ | ⟨e, ob, cls, rfl, d1, d2, d3, d4, d5⟩
  · exact .inl ⟨v, rfl, d1, d2, d3, fun b o y _ => d4 b o y, d5⟩
  · exact .inr ⟨e, ob, cls, rfl, d1, d2, d3, d4, fun b o y _ => d5 b o y⟩

/-- what is left behind the head: the call, beneath the claim's caller -/
abbrev WalkC (q : Program) (loose : List Str) (XP : (Str → Option Value) → Heap → Prop) (YP : World → Heap → Prop) (r : RowW) (d : DefRec) (kwd : List (Str × Expr)) : Prop :=
  ∀ (w : World) (s₀ s₁ : Shared) (mg mb : Str → Option Value), Ground q loose r.records XP w s₀ mg mb s₁.heap → YP w s₁.heap → ∀ (a : Addr) (o : Obj) (pm cd doc dV kV : Value), s₁.heap.get? a = some o →
    o.data = .func { docDef d.name d.params d.body d.scope pm cd doc with defaults := dV, kwdefaults := kV } → s₁.heap.CodeRec cd d.name → Dflts mg s₁.heap d.params kwd dV kV → mg d.name = some (.ref a) → s₁.gens = #[] →
    ∀ (args : List WData) (vals : List Value) (as : List Addr), r.claim.pre args = true → WData.layableAll args = true → ReadsAllW r.records (classAt s₀.heap) s₁.heap vals args as → WellAll w.params s₁.heap vals args → (∀ a ∈ as, (a == sysModules) = false) →
      wpC (model r.prog w) callerA (call (.ref a) vals) (fun v s' => GoodWG r.claim (classAt s₀.heap) (ExcName.means s₀.heap) args s₁ (.ok (.ret v)) s')
        (fun e s' => GoodWG r.claim (classAt s₀.heap) (ExcName.means s₀.heap) args s₁ (.error e) s') s₁

end Mine

namespace MineH
open PySem PySem.W PySem.Calls PyProof.Rows Mine
/-- the head of the kit's line, its call asked for beneath the claim's caller alone (the line finds it by this name) -/
theorem PySem.W.holds_open {r : OpenRow} {q : Program} {loose : List Str} {Xt : Shared → Bool} {XP : (Str → Option Value) → Heap → Prop} {α : Type} {Yf : Shared → α} {Ya : World → α} {YP : World → Heap → Prop} {d : DefRec}
    {kwd : List (Str × Expr)} {N : Nat} (left : LeftO r.prog q loose Xt Yf Ya N) (hY : ∀ w s, Yf s = Ya w → YP w s.heap) (hYk : ∀ w h h', YP w h → (∀ b o, h.get? b = some o → h'.get? b = some o) → YP w h')
    (hX : ∀ s, Xt s = true → XP (s.heap.nsMap mainGlobals) s.heap) (hXk : ∀ mg h h', XP mg h → (∀ b o, h.get? b = some o → h'.get? b = some o) → XP mg h') (hdef : defOf q r.name = some (d, kwd))
    (hp : r.prog.theDef r.name = some (d.params, d.body, d.scope)) (hk : kwWritten? d.params.kwonlyargs d.params.kw_defaults = some kwd) (hRf : ∀ s, Xt s = true → RecFacts r.records s.heap) (hwr : (!r.writes || r.records.isEmpty) = true)
    (k1 : r.wellSaid = true) (ok : (chainsOk q && opensWell r.prog && (frees r.toRowW && r.within.isEmpty)) = true) (hb : r.prog.bare) (hw : r.toRowW.promised) (call : WalkC q loose XP YP r.toRowW d kwd) : r.Holds := by
  obtain ⟨ok, k5⟩ := Bool.and_eq_true_iff.mp ok
  obtain ⟨hch, o1⟩ := Bool.and_eq_true_iff.mp ok
  obtain ⟨k5, k6⟩ := Bool.and_eq_true_iff.mp k5
  obtain ⟨hsame, hu, ha, hap, hm⟩ := frees_parts k5
  refine ⟨k1, hw, ⟨hb, o1, by show r.makers.map _ = []; rw [hm]; rfl⟩, hw.witness, fun w => ⟨(left.behind hX hch w).1, fun s' hs' => ?_⟩⟩
  obtain ⟨s₀, hf, hg0, s, hT, hz, hgens, hg, G00, y⟩ := (left.behind (XP := fun mg h => XP mg h ∧ RecFacts r.records h) (fun s hs => ⟨hX s hs, hRf s hs⟩) hch w).2 s' hs'
  have G0 : Ground q loose [] XP w s (s.heap.nsMap mainGlobals) (s.heap.nsMap builtinsNs) s.heap := ⟨G00.T, G00.B, G00.D, G00.TE, G00.TD, G00.W, G00.X.1, G00.cls, G00.has, G00.apart, G00.once, G00.K⟩
  have RF := G00.X.2
  have hgens : s.gens = #[] := Array.eq_empty_of_size_eq_zero (beq_iff_eq.mp hgens)
  have G : Ground q loose r.records XP w s _ _ s.heap := RF.ground G0
  refine ⟨s₀, hf, hg0, s, hT, fun n hn => ?_, RF.1, RF.2.1, ?_⟩
  · obtain rfl : n = r.name := by split at hn <;> simp_all
    exact pinned_of_view hg G0 hdef hp hk
  refine callFrom_C (c := r.toRowW.claim) hz hgens fun args hpre hlay ord hord => ?_
  obtain ⟨⟨vs, s₁⟩, hlaid⟩ := Option.isSome_iff_exists.mp (layAllW_isSome (P := w.params) (ord := ord) G.has args r.args s (pre_splitW hpre).1)
  have keeps := layAllW_keeps _ _ _ hlaid
  have hal := layAllW_rest _ _ _ hlaid
  obtain ⟨as, hrd, hin, hold⟩ := reads_layAllW hord _ _ _ hlaid hlay s₁.heap (fun _ _ e => e)
  have L : Laid r.records w s s₁ args vs as := ⟨⟨ord, hord, hlaid⟩, hrd, hin, hold, keeps, hal.1.trans hgens, hal.2.2.1⟩
  have G₁ := G.keeps hXk keeps
  obtain ⟨a, o, pm, cd, doc, dV, kV, h1, h2, h3, h4, h5⟩ := G₁.fn hdef
  have h := call w s s₁ _ _ G₁ (hYk _ _ _ (hY w s y) keeps) a o pm cd doc dV kV h2 h3 h4 h5 (defOf_name hdef ▸ h1) L.gens args vs as hpre hlay L.reads L.well (L.low G.low)
  have hi := ident_freeW hu ha hap
  have hwi : r.toRowW.claim.within = [] := List.isEmpty_iff.mp k6
  refine ⟨vs, s₁, hlaid, ?_⟩
  refine wpC_first (wpAny_nsGet G₁.T.g ?_)
  rw [h1]
  refine wpC_bind (wpC_mono h (fun v s' g => wpC_pure ?_) fun e s' g => ?_)
  · have z := g.laid (c := r.toRowW.claim) hsame hwi hi L
    exact ⟨_, rfl, z.1, z.2.1, z.2.2, fun q => ⟨namesKept_of hT hg r.keeps keeps g.2.1.old, noTable hwr q⟩⟩
  · have z := g.laid (c := r.toRowW.claim) hsame hwi hi L
    exact ⟨z.1, z.2.1, z.2.2, fun q => ⟨namesKept_of hT hg r.keeps keeps g.2.1.old, noTable hwr q⟩⟩
end MineH
end

section
open PySem PySem.W PyProof.Rows
set_option Elab.async false
set_option maxRecDepth 100000
set_option maxHeartbeats 8000000
namespace MineH
open_top hd for PySem.Challenge.rw_pe0064_01
end MineH
end

section
set_option autoImplicit false
set_option linter.unusedSimpArgs false
namespace Mine
open PySem PySem.Sre

theorem rf_done (n : Nat) (m : M) (h : m.outcome.isSome = true) : M.runFor n m = m := by
  cases n with
  | zero => rfl
  | succ n => simp [M.runFor, h]
theorem rf_add (a b : Nat) : ∀ m : M, M.runFor (a + b) m = M.runFor b (M.runFor a m) := by
  induction a with
  | zero => intro m; rw [Nat.zero_add]; rfl
  | succ a ih =>
    intro m
    rw [Nat.add_right_comm]
    by_cases h : m.outcome.isSome = true
    · rw [rf_done _ _ h, rf_done _ _ h, rf_done _ _ h]
    · simp only [M.runFor, h, ih]
      simp
theorem rf_one (n : Nat) {m m' : M} (h : m.outcome = none) (hs : m.step = m') : M.runFor (n + 1) m = M.runFor n m' := by
  simp [M.runFor, h, hs]

/-- a state of the engine, `lastStart` at the limit, no loops -/
noncomputable def mk (code text : Array Nat) (lim start pc pos handed : Nat) (om : Bool) (marks : Array (Option Nat)) (lm li : Int) (fr : List PySem.Sre.Frame) (wt : Nat) (ans : Option Bool) (sn : Seen) : M :=
  { code, text, lim, start, lastStart := lim, pc, pos, handed, outermost := om, marks, lastmark := lm, lastindex := li, frames := fr, weight := wt, answer := ans, seen := sn }
theorem mk_out {code text : Array Nat} {lim start pc pos handed : Nat} {om : Bool} {marks : Array (Option Nat)} {lm li : Int} {fr : List PySem.Sre.Frame} {wt : Nat} {ans : Option Bool} {sn : Seen} :
    (mk code text lim start pc pos handed om marks lm li fr wt ans sn).outcome = none := rfl

noncomputable def code1 : Array Nat := #[14, 4, 0, 1, 1, 6, 1, 16, 46, 1]
noncomputable def F1 (i : Nat) (fo : Bool) : PySem.Sre.Frame := { wait := .nextStart, pc := 5, pos := i, outermost := fo }
noncomputable def A1 (t : Array Nat) (n i : Nat) (fo : Bool) (sn : Seen) : M := mk code1 t n i 5 i i fo #[] (-1) (-1) [F1 i fo] 1 none sn
noncomputable def bol (t : Array Nat) (i : Nat) : Bool := i == 0 || t[i - 1]?.getD 0 == 10

section
variable {t : Array Nat} {n i : Nat} {fo : Bool} {sn : Seen}
theorem s1_at_yes (h : bol t i = true) : ∃ sn', (A1 t n i fo sn).step = mk code1 t n i 7 i i fo #[] (-1) (-1) [F1 i fo] 1 none sn' := by
  refine ⟨(sn.add 6).add 44, ?_⟩
  simp only [A1, mk, M.step, M.exec, M.word, M.isAt, code1]
  have h : i = 0 ∨ t[i - 1]?.getD 0 = 10 := by simpa [bol] using h
  rcases h with h | h <;> simp [ops, h]
theorem s1_at_no (h : ¬ bol t i = true) : ∃ sn', (A1 t n i fo sn).step = mk code1 t n i 5 i i fo #[] (-1) (-1) [F1 i fo] 1 (some false) sn' := by
  refine ⟨(sn.add 6).add 44, ?_⟩
  have h1 : ¬ i = 0 := fun e => h (by simp [bol, e])
  have h2 : ¬ t[i - 1]?.getD 0 = 10 := fun e => h (by simp [bol, e])
  simp only [A1, mk, M.step, M.exec, M.word, M.isAt, code1]
  simp [ops, h1, h2, M.say]
theorem s1_lit_yes (h : i < n) (h2 : t[i]?.getD 0 = 46) : ∃ sn', (mk code1 t n i 7 i i fo #[] (-1) (-1) [F1 i fo] 1 none sn).step = mk code1 t n i 9 (i + 1) i fo #[] (-1) (-1) [F1 i fo] 1 none sn' := by
  refine ⟨sn.add 16, ?_⟩
  have h' : ¬ n ≤ i := by omega
  simp only [mk, M.step, M.exec, M.word, accepts, itemWidth, code1]
  simp [ops, h', h2, M.say]
theorem s1_lit_no (h : n ≤ i ∨ ¬ t[i]?.getD 0 = 46) : ∃ sn', (mk code1 t n i 7 i i fo #[] (-1) (-1) [F1 i fo] 1 none sn).step = mk code1 t n i 7 i i fo #[] (-1) (-1) [F1 i fo] 1 (some false) sn' := by
  refine ⟨sn.add 16, ?_⟩
  simp only [mk, M.step, M.exec, M.word, accepts, itemWidth, code1]
  by_cases h' : n ≤ i
  · simp [ops, h', M.say]
  · have h2 : (t[i]?.getD 0 == 46) = false := by simpa using h.resolve_left h'
    simp [ops, h', h2, M.say]
theorem s1_succ : ∃ sn', (mk code1 t n i 9 (i + 1) i fo #[] (-1) (-1) [F1 i fo] 1 none sn).step = mk code1 t n i 9 (i + 1) (i + 1) fo #[] (-1) (-1) [F1 i fo] 1 (some true) sn' := by
  refine ⟨sn.add 1, ?_⟩
  simp only [mk, M.step, M.exec, M.word, code1]
  simp [ops, M.say]
theorem s1_pop_yes {pc pos : Nat} : (mk code1 t n i pc pos (i + 1) fo #[] (-1) (-1) [F1 i fo] 1 (some true) sn).step = mk code1 t n i 5 i (i + 1) fo #[] (-1) (-1) [] 0 (some true) sn := by
  simp only [mk, M.step, M.resume, F1, code1]
  simp [M.say]
theorem s1_pop_no (h : i < n) {pc pos hd : Nat} : (mk code1 t n i pc pos hd fo #[] (-1) (-1) [F1 i fo] 1 (some false) sn).step = A1 t n (i + 1) false sn := by
  simp only [mk, M.step, M.resume, F1, code1, A1]
  simp [M.say, h, M.attemptFrom, M.hasFirstSet, ops, M.attemptAt, M.attempt]
theorem s1_pop_end (h : n ≤ i) {pc pos hd : Nat} : (mk code1 t n i pc pos hd fo #[] (-1) (-1) [F1 i fo] 1 (some false) sn).step = mk code1 t n i 5 i hd fo #[] (-1) (-1) [] 0 (some false) sn := by
  have h' : ¬ i < n := by omega
  simp only [mk, M.step, M.resume, F1, code1, A1]
  simp [M.say, h']
end
theorem s_out {code text : Array Nat} {lim start pc pos handed : Nat} {om : Bool} {marks : Array (Option Nat)} {lm li : Int} {wt : Nat} {b : Bool} {sn : Seen} :
    (mk code text lim start pc pos handed om marks lm li [] wt (some b) sn).step = { mk code text lim start pc pos handed om marks lm li [] wt (some b) sn with outcome := some (if b then .matched else .failed) } := by
  simp only [mk, M.step]
  simp

/-- the first dot at a line's beginning -/
noncomputable def find1 : Bool → List Nat → Option Nat
  | _, [] => none
  | b, c :: r => if b = true ∧ c = 46 then some 0 else (find1 (decide (c = 10)) r).map (· + 1)

/-- what the engine answers -/
noncomputable def Ends (m : M) (k : Nat) (r : Option (Nat × Nat)) : Prop :=
  match r with
  | none => (M.runFor k m).outcome = some .failed
  | some (a, b) => (M.runFor k m).outcome = some .matched ∧ (M.runFor k m).start = a ∧ (M.runFor k m).handed = b
theorem Ends.step {m m' : M} {k : Nat} {r : Option (Nat × Nat)} (ho : m.outcome = none) (hs : m.step = m') (h : Ends m' k r) : Ends m (k + 1) r := by
  unfold Ends; rw [rf_one k ho hs]; exact h

theorem ends1 (t : Array Nat) : ∀ (d i : Nat) (fo : Bool) (sn : Seen), i + d = t.size →
    ∃ k, k ≤ 5 * d + 5 ∧ Ends (A1 t t.size i fo sn) k ((find1 (bol t i) (t.toList.drop i)).map fun j => (i + j, i + j + 1)) := by
  intro d
  induction d with
  | zero =>
    intro i fo sn hi
    have hn : t.toList.drop i = [] := by simp; omega
    rw [hn]
    have hle : t.size ≤ i := by omega
    by_cases hb : bol t i = true
    · obtain ⟨s1, e1⟩ := s1_at_yes (n := t.size) (fo := fo) (sn := sn) hb
      obtain ⟨s2, e2⟩ := s1_lit_no (t := t) (n := t.size) (fo := fo) (sn := s1) (.inl hle)
      exact ⟨4, by omega, .step rfl e1 (.step rfl e2 (.step rfl (s1_pop_end hle) (.step rfl s_out rfl)))⟩
    · obtain ⟨s1, e1⟩ := s1_at_no (n := t.size) (fo := fo) (sn := sn) hb
      exact ⟨3, by omega, .step rfl e1 (.step rfl (s1_pop_end hle) (.step rfl s_out rfl))⟩
  | succ d ih =>
    intro i fo sn hi
    have hlt : i < t.size := by omega
    have hd : t.toList.drop i = t[i] :: t.toList.drop (i + 1) := by
      rw [List.drop_eq_getElem_cons (by simpa using hlt)]; simp
    have hg : t[i]?.getD 0 = t[i] := by simp [hlt]
    rw [hd]
    simp only [find1]
    have hb' : decide (t[i] = 10) = bol t (i + 1) := by
      apply Bool.eq_iff_iff.mpr
      simp [bol, hlt]
    by_cases hb : bol t i = true
    · obtain ⟨s1, e1⟩ := s1_at_yes (n := t.size) (fo := fo) (sn := sn) hb
      by_cases hc : t[i] = 46
      · obtain ⟨s2, e2⟩ := s1_lit_yes (fo := fo) (sn := s1) hlt (hg.trans hc)
        obtain ⟨s3, e3⟩ := s1_succ (t := t) (n := t.size) (i := i) (fo := fo) (sn := s2)
        refine ⟨5, by omega, ?_⟩
        rw [if_pos ⟨hb, hc⟩]
        exact .step rfl e1 (.step rfl e2 (.step rfl e3 (.step rfl s1_pop_yes (.step rfl s_out ⟨rfl, rfl, rfl⟩))))
      · obtain ⟨s2, e2⟩ := s1_lit_no (t := t) (n := t.size) (fo := fo) (sn := s1) (.inr (by rw [hg]; exact hc))
        obtain ⟨k, hk, he⟩ := ih (i + 1) false s2 (by omega)
        rw [if_neg (fun x => hc x.2), hb', Option.map_map]
        refine ⟨k + 3, by omega, .step rfl e1 (.step rfl e2 (.step rfl (s1_pop_no hlt) ?_))⟩
        have e : ((fun j => (i + j, i + j + 1)) ∘ fun x => x + 1) = fun j => (i + 1 + j, i + 1 + j + 1) := by funext j; simp; omega
        rw [e]; exact he
    · obtain ⟨s1, e1⟩ := s1_at_no (n := t.size) (fo := fo) (sn := sn) hb
      obtain ⟨k, hk, he⟩ := ih (i + 1) false s1 (by omega)
      rw [if_neg (fun x => hb x.1), hb', Option.map_map]
      refine ⟨k + 2, by omega, .step rfl e1 (.step rfl (s1_pop_no hlt) ?_)⟩
      have e : ((fun j => (i + j, i + j + 1)) ∘ fun x => x + 1) = fun j => (i + 1 + j, i + 1 + j + 1) := by funext j; simp; omega
      rw [e]; exact he

section
variable {code t : Array Nat} {n i pc p hd wt : Nat} {om : Bool} {mk' : Array (Option Nat)} {lm li : Int} {fr : List PySem.Sre.Frame} {sn : Seen}
theorem g_lit_yes (c : Nat) (hpc : pc < code.size) (ho : ops[code.getD pc 0]? = some .LITERAL) (h1 : code.getD (pc + 1) 0 = c) (hp : p < n) (hc : t.getD p 0 = c) :
    ∃ sn', (mk code t n i pc p hd om mk' lm li fr wt none sn).step = mk code t n i (pc + 2) (p + 1) hd om mk' lm li fr wt none sn' := by
  refine ⟨sn.add (code.getD pc 0), ?_⟩
  have h' : ¬ p ≥ n := by omega
  simp only [mk, M.step, M.exec, M.word, accepts, itemWidth, Nat.add_zero, hpc, ho, h1, hc, h', if_true, if_false]
  simp
theorem g_lit_no (c : Nat) (hpc : pc < code.size) (ho : ops[code.getD pc 0]? = some .LITERAL) (h1 : code.getD (pc + 1) 0 = c) (h : n ≤ p ∨ ¬ t.getD p 0 = c) :
    ∃ sn', (mk code t n i pc p hd om mk' lm li fr wt none sn).step = mk code t n i pc p hd om mk' lm li fr wt (some false) sn' := by
  refine ⟨sn.add (code.getD pc 0), ?_⟩
  by_cases h' : p ≥ n
  · simp only [mk, M.step, M.exec, M.word, accepts, itemWidth, Nat.add_zero, hpc, ho, h1, h', if_true, if_false, M.say]
    simp
  · have h2 : (t.getD p 0 == c) = false := beq_eq_false_iff_ne.mpr (h.resolve_left h')
    simp only [mk, M.step, M.exec, M.word, accepts, itemWidth, Nat.add_zero, hpc, ho, h1, h', h2, if_true, if_false, M.say]
    simp
theorem g_jump (k : Nat) (hpc : pc < code.size) (ho : ops[code.getD pc 0]? = some .JUMP) (h1 : code.getD (pc + 1) 0 = k) :
    ∃ sn', (mk code t n i pc p hd om mk' lm li fr wt none sn).step = mk code t n i (pc + 1 + k) p hd om mk' lm li fr wt none sn' := by
  refine ⟨sn.add (code.getD pc 0), ?_⟩
  simp only [mk, M.step, M.exec, M.word, Nat.add_zero, hpc, ho, h1, if_true]
  simp
theorem g_succ (hpc : pc < code.size) (ho : ops[code.getD pc 0]? = some .SUCCESS) :
    ∃ sn', (mk code t n i pc p hd om mk' lm li fr wt none sn).step = mk code t n i pc p p om mk' lm li fr wt (some true) sn' := by
  refine ⟨sn.add (code.getD pc 0), ?_⟩
  simp only [mk, M.step, M.exec, M.word, Nat.add_zero, hpc, ho, if_true, M.say]
  simp
noncomputable def Kp (lm li : Int) : PySem.Sre.Kept := { lastmark := lm, lastindex := li }
noncomputable def Br (pc p : Nat) (om : Bool) (k : PySem.Sre.Kept) : PySem.Sre.Frame := { wait := .nextBranch, pc, pos := p, outermost := om, kept := k }
theorem g_branch (k : Nat) (hpc : pc < code.size) (ho : ops[code.getD pc 0]? = some .BRANCH) (h1 : code.getD (pc + 1) 0 = k) (hk : k ≠ 0) (hw : wt < 1000) :
    ∃ sn', (mk code t n i pc p hd om mk' lm li fr wt none sn).step = mk code t n i (pc + 2) p p om mk' lm li (Br (pc + 1) p om (Kp lm li) :: fr) (wt + 1) none sn' := by
  refine ⟨sn.add (code.getD pc 0), ?_⟩
  have hw' : ¬ 16777216 < wt + 1 := by omega
  have hk' : (k == 0) = false := by simpa using hk
  simp only [mk, M.step, M.exec, M.word, M.alternative, M.attempt, M.frame, M.keep, Br, Kp, Nat.add_zero, hpc, ho, h1, hk', if_true]
  simp [hw']
theorem g_br_yes {q p' : Nat} {o' : Bool} {k : PySem.Sre.Kept} (hk : k.marks = #[]) : (mk code t n i pc p hd om mk' lm li (Br q p' o' k :: fr) (wt + 1) (some true) sn).step = mk code t n i q p' hd o' mk' lm li fr wt (some true) sn := by
  simp only [mk, M.step, M.resume, Br, hk]
  simp [M.say]
theorem g_br_no {q p' : Nat} {o' : Bool} {lm' li' : Int} (k k2 : Nat) (h1 : code.getD q 0 = k) (h2 : code.getD (q + k) 0 = k2) (hk : k2 ≠ 0) (hw : wt < 1000) :
    (mk code t n i pc p hd om mk' lm li (Br q p' o' (Kp lm' li') :: fr) (wt + 1) (some false) sn).step = mk code t n i (q + k + 1) p' p' o' mk' lm' li' (Br (q + k) p' o' (Kp lm' li') :: fr) (wt + 1) none sn := by
  have hw' : ¬ 16777216 < wt + 1 := by omega
  have hk' : (k2 == 0) = false := by simpa using hk
  simp only [mk, M.step, M.resume, M.alternative, M.attempt, M.frame, M.putBack, Br, Kp, h1, h2, hk']
  simp [hw', M.say]
theorem g_br_end {q p' : Nat} {o' : Bool} {lm' li' : Int} (k : Nat) (h1 : code.getD q 0 = k) (h2 : code.getD (q + k) 0 = 0) :
    (mk code t n i pc p hd om mk' lm li (Br q p' o' (Kp lm' li') :: fr) (wt + 1) (some false) sn).step = mk code t n i q p' hd o' mk' lm' li' fr wt (some false) sn := by
  simp only [mk, M.step, M.resume, M.alternative, M.attempt, M.frame, M.putBack, Br, Kp, h1, h2]
  simp [M.say]
noncomputable def Ln (pc p : Nat) (om : Bool) (k : PySem.Sre.Kept) : PySem.Sre.Frame := { wait := .lookNot, pc, pos := p, outermost := om, kept := k }
theorem g_anot (hpc : pc < code.size) (ho : ops[code.getD pc 0]? = some .ASSERT_NOT) (h2 : code.getD (pc + 2) 0 = 0) (hw : wt < 1000) :
    ∃ sn', (mk code t n i pc p hd om mk' lm li fr wt none sn).step = mk code t n i (pc + 3) p p false mk' lm li (Ln pc p om (Kp lm li) :: fr) (wt + 1) none sn' := by
  refine ⟨sn.add (code.getD pc 0), ?_⟩
  have hw' : ¬ 16777216 < wt + 1 := by omega
  simp only [mk, M.step, M.exec, M.word, M.attempt, M.frame, M.keep, Ln, Kp, Nat.add_zero, hpc, ho, h2, if_true]
  simp [hw']
theorem g_ln_no {q p' : Nat} {o' : Bool} {lm' li' : Int} (k : Nat) (h1 : code.getD (q + 1) 0 = k) :
    (mk code t n i pc p hd om mk' lm li (Ln q p' o' (Kp lm' li') :: fr) (wt + 1) (some false) sn).step = mk code t n i (q + 1 + k) p' hd o' mk' lm' li' fr wt none sn := by
  simp only [mk, M.step, M.resume, M.putBack, M.word, Ln, Kp, h1]
  simp [M.say]
end

noncomputable def Nx (pc i : Nat) (fo : Bool) : PySem.Sre.Frame := { wait := .nextStart, pc, pos := i, outermost := fo }
theorem g_nx_yes {code t : Array Nat} {n i pc p hd wt q i' : Nat} {om fo : Bool} {mk' : Array (Option Nat)} {lm li : Int} {fr : List PySem.Sre.Frame} {sn : Seen} :
    (mk code t n i pc p hd om mk' lm li (Nx q i' fo :: fr) (wt + 1) (some true) sn).step = mk code t n i q i' hd fo mk' lm li fr wt (some true) sn := by
  simp only [mk, M.step, M.resume, Nx]
  simp [M.say]

noncomputable def code2 : Array Nat := #[14, 9, 4, 1, 2, 16, 10, 16, 13, 0, 7, 7, 16, 13, 16, 10, 15, 18, 5, 16, 10, 15, 13, 11, 16, 13, 5, 5, 0, 16, 10, 1, 15, 2, 0, 1]
/-- the first line end: its place, its length -/
noncomputable def find2 : List Nat → Option (Nat × Nat)
  | [] => none
  | c :: r => if c = 13 then some (0, if r.head? = some 10 then 2 else 1) else if c = 10 then some (0, 1) else (find2 r).map fun x => (x.1 + 1, x.2)
theorem set2 (c : Nat) (sn : Seen) : ∃ sn', inSet code2 c 36 5 true sn = .ok (c == 10 || c == 13, sn') := by
  by_cases h1 : c = 10
  · exact ⟨sn.add 16, by subst h1; rfl⟩
  · by_cases h2 : c = 13
    · exact ⟨(sn.add 16).add 16, by subst h2; rfl⟩
    · refine ⟨((sn.add 16).add 16).add 0, ?_⟩
      have e1 : (c == 10) = false := by simpa using h1
      have e2 : (c == 13) = false := by simpa using h2
      show (if (c == 10) = true then _ else if (c == 13) = true then _ else _) = _
      rw [e1, e2]; rfl
theorem adm2 (t : Array Nat) (m : M) (hc : m.code = code2) (ht : m.text = t) (hl : m.lim = t.size) : ∀ (d i fuel : Nat) (sn : Seen), i + d = t.size → d < fuel →
    ∃ sn', M.admitted m fuel i sn = .ok ((find2 (t.toList.drop i)).map fun x => i + x.1, sn') := by
  intro d
  induction d with
  | zero =>
    intro i fuel sn hi hf
    have hn : t.toList.drop i = [] := by simp; omega
    obtain ⟨f, rfl⟩ : ∃ f, fuel = f + 1 := ⟨fuel - 1, by omega⟩
    refine ⟨sn, ?_⟩
    have : i ≥ m.lim := by omega
    simp only [M.admitted, this, if_true, hn]; rfl
  | succ d ih =>
    intro i fuel sn hi hf
    obtain ⟨f, rfl⟩ : ∃ f, fuel = f + 1 := ⟨fuel - 1, by omega⟩
    have hlt : i < t.size := by omega
    have hd : t.toList.drop i = t[i] :: t.toList.drop (i + 1) := by
      rw [List.drop_eq_getElem_cons (by simpa using hlt)]; simp
    have hge : ¬ i ≥ m.lim := by omega
    have hgd : m.text.getD i 0 = t[i] := by rw [ht]; simp [hlt]
    obtain ⟨s1, e1⟩ := set2 t[i] sn
    have hcs : m.code.size = 36 := by rw [hc]; rfl
    rw [← hc] at e1
    simp only [M.admitted, hge, if_false, hgd, hcs, e1, hd, find2]
    by_cases h13 : t[i] = 13
    · exact ⟨s1, by simp [h13]⟩
    · by_cases h10 : t[i] = 10
      · exact ⟨s1, by simp [h10]⟩
      · obtain ⟨s2, e2⟩ := ih (i + 1) f s1 (by omega) (by omega)
        refine ⟨s2, ?_⟩
        have b1 : (t[i] == 13) = false := by simpa using h13
        have b2 : (t[i] == 10) = false := by simpa using h10
        rw [b1, b2, if_neg h13, if_neg h10]
        show M.admitted m f (i + 1) s1 = _
        rw [e2, Option.map_map]
        congr 3; funext x; simp; omega
section
variable {t : Array Nat} {i : Nat} {fo : Bool} {sn : Seen}
noncomputable def A2 (t : Array Nat) (i : Nat) (fo : Bool) (sn : Seen) : M := mk code2 t t.size i 10 i i fo #[] (-1) (-1) [Nx 10 i fo] 1 none sn
theorem run2_lf (hi : i < t.size) (h : t.getD i 0 = 10) : Ends (A2 t i fo sn) 10 (some (i, i + 1)) := by
  obtain ⟨s1, e1⟩ := g_branch (code := code2) (t := t) (n := t.size) (i := i) (pc := 10) (p := i) (hd := i) (om := fo) (mk' := #[]) (lm := -1) (li := -1) (fr := [Nx 10 i fo]) (wt := 1) (sn := sn) 7 (by decide) rfl rfl (by decide) (by decide)
  obtain ⟨s2, e2⟩ := g_lit_no (code := code2) (t := t) (n := t.size) (i := i) (pc := 12) (p := i) (hd := i) (om := fo) (mk' := #[]) (lm := -1) (li := -1) (fr := [Br 11 i fo (Kp (-1) (-1)), Nx 10 i fo]) (wt := 2) (sn := s1) 13 (by decide) rfl rfl (.inr (by rw [h]; decide))
  have e3 := g_br_no (code := code2) (t := t) (n := t.size) (i := i) (pc := 12) (p := i) (hd := i) (om := fo) (mk' := #[]) (lm := -1) (li := -1) (fr := [Nx 10 i fo]) (wt := 1) (sn := s2) (q := 11) (p' := i) (o' := fo) (lm' := -1) (li' := -1) 7 5 rfl rfl (by decide) (by decide)
  obtain ⟨s4, e4⟩ := g_lit_yes (code := code2) (t := t) (n := t.size) (i := i) (pc := 19) (p := i) (hd := i) (om := fo) (mk' := #[]) (lm := -1) (li := -1) (fr := [Br 18 i fo (Kp (-1) (-1)), Nx 10 i fo]) (wt := 2) (sn := s2) 10 (by decide) rfl rfl hi h
  obtain ⟨s5, e5⟩ := g_jump (code := code2) (t := t) (n := t.size) (i := i) (pc := 21) (p := i + 1) (hd := i) (om := fo) (mk' := #[]) (lm := -1) (li := -1) (fr := [Br 18 i fo (Kp (-1) (-1)), Nx 10 i fo]) (wt := 2) (sn := s4) 13 (by decide) rfl rfl
  obtain ⟨s6, e6⟩ := g_succ (code := code2) (t := t) (n := t.size) (i := i) (pc := 35) (p := i + 1) (hd := i) (om := fo) (mk' := #[]) (lm := -1) (li := -1) (fr := [Br 18 i fo (Kp (-1) (-1)), Nx 10 i fo]) (wt := 2) (sn := s5) (by decide) rfl
  exact .step (k := 9) rfl e1 (.step rfl e2 (.step rfl e3 (.step rfl e4 (.step rfl e5 (.step rfl e6 (.step rfl (g_br_yes rfl) (.step rfl g_nx_yes (.step rfl s_out ⟨rfl, rfl, rfl⟩))))))))
theorem run2_crlf (hi : i + 1 < t.size) (h : t.getD i 0 = 13) (h' : t.getD (i + 1) 0 = 10) : Ends (A2 t i fo sn) 10 (some (i, i + 2)) := by
  obtain ⟨s1, e1⟩ := g_branch (code := code2) (t := t) (n := t.size) (i := i) (pc := 10) (p := i) (hd := i) (om := fo) (mk' := #[]) (lm := -1) (li := -1) (fr := [Nx 10 i fo]) (wt := 1) (sn := sn) 7 (by decide) rfl rfl (by decide) (by decide)
  obtain ⟨s2, e2⟩ := g_lit_yes (code := code2) (t := t) (n := t.size) (i := i) (pc := 12) (p := i) (hd := i) (om := fo) (mk' := #[]) (lm := -1) (li := -1) (fr := [Br 11 i fo (Kp (-1) (-1)), Nx 10 i fo]) (wt := 2) (sn := s1) 13 (by decide) rfl rfl (by omega) h
  obtain ⟨s4, e4⟩ := g_lit_yes (code := code2) (t := t) (n := t.size) (i := i) (pc := 14) (p := i + 1) (hd := i) (om := fo) (mk' := #[]) (lm := -1) (li := -1) (fr := [Br 11 i fo (Kp (-1) (-1)), Nx 10 i fo]) (wt := 2) (sn := s2) 10 (by decide) rfl rfl hi h'
  obtain ⟨s5, e5⟩ := g_jump (code := code2) (t := t) (n := t.size) (i := i) (pc := 16) (p := i + 2) (hd := i) (om := fo) (mk' := #[]) (lm := -1) (li := -1) (fr := [Br 11 i fo (Kp (-1) (-1)), Nx 10 i fo]) (wt := 2) (sn := s4) 18 (by decide) rfl rfl
  obtain ⟨s6, e6⟩ := g_succ (code := code2) (t := t) (n := t.size) (i := i) (pc := 35) (p := i + 2) (hd := i) (om := fo) (mk' := #[]) (lm := -1) (li := -1) (fr := [Br 11 i fo (Kp (-1) (-1)), Nx 10 i fo]) (wt := 2) (sn := s5) (by decide) rfl
  exact .step (k := 9) rfl e1 (.step rfl e2 (.step rfl e4 (.step rfl e5 (.step rfl e6 (.step rfl (g_br_yes rfl) (.step rfl g_nx_yes (.step rfl s_out ⟨rfl, rfl, rfl⟩)))))))
theorem run2_cr (hi : i < t.size) (h : t.getD i 0 = 13) (h' : t.size ≤ i + 1 ∨ ¬ t.getD (i + 1) 0 = 10) : Ends (A2 t i fo sn) 20 (some (i, i + 1)) := by
  obtain ⟨s1, e1⟩ := g_branch (code := code2) (t := t) (n := t.size) (i := i) (pc := 10) (p := i) (hd := i) (om := fo) (mk' := #[]) (lm := -1) (li := -1) (fr := [Nx 10 i fo]) (wt := 1) (sn := sn) 7 (by decide) rfl rfl (by decide) (by decide)
  obtain ⟨s2, e2⟩ := g_lit_yes (code := code2) (t := t) (n := t.size) (i := i) (pc := 12) (p := i) (hd := i) (om := fo) (mk' := #[]) (lm := -1) (li := -1) (fr := [Br 11 i fo (Kp (-1) (-1)), Nx 10 i fo]) (wt := 2) (sn := s1) 13 (by decide) rfl rfl hi h
  obtain ⟨s3, e3⟩ := g_lit_no (code := code2) (t := t) (n := t.size) (i := i) (pc := 14) (p := i + 1) (hd := i) (om := fo) (mk' := #[]) (lm := -1) (li := -1) (fr := [Br 11 i fo (Kp (-1) (-1)), Nx 10 i fo]) (wt := 2) (sn := s2) 10 (by decide) rfl rfl h'
  have e4 := g_br_no (code := code2) (t := t) (n := t.size) (i := i) (pc := 14) (p := i + 1) (hd := i) (om := fo) (mk' := #[]) (lm := -1) (li := -1) (fr := [Nx 10 i fo]) (wt := 1) (sn := s3) (q := 11) (p' := i) (o' := fo) (lm' := -1) (li' := -1) 7 5 rfl rfl (by decide) (by decide)
  obtain ⟨s5, e5⟩ := g_lit_no (code := code2) (t := t) (n := t.size) (i := i) (pc := 19) (p := i) (hd := i) (om := fo) (mk' := #[]) (lm := -1) (li := -1) (fr := [Br 18 i fo (Kp (-1) (-1)), Nx 10 i fo]) (wt := 2) (sn := s3) 10 (by decide) rfl rfl (.inr (by rw [h]; decide))
  have e6 := g_br_no (code := code2) (t := t) (n := t.size) (i := i) (pc := 19) (p := i) (hd := i) (om := fo) (mk' := #[]) (lm := -1) (li := -1) (fr := [Nx 10 i fo]) (wt := 1) (sn := s5) (q := 18) (p' := i) (o' := fo) (lm' := -1) (li' := -1) 5 11 rfl rfl (by decide) (by decide)
  obtain ⟨s7, e7⟩ := g_lit_yes (code := code2) (t := t) (n := t.size) (i := i) (pc := 24) (p := i) (hd := i) (om := fo) (mk' := #[]) (lm := -1) (li := -1) (fr := [Br 23 i fo (Kp (-1) (-1)), Nx 10 i fo]) (wt := 2) (sn := s5) 13 (by decide) rfl rfl hi h
  obtain ⟨s8, e8⟩ := g_anot (code := code2) (t := t) (n := t.size) (i := i) (pc := 26) (p := i + 1) (hd := i) (om := fo) (mk' := #[]) (lm := -1) (li := -1) (fr := [Br 23 i fo (Kp (-1) (-1)), Nx 10 i fo]) (wt := 2) (sn := s7) (by decide) rfl rfl (by decide)
  obtain ⟨s9, e9⟩ := g_lit_no (code := code2) (t := t) (n := t.size) (i := i) (pc := 29) (p := i + 1) (hd := i + 1) (om := false) (mk' := #[]) (lm := -1) (li := -1) (fr := [Ln 26 (i + 1) fo (Kp (-1) (-1)), Br 23 i fo (Kp (-1) (-1)), Nx 10 i fo]) (wt := 3) (sn := s8) 10 (by decide) rfl rfl h'
  have e10 := g_ln_no (code := code2) (t := t) (n := t.size) (i := i) (pc := 29) (p := i + 1) (hd := i + 1) (om := false) (mk' := #[]) (lm := -1) (li := -1) (fr := [Br 23 i fo (Kp (-1) (-1)), Nx 10 i fo]) (wt := 2) (sn := s9) (q := 26) (p' := i + 1) (o' := fo) (lm' := -1) (li' := -1) 5 rfl
  obtain ⟨s11, e11⟩ := g_jump (code := code2) (t := t) (n := t.size) (i := i) (pc := 32) (p := i + 1) (hd := i + 1) (om := fo) (mk' := #[]) (lm := -1) (li := -1) (fr := [Br 23 i fo (Kp (-1) (-1)), Nx 10 i fo]) (wt := 2) (sn := s9) 2 (by decide) rfl rfl
  obtain ⟨s12, e12⟩ := g_succ (code := code2) (t := t) (n := t.size) (i := i) (pc := 35) (p := i + 1) (hd := i + 1) (om := fo) (mk' := #[]) (lm := -1) (li := -1) (fr := [Br 23 i fo (Kp (-1) (-1)), Nx 10 i fo]) (wt := 2) (sn := s11) (by decide) rfl
  exact .step (k := 19) rfl e1 (.step rfl e2 (.step rfl e3 (.step rfl e4 (.step rfl e5 (.step rfl e6 (.step rfl e7 (.step rfl e8 (.step rfl e9 (.step rfl e10 (.step rfl e11 (.step rfl e12 (.step rfl (g_br_yes rfl) (.step rfl g_nx_yes (.step rfl s_out ⟨rfl, rfl, rfl⟩))))))))))))))
end
theorem find2_at (t : Array Nat) : ∀ (d i : Nat) (a b : Nat), i + d = t.size → find2 (t.toList.drop i) = some (a, b) → i + a < t.size ∧
    ((t.getD (i + a) 0 = 10 ∧ b = 1) ∨ (t.getD (i + a) 0 = 13 ∧ i + a + 1 < t.size ∧ t.getD (i + a + 1) 0 = 10 ∧ b = 2) ∨ (t.getD (i + a) 0 = 13 ∧ (t.size ≤ i + a + 1 ∨ ¬ t.getD (i + a + 1) 0 = 10) ∧ b = 1)) := by
  intro d
  induction d with
  | zero =>
    intro i a b hi h
    have hn : t.toList.drop i = [] := by simp; omega
    rw [hn] at h; cases h
  | succ d ih =>
    intro i a b hi h
    have hlt : i < t.size := by omega
    have hd : t.toList.drop i = t[i] :: t.toList.drop (i + 1) := by
      rw [List.drop_eq_getElem_cons (by simpa using hlt)]; simp
    have hg : t.getD i 0 = t[i] := by simp [hlt]
    have hh : (t.toList.drop (i + 1)).head? = t[i + 1]? := by rw [List.head?_drop]; simp
    rw [hd] at h
    simp only [find2, hh] at h
    split at h
    · rename_i h13
      injection h with h; injection h with h1 h2
      subst h1
      refine ⟨by omega, .inr ?_⟩
      by_cases hx : t[i + 1]? = some 10
      · rw [if_pos hx] at h2
        obtain ⟨hl, he⟩ := Array.getElem?_eq_some_iff.mp hx
        exact .inl ⟨hg.trans h13, hl, by simp [hl, he], h2.symm⟩
      · rw [if_neg hx] at h2
        refine .inr ⟨hg.trans h13, ?_, h2.symm⟩
        by_cases hl : t.size ≤ i + 0 + 1
        · exact .inl hl
        · refine .inr fun e => hx ?_
          have : i + 1 < t.size := by omega
          rw [Array.getElem?_eq_getElem this]
          simpa [this] using e
    · split at h
      · rename_i h10
        injection h with h; injection h with h1 h2
        subst h1
        exact ⟨by omega, .inl ⟨hg.trans h10, h2.symm⟩⟩
      · obtain ⟨⟨a', b'⟩, e1, e2⟩ := Option.map_eq_some_iff.mp h
        injection e2 with e3 e4
        obtain ⟨x, y⟩ := ih (i + 1) a' b' (by omega) e1
        have : i + 1 + a' = i + a := by omega
        rw [this] at x y
        exact ⟨x, e4 ▸ y⟩
/-- the search of the line end's pattern -/
theorem search2 (t : Array Nat) (i : Nat) (hi : i ≤ t.size) :
    ∃ k, k ≤ 20 ∧ Ends (forSearch code2 t 0 i t.size false) k ((find2 (t.toList.drop i)).map fun x => (i + x.1, i + x.1 + x.2)) := by
  by_cases he : i = t.size
  · have hn : t.toList.drop i = [] := by simp; omega
    rw [hn]
    refine ⟨1, by decide, ?_⟩
    have e : forSearch code2 t 0 i t.size false = M.say { code := code2, text := t, lim := t.size, start := i, pc := 10, pos := i, handed := i, marks := #[], seen := ({} : Seen).add 14 } false := by
      subst he
      simp only [forSearch, header, code2]
      simp [ops]
      rfl
    rw [e]
    exact .step (k := 0) rfl rfl rfl
  · have hlt : i < t.size := by omega
    generalize hm : ({ code := code2, text := t, lim := t.size, start := i, pc := 10, pos := i, handed := i, marks := #[], seen := ({} : Seen).add 14, lastStart := t.size } : M) = m
    have e : forSearch code2 t 0 i t.size false = m.attemptFrom i true := by
      have h1 : ¬ t.size < i := by omega
      have h2 : ¬ t.size - i = 0 := by omega
      rw [← hm]
      simp only [forSearch, header, code2]
      simp [ops, h1, h2]
      rfl
    rw [e]
    obtain ⟨sn', ea⟩ := adm2 t m (by rw [← hm]) (by rw [← hm]) (by rw [← hm]) (t.size - i) i (m.lim + 1 - i) m.seen (by omega) (by rw [← hm]; show t.size - i < t.size + 1 - i; omega)
    have hf : m.hasFirstSet = true := by rw [← hm]; rfl
    have e2 : m.attemptFrom i true = match (find2 (t.toList.drop i)).map (fun x => i + x.1) with
        | some s => { m with mustAdvance := false, seen := sn' }.attemptAt s true
        | none => { m with seen := sn' }.say false := by
      simp only [M.attemptFrom, hf, ea]
      cases find2 (t.toList.drop i) <;> rfl
    rw [e2]
    cases hfd : find2 (t.toList.drop i) with
    | none => exact ⟨1, by decide, by rw [← hm]; exact .step (k := 0) rfl rfl rfl⟩
    | some x =>
      obtain ⟨a, b⟩ := x
      obtain ⟨hx, hy⟩ := find2_at t (t.size - i) i a b (by omega) hfd
      have e3 : ({ m with mustAdvance := false, seen := sn' } : M).attemptAt (i + a) true = A2 t (i + a) true sn' := by
        rw [← hm]; rfl
      show ∃ k, k ≤ 20 ∧ Ends (({ m with mustAdvance := false, seen := sn' } : M).attemptAt (i + a) true) k (some (i + a, i + a + b))
      rw [e3]
      rcases hy with ⟨h1, rfl⟩ | ⟨h1, h2, h3, rfl⟩ | ⟨h1, h2, rfl⟩
      · exact ⟨10, by decide, run2_lf hx h1⟩
      · exact ⟨10, by decide, run2_crlf h2 h1 h3⟩
      · exact ⟨20, by decide, run2_cr hx h1 h2⟩
/-- the search of the dot's pattern -/
theorem search1 (t : Array Nat) (i : Nat) (hi : i ≤ t.size) :
    ∃ k, k ≤ 5 * (t.size - i) + 5 ∧ Ends (forSearch code1 t 0 i t.size false) k ((find1 (bol t i) (t.toList.drop i)).map fun x => (i + x, i + x + 1)) := by
  by_cases he : i = t.size
  · have hn : t.toList.drop i = [] := by simp; omega
    rw [hn]
    refine ⟨1, by omega, ?_⟩
    have e : forSearch code1 t 0 i t.size false = M.say { code := code1, text := t, lim := t.size, start := i, pc := 5, pos := i, handed := i, marks := #[], seen := ({} : Seen).add 14 } false := by
      subst he
      simp only [forSearch, header, code1]
      simp [ops]
      rfl
    rw [e]
    exact .step (k := 0) rfl rfl rfl
  · have hlt : i < t.size := by omega
    have e : forSearch code1 t 0 i t.size false = A1 t t.size i true (({} : Seen).add 14) := by
      have h1 : ¬ t.size < i := by omega
      have h2 : ¬ t.size - i = 0 := by omega
      simp only [forSearch, header, code1]
      simp [ops, h1, h2]
      rfl
    rw [e]
    exact ends1 t (t.size - i) i true _ (by omega)
end Mine
end

section
set_option autoImplicit false
set_option linter.unusedSimpArgs false
namespace Mine
open PySem PySem.Sre

noncomputable def EndsP (m : M) (k : Nat) (P : M → Prop) : Prop := P (M.runFor k m)
theorem EndsP.step {m m' : M} {k : Nat} {P : M → Prop} (ho : m.outcome = none) (hs : m.step = m') (h : EndsP m' k P) : EndsP m (k + 1) P := by
  unfold EndsP; rw [rf_one k ho hs]; exact h

noncomputable def code3 : Array Nat := #[14, 4, 0, 1, 4294967295, 17, 0, 7, 14, 24, 10, 1, 4294967295, 13, 5, 22, 48, 57, 0, 1, 15, 17, 15, 13, 11, 9, 0, 26624, 2147483648, 0, 0, 0, 0, 0, 0, 15, 2, 0, 17, 1, 1]
noncomputable def isDig (c : Nat) : Bool := 48 ≤ c && c ≤ 57
noncomputable def isSep (c : Nat) : Bool := c == 43 || c == 45 || c == 46 || c == 95
noncomputable def dg (l : List Nat) : Nat := (l.takeWhile isDig).length

theorem setD (c : Nat) (sn : Seen) : ∃ sn', inSet code3 c 41 15 true sn = .ok (isDig c, sn') := by
  have e : inSet code3 c 41 15 true sn = if (48 ≤ c && c ≤ 57) = true then .ok (true, sn.add 22) else .ok (false, (sn.add 22).add 0) := rfl
  rw [e]; unfold isDig
  split
  · rename_i h; rw [h]; exact ⟨_, rfl⟩
  · rename_i h; rw [Bool.not_eq_true _ |>.mp h]; exact ⟨_, rfl⟩
theorem bits3 : ∀ c : Fin 256, (code3.getD (25 + (1 + c.val / 32)) 0).testBit (c.val % 32) = isSep c.val := by decide +kernel
theorem setS (c : Nat) (sn : Seen) : ∃ sn', inSet code3 c 41 25 true sn = .ok (isSep c, sn') := by
  have e : inSet code3 c 41 25 true sn = if (c < 256 && (code3.getD (25 + (1 + c / 32)) 0).testBit (c % 32)) = true then .ok (true, sn.add 9) else .ok (false, (sn.add 9).add 0) := rfl
  have h : (decide (c < 256) && (code3.getD (25 + (1 + c / 32)) 0).testBit (c % 32)) = isSep c := by
    by_cases hc : c < 256
    · have := bits3 ⟨c, hc⟩
      simp only [hc, decide_true, Bool.true_and]; exact this
    · simp only [hc, decide_false, Bool.false_and]
      unfold isSep
      have h1 : (c == 43) = false := by simp; omega
      have h2 : (c == 45) = false := by simp; omega
      have h3 : (c == 46) = false := by simp; omega
      have h4 : (c == 95) = false := by simp; omega
      rw [h1, h2, h3, h4]; rfl
  rw [e, h]
  cases isSep c
  · exact ⟨_, rfl⟩
  · exact ⟨_, rfl⟩
theorem acc13 (c : Nat) (sn : Seen) : ∃ sn', accepts code3 13 c sn = .ok (isDig c, sn') := setD c sn
theorem acc23 (c : Nat) (sn : Seen) : ∃ sn', accepts code3 23 c sn = .ok (isSep c, sn') := setS c sn
theorem run13 (t : Array Nat) : ∀ (d p found : Nat) (sn : Seen), p + d = t.size → ∃ sn', Sre.run code3 t 13 d p found sn = .ok (found + dg (t.toList.drop p), sn') := by
  intro d
  induction d with
  | zero =>
    intro p found sn hp
    have hn : t.toList.drop p = [] := by simp; omega
    rw [hn]; exact ⟨sn, rfl⟩
  | succ d ih =>
    intro p found sn hp
    have hlt : p < t.size := by omega
    have hd : t.toList.drop p = t[p] :: t.toList.drop (p + 1) := by
      rw [List.drop_eq_getElem_cons (by simpa using hlt)]; simp
    have hgd : t.getD p 0 = t[p] := by simp [hlt]
    obtain ⟨s1, e1⟩ := acc13 t[p] sn
    have e : Sre.run code3 t 13 (d + 1) p found sn = (accepts code3 13 (t.getD p 0) sn).bind fun x => if x.1 = true then Sre.run code3 t 13 d (p + 1) (found + 1) x.2 else .ok (found, x.2) := rfl
    rw [e, hgd, e1]
    show ∃ sn', (if isDig t[p] = true then Sre.run code3 t 13 d (p + 1) (found + 1) s1 else .ok (found, s1)) = _
    by_cases h : isDig t[p] = true
    · rw [if_pos h]
      obtain ⟨s2, e2⟩ := ih (p + 1) (found + 1) s1 (by omega)
      refine ⟨s2, ?_⟩
      rw [e2, hd]; simp only [dg, List.takeWhile_cons, h, if_true, List.length_cons]
      congr 2; omega
    · rw [if_neg h]
      refine ⟨s1, ?_⟩
      rw [hd]; simp [dg, List.takeWhile_cons, h]

section
variable {code t : Array Nat} {n i pc p hd wt : Nat} {om fo : Bool} {mk' : Array (Option Nat)} {lm li : Int} {fr : List PySem.Sre.Frame} {sn : Seen}
theorem g_mark0 (hpc : pc < code.size) (ho : ops[code.getD pc 0]? = some .MARK) (h1 : code.getD (pc + 1) 0 = 0) :
    ∃ sn', (mk code t n i pc p hd om mk' (-1) li fr wt none sn).step = mk code t n i (pc + 2) p hd om (mk'.setIfInBounds 0 (some p)) 0 li fr wt none sn' := by
  refine ⟨sn.add (code.getD pc 0), ?_⟩
  simp only [mk, M.step, M.exec, M.word, M.mark, Nat.add_zero, hpc, ho, h1, if_true]
  simp
  decide
theorem g_mark1 (hpc : pc < code.size) (ho : ops[code.getD pc 0]? = some .MARK) (h1 : code.getD (pc + 1) 0 = 1) :
    ∃ sn', (mk code t n i pc p hd om mk' 0 li fr wt none sn).step = mk code t n i (pc + 2) p hd om (mk'.setIfInBounds 1 (some p)) 1 1 fr wt none sn' := by
  refine ⟨sn.add (code.getD pc 0), ?_⟩
  simp only [mk, M.step, M.exec, M.word, M.mark, Nat.add_zero, hpc, ho, h1, if_true]
  simp
  decide
theorem g_in_yes (w : Nat) {s1 : Seen} (hpc : pc < code.size) (ho : ops[code.getD pc 0]? = some .IN) (h1 : code.getD (pc + 1) 0 = w) (hp : p < n) (ha : accepts code pc (t.getD p 0) (sn.add (code.getD pc 0)) = .ok (true, s1)) :
    (mk code t n i pc p hd om mk' lm li fr wt none sn).step = mk code t n i (pc + (1 + w)) (p + 1) hd om mk' lm li fr wt none s1 := by
  have h' : ¬ p ≥ n := by omega
  simp only [mk, M.step, M.exec, M.word, itemWidth, Nat.add_zero, hpc, ho, h1, h', ha, if_true, if_false]
  simp
theorem g_in_no {s1 : Seen} (hpc : pc < code.size) (ho : ops[code.getD pc 0]? = some .IN) (h : n ≤ p ∨ accepts code pc (t.getD p 0) (sn.add (code.getD pc 0)) = .ok (false, s1)) :
    ∃ sn', (mk code t n i pc p hd om mk' lm li fr wt none sn).step = mk code t n i pc p hd om mk' lm li fr wt (some false) sn' := by
  by_cases h' : p ≥ n
  · refine ⟨sn.add (code.getD pc 0), ?_⟩
    simp only [mk, M.step, M.exec, M.word, itemWidth, Nat.add_zero, hpc, ho, h', if_true, M.say]
    simp
  · refine ⟨s1, ?_⟩
    simp only [mk, M.step, M.exec, M.word, itemWidth, Nat.add_zero, hpc, ho, h', h.resolve_left h', if_true, if_false, M.say]
    simp
noncomputable def Gb (pc p : Nat) (om : Bool) (c : Int) (k : PySem.Sre.Kept) : PySem.Sre.Frame := { wait := .giveBack, pc, pos := p, outermost := om, count := c, kept := k }
theorem g_rep_yes (c : Nat) {s1 : Seen} (hpc : pc < code.size) (ho : ops[code.getD pc 0]? = some .REPEAT_ONE) (w : Nat) (h1 : code.getD (pc + 1) 0 = w) (h2 : code.getD (pc + 2) 0 = 1) (h3 : code.getD (pc + 3) 0 = 4294967295)
    (hp : p < n) (hn : n ≤ 4294967295) (hr : Sre.run code t (pc + 4) (n - p) p 0 ((sn.add (code.getD pc 0)).add (code.getD (pc + 4) 0)) = .ok (c, s1)) (hc : 1 ≤ c) (hw : wt < 1000) :
    (mk code t n i pc p hd om mk' lm li fr wt none sn).step = mk code t n i (pc + 1 + w) (p + c) (p + c) om mk' lm li (Gb pc (p + c) om c (Kp lm li) :: fr) (wt + 1) none s1 := by
  have hw' : ¬ 16777216 < wt + 1 := by omega
  have hroom : ¬ ((1 : Nat) : Int) > (n : Int) - p := by omega
  have hm : min 4294967295 ((n : Int) - p).toNat = n - p := by omega
  have hc' : ¬ c < 1 := by omega
  simp only [mk, M.step, M.exec, M.word, M.afterRun, M.attempt, M.frame, M.keep, Gb, Kp, Nat.add_zero, hpc, ho, h1, h2, h3, hroom, Bool.false_eq_true, reduceIte, hm, hr, hc', if_true, if_false]
  simp [hw']
theorem g_rep_no {s1 : Seen} (hpc : pc < code.size) (ho : ops[code.getD pc 0]? = some .REPEAT_ONE) (h2 : code.getD (pc + 2) 0 = 1) (h3 : code.getD (pc + 3) 0 = 4294967295) (hn : n ≤ 4294967295)
    (h : n ≤ p ∨ Sre.run code t (pc + 4) (n - p) p 0 ((sn.add (code.getD pc 0)).add (code.getD (pc + 4) 0)) = .ok (0, s1)) :
    ∃ sn', (mk code t n i pc p hd om mk' lm li fr wt none sn).step = mk code t n i pc p hd om mk' lm li fr wt (some false) sn' := by
  by_cases h' : n ≤ p
  · refine ⟨sn.add (code.getD pc 0), ?_⟩
    have hroom : ((1 : Nat) : Int) > (n : Int) - p := by omega
    simp only [mk, M.step, M.exec, M.word, Nat.add_zero, hpc, ho, h2, h3, hroom, if_true, M.say]
    simp
  · refine ⟨s1, ?_⟩
    have hr := h.resolve_left h'
    have hroom : ¬ ((1 : Nat) : Int) > (n : Int) - p := by omega
    have hm : min 4294967295 ((n : Int) - p).toNat = n - p := by omega
    simp only [mk, M.step, M.exec, M.word, Nat.add_zero, hpc, ho, h2, h3, hroom, Bool.false_eq_true, reduceIte, hm, hr, if_true, if_false, M.say]
    simp
theorem g_gb_yes {q p' : Nat} {o' : Bool} {k : PySem.Sre.Kept} {c : Int} (hk : k.marks = #[]) : (mk code t n i pc p hd om mk' lm li (Gb q p' o' c k :: fr) (wt + 1) (some true) sn).step = mk code t n i q p' hd o' mk' lm li fr wt (some true) sn := by
  simp only [mk, M.step, M.resume, Gb, hk]
  simp [M.say]
theorem g_nx_no {q i' : Nat} (h : i' < n) (hf : ((match ops[code.getD 0 0]? with | some .INFO => true | _ => false) && (code.getD 2 0 == 4)) = false) (hw : wt < 1000) :
    (mk code t n i pc p hd om mk' lm li (Nx q i' fo :: fr) (wt + 1) (some false) sn).step = mk code t n (i' + 1) q (i' + 1) (i' + 1) false mk' (-1) (-1) (Nx q (i' + 1) false :: fr) (wt + 1) none sn := by
  have hw' : ¬ 16777216 < wt + 1 := by omega
  have hf' : ∀ m : M, m.code = code → m.hasFirstSet = false := fun m e => by unfold M.hasFirstSet; rw [e]; exact hf
  simp only [mk, M.step, M.resume, Nx]
  simp [M.say, h, M.attemptFrom, hf', M.attemptAt, M.attempt, hw']
theorem g_nx_end {q i' : Nat} (h : n ≤ i') : (mk code t n i pc p hd om mk' lm li (Nx q i' fo :: fr) (wt + 1) (some false) sn).step = mk code t n i q i' hd fo mk' lm li fr wt (some false) sn := by
  have h' : ¬ i' < n := by omega
  simp only [mk, M.step, M.resume, Nx]
  simp [M.say, h']
end

/-- the first run of figures, or sign that parts: its place, its length -/
noncomputable def find3 : List Nat → Option (Nat × Nat)
  | [] => none
  | c :: r => if isDig c = true then some (0, dg (c :: r)) else if isSep c = true then some (0, 1) else (find3 r).map fun x => (x.1 + 1, x.2)
noncomputable def A3 (t : Array Nat) (i : Nat) (fo : Bool) (mk' : Array (Option Nat)) (sn : Seen) : M := mk code3 t t.size i 5 i i fo mk' (-1) (-1) [Nx 5 i fo] 1 none sn
/-- what the engine answers, with its one group -/
noncomputable def Ans3 (r : Option (Nat × Nat)) (m : M) : Prop :=
  match r with
  | none => m.outcome = some .failed
  | some (a, b) => m.outcome = some .matched ∧ m.start = a ∧ m.handed = b ∧ m.lastmark = 1 ∧ m.marks.getD 0 none = some a ∧ m.marks.getD 1 none = some b
theorem marks3 {mk' : Array (Option Nat)} (h : mk'.size = 2) (a b : Nat) : ((mk'.setIfInBounds 0 (some a)).setIfInBounds 1 (some b)).getD 0 none = some a ∧ ((mk'.setIfInBounds 0 (some a)).setIfInBounds 1 (some b)).getD 1 none = some b := by
  constructor <;> simp [Array.getElem?_setIfInBounds, h]
section
variable {t : Array Nat} {i : Nat} {fo : Bool} {mk' : Array (Option Nat)} {sn : Seen}
theorem run3_dig (hs : mk'.size = 2) (hn : t.size ≤ 4294967295) (hi : i < t.size) (h : isDig (t.getD i 0) = true) :
    EndsP (A3 t i fo mk' sn) 10 (Ans3 (some (i, i + dg (t.toList.drop i)))) := by
  obtain ⟨s1, e1⟩ := g_mark0 (code := code3) (t := t) (n := t.size) (i := i) (pc := 5) (p := i) (hd := i) (om := fo) (mk' := mk') (li := -1) (fr := [Nx 5 i fo]) (wt := 1) (sn := sn) (by decide) rfl rfl
  obtain ⟨s2, e2⟩ := g_branch (code := code3) (t := t) (n := t.size) (i := i) (pc := 7) (p := i) (hd := i) (om := fo) (mk' := mk'.setIfInBounds 0 (some i)) (lm := 0) (li := -1) (fr := [Nx 5 i fo]) (wt := 1) (sn := s1) 14 (by decide) rfl rfl (by decide) (by decide)
  obtain ⟨s3, r3⟩ := run13 t (t.size - i) i 0 ((s2.add 24).add 13) (by omega)
  have hd : t.toList.drop i = t[i] :: t.toList.drop (i + 1) := by
    rw [List.drop_eq_getElem_cons (by simpa using hi)]; simp
  have hg : t.getD i 0 = t[i] := by simp [hi]
  have hc : 1 ≤ dg (t.toList.drop i) := by rw [hd]; rw [hg] at h; simp [dg, List.takeWhile_cons, h]
  rw [Nat.zero_add] at r3
  generalize dg (t.toList.drop i) = c at *
  have e3 := g_rep_yes (code := code3) (t := t) (n := t.size) (i := i) (pc := 9) (p := i) (hd := i) (om := fo) (mk' := mk'.setIfInBounds 0 (some i)) (lm := 0) (li := -1) (fr := [Br 8 i fo (Kp 0 (-1)), Nx 5 i fo]) (wt := 2) (sn := s2) c (by decide) rfl 10 rfl rfl rfl hi hn r3 hc (by decide)
  obtain ⟨s4, e4⟩ := g_jump (code := code3) (t := t) (n := t.size) (i := i) (pc := 20) (p := i + c) (hd := i + c) (om := fo) (mk' := mk'.setIfInBounds 0 (some i)) (lm := 0) (li := -1) (fr := [Gb 9 (i + c) fo c (Kp 0 (-1)), Br 8 i fo (Kp 0 (-1)), Nx 5 i fo]) (wt := 3) (sn := s3) 17 (by decide) rfl rfl
  obtain ⟨s5, e5⟩ := g_mark1 (code := code3) (t := t) (n := t.size) (i := i) (pc := 38) (p := i + c) (hd := i + c) (om := fo) (mk' := mk'.setIfInBounds 0 (some i)) (li := -1) (fr := [Gb 9 (i + c) fo c (Kp 0 (-1)), Br 8 i fo (Kp 0 (-1)), Nx 5 i fo]) (wt := 3) (sn := s4) (by decide) rfl rfl
  obtain ⟨s6, e6⟩ := g_succ (code := code3) (t := t) (n := t.size) (i := i) (pc := 40) (p := i + c) (hd := i + c) (om := fo) (mk' := (mk'.setIfInBounds 0 (some i)).setIfInBounds 1 (some (i + c))) (lm := 1) (li := 1) (fr := [Gb 9 (i + c) fo c (Kp 0 (-1)), Br 8 i fo (Kp 0 (-1)), Nx 5 i fo]) (wt := 3) (sn := s5) (by decide) rfl
  exact .step (k := 9) rfl e1 (.step rfl e2 (.step rfl e3 (.step rfl e4 (.step rfl e5 (.step rfl e6 (.step rfl (g_gb_yes rfl) (.step rfl (g_br_yes rfl) (.step rfl g_nx_yes (.step rfl s_out ⟨rfl, rfl, rfl, rfl, (marks3 hs _ _).1, (marks3 hs _ _).2⟩)))))))))
theorem run3_sep (hs : mk'.size = 2) (hn : t.size ≤ 4294967295) (hi : i < t.size) (h : isDig (t.getD i 0) = false) (h' : isSep (t.getD i 0) = true) :
    EndsP (A3 t i fo mk' sn) 12 (Ans3 (some (i, i + 1))) := by
  obtain ⟨s1, e1⟩ := g_mark0 (code := code3) (t := t) (n := t.size) (i := i) (pc := 5) (p := i) (hd := i) (om := fo) (mk' := mk') (li := -1) (fr := [Nx 5 i fo]) (wt := 1) (sn := sn) (by decide) rfl rfl
  obtain ⟨s2, e2⟩ := g_branch (code := code3) (t := t) (n := t.size) (i := i) (pc := 7) (p := i) (hd := i) (om := fo) (mk' := mk'.setIfInBounds 0 (some i)) (lm := 0) (li := -1) (fr := [Nx 5 i fo]) (wt := 1) (sn := s1) 14 (by decide) rfl rfl (by decide) (by decide)
  obtain ⟨s3, r3⟩ := run13 t (t.size - i) i 0 ((s2.add 24).add 13) (by omega)
  have hd : t.toList.drop i = t[i] :: t.toList.drop (i + 1) := by
    rw [List.drop_eq_getElem_cons (by simpa using hi)]; simp
  have hg : t.getD i 0 = t[i] := by simp [hi]
  have hc : dg (t.toList.drop i) = 0 := by rw [hd]; rw [hg] at h; simp [dg, List.takeWhile_cons, h]
  rw [hc] at r3
  obtain ⟨s4, e4⟩ := g_rep_no (code := code3) (t := t) (n := t.size) (i := i) (pc := 9) (p := i) (hd := i) (om := fo) (mk' := mk'.setIfInBounds 0 (some i)) (lm := 0) (li := -1) (fr := [Br 8 i fo (Kp 0 (-1)), Nx 5 i fo]) (wt := 2) (sn := s2) (by decide) rfl rfl rfl hn (.inr r3)
  have e5 := g_br_no (code := code3) (t := t) (n := t.size) (i := i) (pc := 9) (p := i) (hd := i) (om := fo) (mk' := mk'.setIfInBounds 0 (some i)) (lm := 0) (li := -1) (fr := [Nx 5 i fo]) (wt := 1) (sn := s4) (q := 8) (p' := i) (o' := fo) (lm' := 0) (li' := -1) 14 15 rfl rfl (by decide) (by decide)
  obtain ⟨s6, a6⟩ := acc23 (t.getD i 0) (s4.add 13)
  rw [h'] at a6
  have e6 := g_in_yes (code := code3) (t := t) (n := t.size) (i := i) (pc := 23) (p := i) (hd := i) (om := fo) (mk' := mk'.setIfInBounds 0 (some i)) (lm := 0) (li := -1) (fr := [Br 22 i fo (Kp 0 (-1)), Nx 5 i fo]) (wt := 2) (sn := s4) 11 (by decide) rfl rfl hi a6
  obtain ⟨s7, e7⟩ := g_jump (code := code3) (t := t) (n := t.size) (i := i) (pc := 35) (p := i + 1) (hd := i) (om := fo) (mk' := mk'.setIfInBounds 0 (some i)) (lm := 0) (li := -1) (fr := [Br 22 i fo (Kp 0 (-1)), Nx 5 i fo]) (wt := 2) (sn := s6) 2 (by decide) rfl rfl
  obtain ⟨s8, e8⟩ := g_mark1 (code := code3) (t := t) (n := t.size) (i := i) (pc := 38) (p := i + 1) (hd := i) (om := fo) (mk' := mk'.setIfInBounds 0 (some i)) (li := -1) (fr := [Br 22 i fo (Kp 0 (-1)), Nx 5 i fo]) (wt := 2) (sn := s7) (by decide) rfl rfl
  obtain ⟨s9, e9⟩ := g_succ (code := code3) (t := t) (n := t.size) (i := i) (pc := 40) (p := i + 1) (hd := i) (om := fo) (mk' := (mk'.setIfInBounds 0 (some i)).setIfInBounds 1 (some (i + 1))) (lm := 1) (li := 1) (fr := [Br 22 i fo (Kp 0 (-1)), Nx 5 i fo]) (wt := 2) (sn := s8) (by decide) rfl
  exact .step (k := 11) rfl e1 (.step rfl e2 (.step rfl e4 (.step rfl e5 (.step rfl e6 (.step rfl e7 (.step rfl e8 (.step rfl e9 (.step rfl (g_br_yes rfl) (.step rfl g_nx_yes (.step rfl s_out ⟨rfl, rfl, rfl, rfl, (marks3 hs _ _).1, (marks3 hs _ _).2⟩))))))))))
/-- no match here: six steps, the frame of the start left -/
theorem run3_none (hn : t.size ≤ 4294967295) (h : t.size ≤ i ∨ (i < t.size ∧ isDig (t.getD i 0) = false ∧ isSep (t.getD i 0) = false)) {k : Nat} {P : M → Prop}
    (hk : ∀ sn' hd, EndsP (mk code3 t t.size i 22 i hd fo (mk'.setIfInBounds 0 (some i)) 0 (-1) [Nx 5 i fo] 1 (some false) sn') k P) : EndsP (A3 t i fo mk' sn) (k + 6) P := by
  obtain ⟨s1, e1⟩ := g_mark0 (code := code3) (t := t) (n := t.size) (i := i) (pc := 5) (p := i) (hd := i) (om := fo) (mk' := mk') (li := -1) (fr := [Nx 5 i fo]) (wt := 1) (sn := sn) (by decide) rfl rfl
  obtain ⟨s2, e2⟩ := g_branch (code := code3) (t := t) (n := t.size) (i := i) (pc := 7) (p := i) (hd := i) (om := fo) (mk' := mk'.setIfInBounds 0 (some i)) (lm := 0) (li := -1) (fr := [Nx 5 i fo]) (wt := 1) (sn := s1) 14 (by decide) rfl rfl (by decide) (by decide)
  have r3 : ∃ s3, t.size ≤ i ∨ Sre.run code3 t 13 (t.size - i) i 0 ((s2.add 24).add 13) = .ok (0, s3) := by
    rcases h with h | ⟨hi, h, _⟩
    · exact ⟨sn, .inl h⟩
    · obtain ⟨s3, r3⟩ := run13 t (t.size - i) i 0 ((s2.add 24).add 13) (by omega)
      have hd : t.toList.drop i = t[i] :: t.toList.drop (i + 1) := by
        rw [List.drop_eq_getElem_cons (by simpa using hi)]; simp
      have hg : t.getD i 0 = t[i] := by simp [hi]
      have hc : dg (t.toList.drop i) = 0 := by rw [hd]; rw [hg] at h; simp [dg, List.takeWhile_cons, h]
      rw [hc] at r3
      exact ⟨s3, .inr r3⟩
  obtain ⟨s3, r3⟩ := r3
  obtain ⟨s4, e4⟩ := g_rep_no (code := code3) (t := t) (n := t.size) (i := i) (pc := 9) (p := i) (hd := i) (om := fo) (mk' := mk'.setIfInBounds 0 (some i)) (lm := 0) (li := -1) (fr := [Br 8 i fo (Kp 0 (-1)), Nx 5 i fo]) (wt := 2) (sn := s2) (by decide) rfl rfl rfl hn r3
  have e5 := g_br_no (code := code3) (t := t) (n := t.size) (i := i) (pc := 9) (p := i) (hd := i) (om := fo) (mk' := mk'.setIfInBounds 0 (some i)) (lm := 0) (li := -1) (fr := [Nx 5 i fo]) (wt := 1) (sn := s4) (q := 8) (p' := i) (o' := fo) (lm' := 0) (li' := -1) 14 15 rfl rfl (by decide) (by decide)
  have a6 : ∃ s6, t.size ≤ i ∨ accepts code3 23 (t.getD i 0) (s4.add 13) = .ok (false, s6) := by
    rcases h with h | ⟨_, _, h⟩
    · exact ⟨sn, .inl h⟩
    · obtain ⟨s6, a6⟩ := acc23 (t.getD i 0) (s4.add 13)
      rw [h] at a6; exact ⟨s6, .inr a6⟩
  obtain ⟨s6, a6⟩ := a6
  obtain ⟨s7, e7⟩ := g_in_no (code := code3) (t := t) (n := t.size) (i := i) (pc := 23) (p := i) (hd := i) (om := fo) (mk' := mk'.setIfInBounds 0 (some i)) (lm := 0) (li := -1) (fr := [Br 22 i fo (Kp 0 (-1)), Nx 5 i fo]) (wt := 2) (sn := s4) (by decide) rfl a6
  have e8 := g_br_end (code := code3) (t := t) (n := t.size) (i := i) (pc := 23) (p := i) (hd := i) (om := fo) (mk' := mk'.setIfInBounds 0 (some i)) (lm := 0) (li := -1) (fr := [Nx 5 i fo]) (wt := 1) (sn := s7) (q := 22) (p' := i) (o' := fo) (lm' := 0) (li' := -1) 15 rfl rfl
  exact .step rfl e1 (.step rfl e2 (.step rfl e4 (.step rfl e5 (.step rfl e7 (.step rfl e8 (hk s7 _))))))
end
theorem ends3 (t : Array Nat) (hn : t.size ≤ 4294967295) : ∀ (d i : Nat) (fo : Bool) (mk' : Array (Option Nat)) (sn : Seen), i + d = t.size → mk'.size = 2 →
    ∃ k, k ≤ 7 * d + 12 ∧ EndsP (A3 t i fo mk' sn) k (Ans3 ((find3 (t.toList.drop i)).map fun x => (i + x.1, i + x.1 + x.2))) := by
  intro d
  induction d with
  | zero =>
    intro i fo mk' sn hi hs
    have hl : t.toList.drop i = [] := by simp; omega
    rw [hl]
    exact ⟨8, by omega, run3_none hn (.inl (by omega)) fun sn' hd => .step (k := 1) rfl (g_nx_end (by omega)) (.step rfl s_out rfl)⟩
  | succ d ih =>
    intro i fo mk' sn hi hs
    have hlt : i < t.size := by omega
    have hd : t.toList.drop i = t[i] :: t.toList.drop (i + 1) := by
      rw [List.drop_eq_getElem_cons (by simpa using hlt)]; simp
    have hg : t.getD i 0 = t[i] := by simp [hlt]
    rw [hd]; simp only [find3]; rw [← hd]
    by_cases h1 : isDig t[i] = true
    · rw [if_pos h1]
      exact ⟨10, by omega, run3_dig hs hn hlt (by rw [hg]; exact h1)⟩
    · rw [if_neg h1]
      by_cases h2 : isSep t[i] = true
      · rw [if_pos h2]
        exact ⟨12, by omega, run3_sep hs hn hlt (by rw [hg]; simpa using h1) (by rw [hg]; exact h2)⟩
      · rw [if_neg h2, Option.map_map]
        have key : ∀ sn', ∃ k, k ≤ 7 * d + 12 ∧ EndsP (A3 t (i + 1) false (mk'.setIfInBounds 0 (some i)) sn') k (Ans3 ((find3 (t.toList.drop (i + 1))).map fun x => (i + 1 + x.1, i + 1 + x.1 + x.2))) := fun sn' =>
          ih (i + 1) false _ sn' (by omega) (by simpa using hs)
        have e : ((fun x : Nat × Nat => (i + x.1, i + x.1 + x.2)) ∘ fun x : Nat × Nat => (x.1 + 1, x.2)) = fun x : Nat × Nat => (i + 1 + x.1, i + 1 + x.1 + x.2) := by
          funext x; simp; omega
        rw [e]
        -- the seen words do not matter: fix them by the end of the six steps
        have := run3_none (t := t) (i := i) (fo := fo) (mk' := mk') (sn := sn) hn (.inr ⟨hlt, by rw [hg]; simpa using h1, by rw [hg]; simpa using h2⟩) (k := 0)
          (P := fun m => ∃ sn' hd, m = mk code3 t t.size i 22 i hd fo (mk'.setIfInBounds 0 (some i)) 0 (-1) [Nx 5 i fo] 1 (some false) sn') (fun sn' hd => ⟨sn', hd, rfl⟩)
        obtain ⟨sn', hd', em⟩ := this
        obtain ⟨k, hk, he⟩ := key sn'
        refine ⟨6 + (k + 1), by omega, ?_⟩
        unfold EndsP
        rw [rf_add, show M.runFor 6 (A3 t i fo mk' sn) = _ from em]
        exact EndsP.step (k := k) rfl (g_nx_no hlt rfl (by decide)) he
/-- the search of the version's pattern -/
theorem search3 (t : Array Nat) (hn : t.size ≤ 4294967295) (i : Nat) (hi : i ≤ t.size) :
    ∃ k, k ≤ 7 * (t.size - i) + 12 ∧ EndsP (forSearch code3 t 1 i t.size false) k (Ans3 ((find3 (t.toList.drop i)).map fun x => (i + x.1, i + x.1 + x.2))) := by
  by_cases he : i = t.size
  · have hl : t.toList.drop i = [] := by simp; omega
    rw [hl]
    refine ⟨1, by omega, ?_⟩
    have e : forSearch code3 t 1 i t.size false = M.say { code := code3, text := t, lim := t.size, start := i, pc := 5, pos := i, handed := i, marks := Array.replicate 2 none, seen := ({} : Seen).add 14 } false := by
      subst he
      simp only [forSearch, header, code3]
      simp [ops]
      rfl
    rw [e]
    exact .step (k := 0) rfl rfl rfl
  · have hlt : i < t.size := by omega
    have e : forSearch code3 t 1 i t.size false = A3 t i true (Array.replicate 2 none) (({} : Seen).add 14) := by
      have h1 : ¬ t.size < i := by omega
      have h2 : ¬ t.size - i = 0 := by omega
      simp only [forSearch, header, code3]
      simp [ops, h1, h2]
      rfl
    rw [e]
    exact ends3 t hn (t.size - i) i true _ _ (by omega) rfl
end Mine
end

section
set_option autoImplicit false
set_option maxRecDepth 100000
namespace Mine
open PySem PySem.W PySem.Calls PyProof.Rows PySem.Builtin.Re

abbrev Pr : Program := PySem.Challenge.rw_pe0064_01.row.prog
noncomputable abbrev KF (w : World) : Frag := MineH.hd.heap_39 w.params
abbrev Stg (w : World) : Setting := ⟨(model Pr w).prog, (model Pr w).w.params⟩

theorem peek_wp {α : Type} {w : World} {A : Around} {t : Sem α} {r : α} {Q : α → Shared → Prop} {E : Value → Shared → Prop} {s : Shared} (X : (KF w).In s.heap) (e : peek (KF w) (Stg w) t = some r) (q : Q r s) :
    wpAny (model Pr w) A t Q E s := fun _ _ _ => wp_of_peek X q t e

noncomputable def tgt1 (x : Str) (tk : Tok) : ReTarget := { pattern := .ref 36, string := .str x tk, code := code1, text := x.cps, kind := 0, groups := 0, pos := 0, lim := x.cps.size }
noncomputable def tgt2 (x : Str) (tk : Tok) : ReTarget := { pattern := .ref 41, string := .str x tk, code := code2, text := x.cps, kind := 0, groups := 0, pos := 0, lim := x.cps.size }
noncomputable def tgt3 (x : Str) (tk : Tok) : ReTarget := { pattern := .ref 53, string := .str x tk, code := code3, text := x.cps, kind := 0, groups := 1, pos := 0, lim := x.cps.size }
theorem target1 (w : World) (x : Str) (tk : Tok) : peek (KF w) (Stg w) (reWholeTarget (.ref 36) (.str x tk)) = some (tgt1 x tk) := by kernel_rfl
theorem target2 (w : World) (x : Str) (tk : Tok) : peek (KF w) (Stg w) (reWholeTarget (.ref 41) (.str x tk)) = some (tgt2 x tk) := by kernel_rfl
theorem target3 (w : World) (x : Str) (tk : Tok) : peek (KF w) (Stg w) (reWholeTarget (.ref 53) (.str x tk)) = some (tgt3 x tk) := by kernel_rfl
end Mine
end

section
set_option autoImplicit false
set_option maxRecDepth 100000
namespace Mine
open PySem PySem.W PySem.Calls PyProof.Rows PySem.Builtin.Re

section
variable {w : World} {A : Around} {E : Value → Shared → Prop} {s : Shared}
theorem forIn_noop {α : Type} {f : α → PUnit → Sem (ForInStep PUnit)} (hf : ∀ i u (Q : ForInStep PUnit → Shared → Prop) s, Q (.yield ⟨⟩) s → wpAny (model Pr w) A (f i u) Q E s) :
    ∀ (l : List α) {Q : PUnit → Shared → Prop} (s : Shared), Q ⟨⟩ s → wpAny (model Pr w) A (forIn l PUnit.unit f) Q E s
  | [], _, s, h => wpAny_pure h
  | i :: l, Q, s, h => by
    rw [List.forIn_cons]
    exact wpAny_bind (hf i ⟨⟩ _ s (forIn_noop hf l s h))
theorem drive_wp {Q : Sre.M → Shared → Prop} : ∀ (turns n : Nat) (m : Sre.M), (Sre.M.runFor n m).outcome.isSome = true → n < 4 * turns → Q (Sre.M.runFor n m) s → wpAny (model Pr w) A (reDrive turns m) Q E s := by
  intro turns
  induction turns with
  | zero => intro n m _ h; omega
  | succ k ih =>
    intro n m ho hn hq
    rw [reDrive]
    by_cases h : (m.runFor reTurnSteps).outcome.isSome = true
    · have e : m.runFor reTurnSteps = Sre.M.runFor n m := by
        rcases Nat.le_total n 4 with hl | hl
        · rw [show reTurnSteps = n + (4 - n) from by unfold reTurnSteps; omega, rf_add, rf_done _ _ ho]
        · rw [show n = reTurnSteps + (n - 4) from by unfold reTurnSteps; omega, rf_add, rf_done _ _ h]
      simp only [h, if_true]
      exact wpAny_pure (e ▸ hq)
    · simp only [h]
      refine wpAny_bind (wpAny_rule ?_)
      have hl : 4 < n := by
        rcases Nat.lt_or_ge 4 n with hl | hl
        · exact hl
        · exact absurd (by rw [show reTurnSteps = n + (4 - n) from by unfold reTurnSteps; omega, rf_add, rf_done _ _ ho]; exact ho) h
      have e : Sre.M.runFor n m = Sre.M.runFor (n - 4) (m.runFor reTurnSteps) := by
        rw [← rf_add]; congr 1; unfold reTurnSteps; omega
      refine ih (n - 4) _ (e ▸ ho) (by omega) (e ▸ hq)
theorem run_wp {Q : Option Sre.M → Shared → Prop} {m : Sre.M} (n : Nat) (hn : n < 1000000000000) (h : (Sre.M.runFor n m).outcome = some .failed ∧ Q none s ∨ (Sre.M.runFor n m).outcome = some .matched ∧ Q (some (Sre.M.runFor n m)) s) :
    wpAny (model Pr w) A (reRunToEnd m) Q E s := by
  unfold reRunToEnd
  have ho : (Sre.M.runFor n m).outcome.isSome = true := by rcases h with ⟨h, _⟩ | ⟨h, _⟩ <;> rw [h] <;> rfl
  refine wpAny_bind (drive_wp (2 ^ 64) n m ho (by omega) ?_)
  refine wpAny_bind (forIn_noop (fun i u Q' s' hq => ?_) _ _ ?_)
  · by_cases hs : (Sre.M.runFor n m).seen.has i = true
    · simp only [hs, if_true]; exact wpAny_bind (wpAny_rule (wpAny_pure hq))
    · simp only [hs]; exact wpAny_pure hq
  · rcases h with ⟨h, q⟩ | ⟨h, q⟩
    · rw [h]; exact wpAny_pure q
    · rw [h]; exact wpAny_pure q
end
end Mine
end

section
set_option autoImplicit false
set_option maxRecDepth 100000
namespace Mine
open PySem PySem.W PySem.Calls PyProof.Rows PySem.Builtin.Re

abbrev S (l : List Nat) : Str := ⟨l.toArray⟩
theorem S_len (l : List Nat) : (S l).length = l.length := by simp [Str.length]
theorem S_app (a b : List Nat) : S a ++ S b = S (a ++ b) := by
  show Str.mk (a.toArray ++ b.toArray) = _; simp

section
variable {w : World} {A : Around} {E : Value → Shared → Prop} {s : Shared} {R : Result → Shared → Prop}
theorem codeAny_bi {id : String} {args : Args} {b : Builtin} (hb : entryFor table id = some b) (hp : plainId id = true)
    (h : wpAny (model Pr w) A.in1 (b args) (fun fin s' => match fin with | .done f => R (.ok f) s' | .again c' => c'.quiet = true ∧ codeAny (model Pr w) A c' R s') (fun e s' => R (.error e) s') s) :
    codeAny (model Pr w) A (.builtin id args) R s := by
  refine codeAny_of_tree ?_
  rw [Around.under_plainId hp]
  show wpAny _ _ (match entryFor table id with | some b => b args | none => unsupported ((withoutEnding? id "#data").getD id)) _ _ s
  rw [hb]; exact h
theorem entry_subloop : entryFor table "re.Pattern.sub.loop" = some Builtin.«re.Pattern.sub.loop» := entryFor_of_tree (by kernel_rfl)
theorem entry_sub : entryFor table "re.Pattern.sub" = some Builtin.«re.Pattern.sub» := entryFor_of_tree (by kernel_rfl)
theorem entry_split : entryFor table "re.Pattern.split" = some Builtin.«re.Pattern.split» := entryFor_of_tree (by kernel_rfl)
theorem plain_subloop : plainId "re.Pattern.sub.loop" = true := by decide +kernel
theorem plain_sub : plainId "re.Pattern.sub" = true := by decide +kernel
end

structure Srch (w : World) (pa : Addr) (mkT : Str → Tok → ReTarget) (srch : List Nat → Nat → Option (Nat × Nat)) : Prop where
  tgt : ∀ x tk, peek (KF w) (Stg w) (reWholeTarget (.ref pa) (.str x tk)) = some (mkT x tk)
  text : ∀ x tk, (mkT x tk).text = x.cps
  kind : ∀ x tk, (mkT x tk).kind = 0
  lim : ∀ x tk, (mkT x tk).lim = x.cps.size
  bnd : ∀ l start a b, start ≤ l.length → srch l start = some (a, b) → start ≤ a ∧ a < b ∧ b ≤ l.length
  next : ∀ (l : List Nat) (tk : Tok) (start : Nat) (A : Around) (E : Value → Shared → Prop) (s : Shared) (Q : Option Sre.M → Shared → Prop), start ≤ l.length → l.length ≤ 100000 →
    (srch l start = none → Q none s) → (∀ a b m, srch l start = some (a, b) → m.start = a → m.handed = b → Q (some m) s) → wpAny (model Pr w) A (reNextFound (mkT (S l) tk) start false) Q E s

noncomputable def subOut (srch : List Nat → Nat → Option (Nat × Nat)) (repl l : List Nat) : Nat → Nat → List Nat
  | 0, start => l.drop start
  | n + 1, start => match srch l start with
    | none => l.drop start
    | some (a, b) => (l.drop start).take (a - start) ++ repl ++ subOut srch repl l n b

theorem slice_wp {w : World} {A : Around} {E : Value → Shared → Prop} {s : Shared} {l : List Nat} {b e : Nat} {Q : Value → Shared → Prop} (hl : l.length ≤ 100000) (h : Q (.str (S ((l.drop b).take (e - b))) s.toks) { s with toks := s.toks + 1 }) :
    wpAny (model Pr w) A (reSlice l.toArray 0 b e) Q E s := by
  unfold reSlice
  have e1 : (⟨l.toArray.extract b e⟩ : Str) = S ((l.drop b).take (e - b)) := by
    simp [S]
  show wpAny (model Pr w) A (mkStr ⟨l.toArray.extract b e⟩) Q E s
  rw [e1]
  refine wpAny_mkStr h ?_
  rw [S_len]
  have : ((l.drop b).take (e - b)).length ≤ l.length := by simp; omega
  unfold sizeLine; omega

theorem join_empty : ∀ ls : List (List Nat), Txt.join (S []) (ls.map S) = S ls.flatten := by
  intro ls
  show Builtin.Str.glued (S []) (ls.map S) = _
  rw [StrLaws.glued_eq_join]
  induction ls with
  | nil => rfl
  | cons a r ih =>
    cases r with
    | nil => show S a = _; simp
    | cons b r =>
      show S a ++ S [] ++ Str.join (S []) (S b :: r.map S) = _
      rw [show S b :: r.map S = (b :: r).map S from rfl, ih, S_app, S_app]; simp

section
variable {w : World} {A : Around} {s : Shared} {R : Result → Shared → Prop} {pa D : Addr} {mkT : Str → Tok → ReTarget} {srch : List Nat → Nat → Option (Nat × Nat)} {l repl : List Nat} {tk tr : Tok}

theorem strsAre_push {vs : List Value} {ys : List Str} (h : StrsAre vs ys) (x : Str) (t : Tok) : StrsAre (vs ++ [.str x t]) (ys ++ [x]) := by
  induction h with
  | nil => exact .cons _ _ .nil
  | cons y t' _ ih => exact .cons _ _ ih
theorem push_wp {E : Value → Shared → Prop} {vs : Array Value} {k : Nat} {v : Value} {Q : Unit → Shared → Prop} (hD : s.heap.get? D = some { cls := .type "list", data := .seq vs k }) (hsz : vs.size ≤ 1000000)
    (h : ∀ h' kk, Heap.SameBut D s.heap h' → h'.get? D = some { cls := .type "list", data := .seq (vs.push v) kk } → Q () { s with heap := h' }) :
    wpAny (model Pr w) A (updateSeq D fun x => x.push v) Q E s := by
  refine wpAny_updateSeq hD rfl (h _ _ (Heap.SameBut.update ..) (Heap.get?_update_self _ hD rfl)) (by unfold sizeLine; omega) (by rw [Array.size_push]; unfold sizeLine; omega)
theorem strsAre_len {vs : List Value} {ys : List Str} (h : StrsAre vs ys) : vs.length = ys.length := by
  induction h with
  | nil => rfl
  | cons _ _ _ ih => simp [ih]
theorem sum_len (ys : List (List Nat)) : ((ys.map S).map (·.length)).sum = ys.flatten.length := by
  induction ys with
  | nil => rfl
  | cons y r ih => simp only [List.map_cons, List.sum_cons, ih, S_len, List.flatten_cons, List.length_append]
theorem joined_wp {E : Value → Shared → Prop} {vs : Array Value} {k : Nat} {ys : List (List Nat)} {Q : PySem.Fin → Shared → Prop} (hl : l.length ≤ 100000)
    (hD : s.heap.get? D = some { cls := .type "list", data := .seq vs k }) (hv : StrsAre vs.toList (ys.map S)) (hsum : ys.flatten.length ≤ 10000000)
    (h : ∀ tk' k, Q (.done (.ret (.str (S ys.flatten) tk'))) { s with toks := k }) :
    wpAny (model Pr w) A (do
      let joiner ← reSlice l.toArray 0 0 0
      let __do_lift ← seqItems? (Value.ref D)
      if (__do_lift.getD #[]).isEmpty = true then do
          let __do_lift ← pure joiner
          ret __do_lift
        else do
          let __do_lift ← call (Value.builtin "str.join") [joiner, Value.ref D]
          ret __do_lift) Q E s := by
  refine wpAny_bind (slice_wp hl ?_)
  have e0 : S ((l.drop 0).take (0 - 0)) = S [] := by simp
  rw [e0]
  refine wpAny_bind (wpAny_seqItems hD rfl ?_)
  have hlen := strsAre_len hv
  cases ys with
  | nil =>
    have hz : vs = #[] := by
      apply Array.toList_inj.mp
      exact List.length_eq_zero_iff.mp (by rw [hlen]; rfl)
    rw [if_pos (by rw [hz]; rfl)]
    exact wpAny_bind (wpAny_pure (wpAny_pure (h _ _)))
  | cons y r =>
    have hz : ¬ ((some vs).getD #[]).isEmpty = true := by
      intro hh
      have : vs.size = 0 := by simpa using hh
      rw [← Array.length_toList, hlen] at this
      simp at this
    rw [if_neg hz]
    refine wpAny_bind (join_list ⟨_, hD, rfl, _, rfl⟩ hv ?_ fun t' k => ?_)
    · rw [sum_len, S_len]; simp; simp at hsum; omega
    · rw [join_empty]; exact wpAny_pure (h _ _)
theorem substep (H : Srch w pa mkT srch) (hl : l.length ≤ 100000) (hr : repl.length ≤ 10) {start : Nat} {cnt : Int} {ys : List (List Nat)} (hst : start ≤ l.length) (X : (KF w).In s.heap) {vs : Array Value} {k : Nat}
    (hD : s.heap.get? D = some { cls := .type "list", data := .seq vs k }) (hv : StrsAre vs.toList (ys.map S)) (hlen : ys.length ≤ 2 * start) (hsum : ys.flatten.length ≤ 11 * start)
    (hN : srch l start = none → ∀ h' tk' k, Heap.SameBut D s.heap h' → R (.ok (.ret (.str (S (ys.flatten ++ l.drop start)) tk'))) { s with heap := h', toks := k })
    (hS : ∀ a b, srch l start = some (a, b) → ∀ h' k' (vs' : Array Value) kk (ys' : List (List Nat)), Heap.SameBut D s.heap h' → h'.get? D = some { cls := .type "list", data := .seq vs' kk } → StrsAre vs'.toList (ys'.map S) → ys'.length ≤ ys.length + 2 →
      ys'.flatten = ys.flatten ++ (l.drop start).take (a - start) ++ repl →
      codeAny (model Pr w) A (.builtin "re.Pattern.sub.loop" ⟨[.ref pa, .str (S l) tk, .str (S repl) tr, rawInt 0, rawInt 0, rawInt (cnt + 1), rawInt b, rawInt b, .bool false, .ref D, .bool false], []⟩) R { s with heap := h', toks := k' }) :
    codeAny (model Pr w) A (.builtin "re.Pattern.sub.loop" ⟨[.ref pa, .str (S l) tk, .str (S repl) tr, rawInt 0, rawInt 0, rawInt cnt, rawInt start, rawInt start, .bool false, .ref D, .bool false], []⟩) R s := by
  refine codeAny_bi entry_subloop plain_subloop ?_
  unfold Builtin.«re.Pattern.sub.loop»
  refine wpAny_bind (peek_wp X (H.tgt _ _) ?_)
  simp only [H.text, H.kind, H.lim, beq_self_eq_true, if_true, bne_self_eq_false, Bool.false_and, Bool.false_eq_true, if_false, Int.toNat_natCast]
  refine wpAny_bind (peek_wp X (r := ()) rfl ?_)
  refine wpAny_bind (H.next l tk start _ _ _ _ hst hl (fun hn => ?_) fun a b m hab hma hmb => ?_)
  · dsimp only
    by_cases hlt : start < l.toArray.size
    · rw [if_pos hlt]
      refine wpAny_bind (slice_wp hl ?_)
      have hvs : vs.size ≤ 1000000 := by rw [← Array.length_toList, strsAre_len hv]; simp; omega
      refine wpAny_bind (push_wp hD hvs fun h' kk hsb hD' => ?_)
      have e : (l.drop start).take (l.toArray.size - start) = l.drop start := List.take_of_length_le (by simp)
      rw [e] at hD'
      refine joined_wp (ys := ys ++ [l.drop start]) hl hD' (by rw [Array.toList_push, List.map_append]; exact strsAre_push hv _ _) ?_ fun tk' k' => ?_
      · simp at hsum ⊢; omega
      · have := hN hn h' tk' k' hsb
        simpa using this
    · rw [if_neg hlt]
      refine joined_wp (ys := ys) hl hD hv (by omega) fun tk' k' => ?_
      have := hN hn s.heap tk' k' (Heap.SameBut.refl _ _)
      have e : l.drop start = [] := by simp at hlt ⊢; omega
      rw [e, List.append_nil] at this
      exact this
  · dsimp only
    obtain ⟨b1, b2, b3⟩ := H.bnd l start a b hst hab
    have hmust : (m.handed == m.start) = false := by rw [hma, hmb]; simp; omega
    have hne : (Value.str (S repl) tr != Value.none) = true := by rfl
    have hvs : vs.size ≤ 900000 := by rw [← Array.length_toList, strsAre_len hv]; simp; omega
    rw [hma, hmb] at *
    simp only [hmust]
    by_cases hlt : start < a
    · rw [if_pos hlt]
      refine wpAny_bind (slice_wp hl ?_)
      refine wpAny_bind (push_wp hD (by omega) fun h' kk hsb hD' => ?_)
      refine wpAny_bind (wpAny_pure ?_)
      rw [if_pos hne]
      refine wpAny_bind (push_wp hD' (by rw [Array.size_push]; omega) fun h'' kk' hsb' hD'' => ?_)
      refine wpAny_pure ⟨plainId_quiet plain_subloop _, ?_⟩
      refine hS a b hab h'' _ _ kk' (ys ++ [(l.drop start).take (a - start), repl]) (hsb.trans hsb') hD'' ?_ (by simp) (by simp)
      rw [Array.toList_push, Array.toList_push, List.map_append]
      have := strsAre_push (strsAre_push hv (S ((l.drop start).take (a - start))) s.toks) (S repl) tr
      simpa using this
    · rw [if_neg hlt]
      refine wpAny_bind (wpAny_pure ?_)
      rw [if_pos hne]
      refine wpAny_bind (push_wp hD (by omega) fun h' kk hsb hD' => ?_)
      refine wpAny_pure ⟨plainId_quiet plain_subloop _, ?_⟩
      refine hS a b hab h' _ _ kk (ys ++ [repl]) hsb hD' ?_ (by simp) ?_
      · rw [Array.toList_push, List.map_append]
        exact strsAre_push hv (S repl) tr
      · have : a - start = 0 := by omega
        rw [this]; simp
theorem subloop (H : Srch w pa mkT srch) (hl : l.length ≤ 100000) (hr : repl.length ≤ 10) (hK : (KF w).lookup D = none) : ∀ (n start : Nat) (cnt : Int) (ys : List (List Nat)) (s : Shared), start ≤ l.length → l.length - start ≤ n → (KF w).In s.heap →
    (∃ vs k, s.heap.get? D = some { cls := .type "list", data := .seq vs k } ∧ StrsAre vs.toList (ys.map S)) → ys.length ≤ 2 * start → ys.flatten.length ≤ 11 * start →
    (∀ h' tk' k, Heap.SameBut D s.heap h' → R (.ok (.ret (.str (S (ys.flatten ++ subOut srch repl l n start)) tk'))) { s with heap := h', toks := k }) →
    codeAny (model Pr w) A (.builtin "re.Pattern.sub.loop" ⟨[.ref pa, .str (S l) tk, .str (S repl) tr, rawInt 0, rawInt 0, rawInt cnt, rawInt start, rawInt start, .bool false, .ref D, .bool false], []⟩) R s := by
  intro n
  induction n with
  | zero =>
    intro start cnt ys s hst hn X hD hlen hsum hR
    obtain ⟨vs, k, hD, hv⟩ := hD
    refine substep H hl hr hst X hD hv hlen hsum (fun hno h' tk' k' hsb => hR h' tk' k' hsb) fun a b hab => ?_
    obtain ⟨b1, b2, b3⟩ := H.bnd l start a b hst hab
    omega
  | succ n ih =>
    intro start cnt ys s hst hn X hD hlen hsum hR
    obtain ⟨vs, k, hD, hv⟩ := hD
    refine substep H hl hr hst X hD hv hlen hsum (fun hno h' tk' k' hsb => ?_) fun a b hab h' k' vs' kk ys' hsb hD' hv' hl' he' => ?_
    · have := hR h' tk' k' hsb
      simp only [subOut, hno] at this
      exact this
    · obtain ⟨b1, b2, b3⟩ := H.bnd l start a b hst hab
      refine ih b (cnt + 1) ys' _ b3 (by omega) (fun x o e => (hsb.2 x (fun q => by rw [q, hK] at e; cases e)).trans (X x o e)) ⟨vs', kk, hD', hv'⟩ (by omega) ?_ fun h'' tk' k'' hsb' => ?_
      · rw [he']; simp only [List.length_append, List.length_take, List.length_drop]; omega
      · have := hR h'' tk' k'' (hsb.trans hsb')
        simp only [subOut, hab] at this
        rw [he']
        simpa [List.append_assoc] using this
end
end Mine
end

section
set_option autoImplicit false
set_option maxRecDepth 100000
namespace Mine
open PySem PySem.W PySem.Calls PyProof.Rows PySem.Builtin.Re

theorem slot_sub : Slot "re.Pattern" "sub" "re.Pattern.sub" :=
  .of (owner := "re.Pattern") (n := "sub") (by rw [typeLookup_type, builtinLookup_eq_fast]; kernel_rfl) (by decide +kernel) (by decide +kernel) (by decide +kernel)
    (by first | exact .inl (by decide +kernel) | exact .inr (by decide +kernel)) (by rw [isSubtype_type]; kernel_rfl)
theorem slot_split : Slot "re.Pattern" "split" "re.Pattern.split" :=
  .of (owner := "re.Pattern") (n := "split") (by rw [typeLookup_type, builtinLookup_eq_fast]; kernel_rfl) (by decide +kernel) (by decide +kernel) (by decide +kernel)
    (by first | exact .inl (by decide +kernel) | exact .inr (by decide +kernel)) (by rw [isSubtype_type]; kernel_rfl)
theorem args_sub (a b c : Value) : argsOk "re.Pattern.sub" ⟨[a, b, c], []⟩ := by
  unfold argsOk; kernel_rfl
theorem args_split (a b : Value) : argsOk "re.Pattern.split" ⟨[a, b], []⟩ := by
  unfold argsOk; kernel_rfl
theorem attrs_pat : PlainAttrs "re.Pattern" :=
  ⟨⟨"object.__getattribute__", by rw [typeLookup_type, builtinLookup_eq_fast]; kernel_rfl, by decide +kernel⟩, by rw [typeLookup_type, builtinLookup_eq_fast]; kernel_rfl⟩
theorem type_sub : typeOf (.builtin "re.Pattern.sub") = pure (.type "method_descriptor") := by show builtinType _ = _; rw [builtinType_eq_fast]; kernel_rfl
theorem type_split : typeOf (.builtin "re.Pattern.split") = pure (.type "method_descriptor") := by show builtinType _ = _; rw [builtinType_eq_fast]; kernel_rfl
theorem named_sub (w : World) (r x : Value) : peek (KF w) (Stg w) (reNamed "re.Pattern.sub" "sub" ["repl", "string", "count"] 2 [r, x] []) = some [some r, some x, none] := by kernel_rfl
theorem named_split (w : World) (x : Value) : peek (KF w) (Stg w) (reNamed "re.Pattern.split" "split" ["string", "maxsplit"] 1 [x] []) = some [some x, none] := by kernel_rfl
theorem call_str (w : World) (x : Str) (t : Tok) : peek (KF w) (Stg w) (specialOf (.str x t) "__call__") = some none := by kernel_rfl

section
variable {w : World} {A : Around} {E : Value → Shared → Prop} {s : Shared} {pa : Addr} {mkT : Str → Tok → ReTarget} {srch : List Nat → Nat → Option (Nat × Nat)} {l repl : List Nat} {tk tr : Tok}
theorem sub_wp {Q : Value → Shared → Prop} (H : Srch w pa mkT srch) (hl : l.length ≤ 100000) (hr : repl.length ≤ 10) (h92 : (S repl).cps.contains 92 = false) (X : (KF w).In s.heap) (hT : s.TypeIs (.ref pa) "re.Pattern")
    (h : ∀ s' tk', Keeps s s' → Q (.str (S (subOut srch repl l l.length 0)) tk') s') :
    wpAny (model Pr w) A (call (.builtin "re.Pattern.sub") [.ref pa, .str (S repl) tr, .str (S l) tk]) Q E s := by
  refine wpAny_call (codeAny_call_builtin slot_sub.plain entry_sub (slot_sub.check _ _ _ _ _ _ _ _ hT (args_sub _ _ _) ?_))
  unfold Builtin.«re.Pattern.sub» reSubstitute
  dsimp only
  refine wpAny_bind (peek_wp X (named_sub _ _ _) ?_)
  dsimp only
  refine wpAny_bind (wpAny_pure ?_)
  refine wpAny_bind (peek_wp X (call_str _ _ _) ?_)
  simp only [Option.isSome_none, Bool.false_eq_true, if_false]
  refine wpAny_bind (peek_wp X (r := some (S repl)) rfl ?_)
  dsimp only
  refine wpAny_bind (wpAny_pure ?_)
  rw [h92]
  simp only [Bool.not_false, if_true]
  refine wpAny_bind (wpAny_pure ?_)
  dsimp only
  refine wpAny_bind (wpAny_holding (peek_wp X (H.tgt _ _) ?_))
  rw [if_neg (by decide)]
  refine wpAny_bind (wpAny_newList ?_)
  refine wpAny_pure ⟨plainId_quiet plain_subloop _, ?_⟩
  have hK : (KF w).lookup s.heap.objs.size = none := by
    cases e : (KF w).lookup s.heap.objs.size with
    | none => rfl
    | some o => exact absurd (Heap.lt_size (X _ _ e)) (Nat.lt_irrefl _)
  refine subloop H hl hr hK l.length 0 0 [] _ (Nat.zero_le _) (Nat.sub_le _ _) (X.keeps fun b o e => Heap.get?_push_of_some _ e) ⟨_, _, Heap.get?_push_size _ rfl, .nil⟩ (Nat.zero_le _) (Nat.zero_le _) fun h' tk' k hsb => ?_
  refine h _ _ ⟨h', k, rfl, fun b o e => (hsb.2 b (Nat.ne_of_lt (Heap.lt_size e))).trans (Heap.get?_push_of_some _ e)⟩
end

/-- the two patterns of quotedata -/
noncomputable def srch1 (l : List Nat) (i : Nat) : Option (Nat × Nat) := (find1 (bol l.toArray i) (l.drop i)).map fun x => (i + x, i + x + 1)
noncomputable def srch2 (l : List Nat) (i : Nat) : Option (Nat × Nat) := (find2 (l.drop i)).map fun x => (i + x.1, i + x.1 + x.2)
theorem find1_lt : ∀ (l : List Nat) (b : Bool) (k : Nat), find1 b l = some k → k < l.length
  | [], _, _, h => by cases h
  | c :: r, b, k, h => by
    simp only [find1] at h
    split at h
    · cases h; simp
    · obtain ⟨j, e, rfl⟩ := Option.map_eq_some_iff.mp h
      have := find1_lt r _ j e
      simp; omega
theorem find2_lt : ∀ (l : List Nat) (a b : Nat), find2 l = some (a, b) → 1 ≤ b ∧ a + b ≤ l.length
  | [], _, _, h => by cases h
  | c :: r, a, b, h => by
    simp only [find2] at h
    split at h
    · injection h with h; injection h with h1 h2
      subst h1; subst h2
      split
      · rename_i hh
        cases r with
        | nil => cases hh
        | cons d r => simp
      · simp
    · split at h
      · injection h with h; injection h with h1 h2
        subst h1; subst h2; simp
      · obtain ⟨⟨a', b'⟩, e, e2⟩ := Option.map_eq_some_iff.mp h
        injection e2 with e3 e4
        have := find2_lt r a' b' e
        subst e3; subst e4
        simp; omega
theorem ends_wp {w : World} {A : Around} {E : Value → Shared → Prop} {s : Shared} {Q : Option Sre.M → Shared → Prop} {m : Sre.M} {r : Option (Nat × Nat)} {k : Nat} (hk : k < 1000000000000) (he : Ends m k r)
    (hN : r = none → Q none s) (hS : ∀ a b m, r = some (a, b) → m.start = a → m.handed = b → Q (some m) s) : wpAny (model Pr w) A (reRunToEnd m) Q E s := by
  cases r with
  | none => exact run_wp k hk (.inl ⟨he, hN rfl⟩)
  | some x => exact run_wp k hk (.inr ⟨he.1, hS _ _ _ rfl he.2.1 he.2.2⟩)
theorem Srch1 (w : World) : Srch w 36 tgt1 srch1 where
  tgt := target1 w
  text := fun _ _ => rfl
  kind := fun _ _ => rfl
  lim := fun _ _ => rfl
  bnd := fun l start a b hst h => by
    obtain ⟨k, e, e2⟩ := Option.map_eq_some_iff.mp h
    injection e2 with e3 e4
    have := find1_lt _ _ _ e
    simp at this
    omega
  next := fun l tk start A E s Q hst hl hN hS => by
    obtain ⟨k, hk, he⟩ := search1 l.toArray start (by simpa using hst)
    refine ends_wp (k := k) ?_ he hN hS
    simp at hk; omega
theorem Srch2 (w : World) : Srch w 41 tgt2 srch2 where
  tgt := target2 w
  text := fun _ _ => rfl
  kind := fun _ _ => rfl
  lim := fun _ _ => rfl
  bnd := fun l start a b hst h => by
    obtain ⟨⟨k, n⟩, e, e2⟩ := Option.map_eq_some_iff.mp h
    injection e2 with e3 e4
    have := find2_lt _ _ _ e
    simp at this e3 e4
    omega
  next := fun l tk start A E s Q hst hl hN hS => by
    obtain ⟨k, hk, he⟩ := search2 l.toArray start (by simpa using hst)
    exact ends_wp (k := k) (by omega) he hN hS
end Mine
end

section
set_option autoImplicit false
namespace Mine
open PySem PySem.W PySem.Calls PyProof.Rows PySem.Builtin.Re

/-- both line ends for each, the return ahead known -/
noncomputable def crlf : Bool → List Nat → List Nat
  | _, [] => []
  | p, c :: r => (if c = 13 then [13, 10] else if c = 10 then (if p = true then [] else [13, 10]) else [c]) ++ crlf (decide (c = 13)) r
noncomputable def dots : Bool → List Nat → List Nat
  | _, [] => []
  | b, c :: r => (if b = true ∧ c = 46 then [46, 46] else [c]) ++ dots (decide (c = 10)) r
noncomputable def quoteL (l : List Nat) : List Nat := dots true (crlf false l)

theorem crlf_head {r : List Nat} (h : r.head? ≠ some 10) : crlf true r = crlf false r := by
  cases r with
  | nil => rfl
  | cons c r =>
    have : c ≠ 10 := fun e => h (by simp [e])
    simp [crlf, this]
theorem crlf_find : ∀ l : List Nat, crlf false l = match find2 l with | none => l | some (a, b) => l.take a ++ [13, 10] ++ crlf false (l.drop (a + b))
  | [] => rfl
  | c :: r => by
    have ih := crlf_find r
    simp only [find2]
    by_cases h13 : c = 13
    · subst h13
      by_cases hh : r.head? = some 10
      · cases r with
        | nil => cases hh
        | cons d r =>
          injection hh with hh; subst hh
          simp [crlf]
      · simp [crlf, hh, crlf_head hh]
    · by_cases h10 : c = 10
      · subst h10; simp [crlf]
      · simp only [h13, h10, if_false]
        cases hf : find2 r with
        | none => rw [hf] at ih; simp [crlf, h13, h10, ih]
        | some x =>
          obtain ⟨a, b⟩ := x
          rw [hf] at ih
          have : a + 1 + b = a + b + 1 := by omega
          simp [crlf, h13, h10, ih, this]
theorem dots_find : ∀ (l : List Nat) (b : Bool), dots b l = match find1 b l with | none => l | some k => l.take k ++ [46, 46] ++ dots false (l.drop (k + 1))
  | [], _ => rfl
  | c :: r, b => by
    have ih := dots_find r (decide (c = 10))
    simp only [find1]
    by_cases h : b = true ∧ c = 46
    · obtain ⟨rfl, rfl⟩ := h
      simp [dots]
    · simp only [dots, h, if_false]
      cases hf : find1 (decide (c = 10)) r with
      | none => rw [hf] at ih; simp [ih]
      | some k => rw [hf] at ih; simp [ih]
theorem subOut2 (l : List Nat) : ∀ (n i : Nat), i ≤ l.length → l.length - i ≤ n → subOut srch2 [13, 10] l n i = crlf false (l.drop i) := by
  intro n
  induction n with
  | zero =>
    intro i hi hn
    have : l.drop i = [] := by simp; omega
    simp [subOut, this, crlf]
  | succ n ih =>
    intro i hi hn
    simp only [subOut, srch2]
    rw [crlf_find (l.drop i)]
    cases hf : find2 (l.drop i) with
    | none => rfl
    | some x =>
      obtain ⟨a, b⟩ := x
      have hlt := find2_lt _ _ _ hf
      simp at hlt
      simp only [Option.map_some]
      rw [ih (i + a + b) (by omega) (by omega), List.drop_drop]
      have e1 : i + a - i = a := by omega
      have e2 : i + (a + b) = i + a + b := by omega
      rw [e1, e2]
theorem subOut1 (l : List Nat) : ∀ (n i : Nat), i ≤ l.length → l.length - i ≤ n → subOut srch1 [46, 46] l n i = dots (bol l.toArray i) (l.drop i) := by
  intro n
  induction n with
  | zero =>
    intro i hi hn
    have : l.drop i = [] := by simp; omega
    simp [subOut, this, dots]
  | succ n ih =>
    intro i hi hn
    simp only [subOut, srch1]
    rw [dots_find (l.drop i)]
    cases hf : find1 (bol l.toArray i) (l.drop i) with
    | none => rfl
    | some k =>
      have hlt := find1_lt _ _ _ hf
      have hdot : (l.drop i)[k]? = some 46 := by
        clear ih hlt
        generalize bol l.toArray i = b at hf
        generalize l.drop i = r at hf
        clear hi hn
        induction r generalizing b k with
        | nil => cases hf
        | cons c r ih =>
          simp only [find1] at hf
          split at hf
          · rename_i h; cases hf; simp [h.2]
          · obtain ⟨j, e, rfl⟩ := Option.map_eq_some_iff.mp hf
            simpa using ih _ _ e
      simp at hlt hdot
      have hb : bol l.toArray (i + k + 1) = false := by
        simp [bol, hdot]
      simp only [Option.map_some]
      rw [ih (i + k + 1) (by omega) (by omega), hb, List.drop_drop]
      have e1 : i + k - i = k := by omega
      have e2 : i + (k + 1) = i + k + 1 := by omega
      rw [e1, e2]
theorem crlf_len : ∀ (l : List Nat) (b : Bool), (crlf b l).length ≤ 2 * l.length
  | [], _ => by simp [crlf]
  | c :: r, b => by
    have := crlf_len r (decide (c = 13))
    simp only [crlf, List.length_append, List.length_cons]
    have : (if c = 13 then [13, 10] else if c = 10 then (if b = true then [] else [13, 10]) else [c]).length ≤ 2 := by
      split
      · simp
      · split
        · split <;> simp
        · simp
    omega
theorem dots_len : ∀ (l : List Nat) (b : Bool), (dots b l).length ≤ 2 * l.length
  | [], _ => by simp [dots]
  | c :: r, b => by
    have := dots_len r (decide (c = 10))
    simp only [dots, List.length_append, List.length_cons]
    have : (if b = true ∧ c = 46 then [46, 46] else [c]).length ≤ 2 := by split <;> simp
    omega
end Mine
end

section
set_option autoImplicit false
set_option maxRecDepth 100000
namespace Mine
open PySem PySem.W PySem.Calls PyProof.Rows PySem.Builtin.Re

structure Gd (w : World) (p : Program) (loose : List Str) (mg mb : Str → Option Value) (h : Heap) : Prop where
  K : (KF w).In h
  T : TopRead p loose mg mb h
theorem Gd.keeps {w : World} {p : Program} {loose : List Str} {mg mb : Str → Option Value} {h h' : Heap} (G : Gd w p loose mg mb h) (k : ∀ b o, h.get? b = some o → h'.get? b = some o) : Gd w p loose mg mb h' := ⟨G.K.keeps k, G.T.keeps k⟩

theorem call_fn {w : World} {A : Around} {E : Value → Shared → Prop} {s : Shared} {p : Program} {loose : List Str} {mg mb : Str → Option Value} {f : Addr} {args : List Value} {binds : List (Str × Value)} {name : Str} {params : Arguments} {body : List Stmt} {scope : Scope}
    {pm cd doc : Value} {Q : Value → Shared → Prop} (G : Gd w p loose mg mb s.heap) (ho : (KF w).lookup f = some ⟨.type "function", none, .func (docDef name params body scope pm cd doc), #[]⟩) (hcd : codeIn (KF w) cd name = true)
    (hroom : A.depth < recursionLimit) (hbind : bindArgs (docDef name params body scope pm cd doc) ⟨args, []⟩ = pure binds) (hloc : (binds.all fun x => decide (scope.names.lookup x.1 = some .local)) = true)
    (hco : scope.isCoroutine = false) (hgen : scope.isGenerator = false) (hk : scope.kind = .function) (hcell : ∀ x ∈ scope.names, x.2 ≠ .cell)
    (h : ∀ L h₁, L = s.heap.objs.size → Fr s.heap L h₁ (fun x => binds.reverse.lookup x) →
      wpAny (model Pr w) (A.deeper (envOf name scope L f cd)) (execs body (envOf name scope L f cd)) (fun fl s' => Q (match fl with | .ret v => v | _ => .none) s') (fun _ _ => False) { s with heap := h₁, toks := s.toks + binds.length }) :
    wpAny (model Pr w) A (call (.ref f) args) Q E s :=
  wpAny_call (call_plain_ret hroom (G.K _ _ ho) rfl G.T.nolimit (codeRec_of G.K hcd) hbind (locs hloc) (fun h₁ F => h _ h₁ rfl F) hco hgen hk hcell)

theorem quote_call {w : World} {A : Around} {E : Value → Shared → Prop} {s : Shared} {p : Program} {loose : List Str} {mg mb : Str → Option Value} {l : List Nat} {tk : Tok} {Q : Value → Shared → Prop} (G : Gd w p loose mg mb s.heap) (hroom : A.depth < recursionLimit)
    (hl : l.length ≤ 50000) (h : ∀ s' tk', Keeps s s' → Q (.str (S (quoteL l)) tk') s') : wpAny (model Pr w) A (call (.ref 48) [.str (S l) tk]) Q E s := by
  refine call_fn G (f := 48) (binds := [(Str.ofString "data", .str (S l) tk)]) (by rfl) (by rfl) hroom (by rfl) (by rfl) (by rfl) (by rfl) (by rfl) (by decide) fun L h₁ hL F => ?_
  have X := G.K
  have T := G.T
  refine wpAny_execs_cons (wpAny_Return_some ?_)
  refine MethodCall_ ?_
  refine name_K F X T (v := .ref 36) (by rfl) ?_
  refine getMethod_builtin (T := "re.Pattern") ⟨_, F.keep _ _ (X 36 _ (by rfl)), rfl⟩ attrs_pat slot_sub type_sub (fun a e => by cases e; exact ⟨_, F.keep _ _ (X 36 _ (by rfl)), rfl⟩) ?_
  refine callWith_method1 ?_
  refine args_cons ?_
  refine Constant_str ?_
  refine args_cons ?_
  refine MethodCall_ ?_
  refine name_K F X T (v := .ref 41) (by rfl) ?_
  refine getMethod_builtin (T := "re.Pattern") ⟨_, F.keep _ _ (X 41 _ (by rfl)), rfl⟩ attrs_pat slot_sub type_sub (fun a e => by cases e; exact ⟨_, F.keep _ _ (X 41 _ (by rfl)), rfl⟩) ?_
  refine callWith_method1 ?_
  refine args_cons ?_
  refine name_K F X T (v := .str (Str.ofString "\x0d\n") 342) (by rfl) ?_
  refine args_cons ?_
  refine ld F (by rfl) ?_
  refine args_nil ?_
  rw [show Str.ofString "\x0d\n" = S [13, 10] from by decide +kernel, show Str.ofString ".." = S [46, 46] from by decide +kernel]
  refine sub_wp (Srch2 w) (l := l) (repl := [13, 10]) (by omega) (by decide) (by decide +kernel) (X.keeps F.keep) ⟨_, F.keep _ _ (X 41 _ (by rfl)), rfl⟩ fun s₂ t₂ K₂ => ?_
  rw [subOut2 l l.length 0 (Nat.zero_le _) (Nat.sub_le _ _), List.drop_zero]
  obtain ⟨h₂, k₂, rfl, K₂⟩ := K₂
  refine args_nil ?_
  refine sub_wp (Srch1 w) (l := crlf false l) (repl := [46, 46]) ?_ (by decide) (by decide +kernel) ((X.keeps F.keep).keeps K₂) ⟨_, K₂ _ _ (F.keep _ _ (X 36 _ (by rfl))), rfl⟩ fun s₃ t₃ K₃ => ?_
  · have := crlf_len l false; omega
  rw [subOut1 _ _ 0 (Nat.zero_le _) (Nat.sub_le _ _), List.drop_zero]
  obtain ⟨h₃, k₃, rfl, K₃⟩ := K₃
  exact h _ _ ⟨h₃, k₃, rfl, fun b o e => K₃ _ _ (K₂ _ _ (F.keep _ _ e))⟩
end Mine
end

section
set_option autoImplicit false
set_option maxRecDepth 100000
namespace Mine
open PySem PySem.W PySem.Calls PyProof.Rows PySem.Builtin.Re

noncomputable def srch3 (l : List Nat) (i : Nat) : Option (Nat × Nat) := (find3 (l.drop i)).map fun x => (i + x.1, i + x.1 + x.2)
noncomputable def split3 (l : List Nat) : Nat → Nat → List (List Nat)
  | 0, start => [l.drop start]
  | n + 1, start => match srch3 l start with
    | none => [l.drop start]
    | some (a, b) => (l.drop start).take (a - start) :: (l.drop a).take (b - a) :: split3 l n b
theorem dg_le (l : List Nat) : dg l ≤ l.length := by
  unfold dg
  induction l with
  | nil => simp
  | cons c r ih => simp only [List.takeWhile_cons]; split <;> simp <;> omega
theorem find3_lt : ∀ (l : List Nat) (a b : Nat), find3 l = some (a, b) → 1 ≤ b ∧ a + b ≤ l.length
  | [], _, _, h => by cases h
  | c :: r, a, b, h => by
    simp only [find3] at h
    split at h
    · rename_i hc
      injection h with h; injection h with h1 h2
      subst h1; subst h2
      have := dg_le (c :: r)
      refine ⟨?_, by omega⟩
      simp [dg, List.takeWhile_cons, hc]
    · split at h
      · injection h with h; injection h with h1 h2
        subst h1; subst h2; simp
      · obtain ⟨⟨a', b'⟩, e, e2⟩ := Option.map_eq_some_iff.mp h
        injection e2 with e3 e4
        have := find3_lt r a' b' e
        subst e3; subst e4
        simp; omega
theorem srch3_bnd {l : List Nat} {start a b : Nat} (hst : start ≤ l.length) (h : srch3 l start = some (a, b)) : start ≤ a ∧ a < b ∧ b ≤ l.length := by
  obtain ⟨⟨k, n⟩, e, e2⟩ := Option.map_eq_some_iff.mp h
  injection e2 with e3 e4
  have := find3_lt _ _ _ e
  simp at this e3 e4
  omega

section
variable {w : World} {A : Around} {E : Value → Shared → Prop} {s : Shared} {l : List Nat} {tk : Tok}
theorem next3 {Q : Option Sre.M → Shared → Prop} {start : Nat} (hst : start ≤ l.length) (hl : l.length ≤ 100000) (hN : srch3 l start = none → Q none s)
    (hS : ∀ a b m, srch3 l start = some (a, b) → m.start = a → m.handed = b → m.lastmark = 1 → m.marks.getD 0 none = some a → m.marks.getD 1 none = some b → Q (some m) s) :
    wpAny (model Pr w) A (reNextFound (tgt3 (S l) tk) start false) Q E s := by
  obtain ⟨k, hk, he⟩ := search3 l.toArray (by simp; omega) start (by simpa using hst)
  have hk' : k < 1000000000000 := by simp at hk; omega
  show wpAny (model Pr w) A (reRunToEnd (Sre.forSearch code3 l.toArray 1 start l.toArray.size false)) Q E s
  unfold EndsP at he
  have e0 : (find3 (l.toArray.toList.drop start)).map (fun x => (start + x.1, start + x.1 + x.2)) = srch3 l start := rfl
  rw [e0] at he
  cases hr : srch3 l start with
  | none => rw [hr] at he; exact run_wp k hk' (.inl ⟨he, hN hr⟩)
  | some x =>
    rw [hr] at he
    obtain ⟨h1, h2, h3, h4, h5, h6⟩ := he
    exact run_wp k hk' (.inr ⟨h1, hS _ _ _ hr h2 h3 h4 h5 h6⟩)

abbrev SpSt := Array Value × Nat × Nat × Bool × Int × Bool
theorem spl_over {f : Nat → SpSt → Sem (ForInStep SpSt)} (ho : ∀ k st, st.2.2.2.2.2 = true → f k st = pure (.yield st)) : ∀ (ks : List Nat) (st : SpSt), st.2.2.2.2.2 = true → (forIn ks st f : Sem SpSt) = pure st
  | [], st, _ => rfl
  | k :: ks, st, h => by
    rw [List.forIn_cons, ho k st h]
    exact spl_over ho ks st h
theorem spl_loop {f : Nat → SpSt → Sem (ForInStep SpSt)} {Q : SpSt → Shared → Prop} (ho : ∀ k st, st.2.2.2.2.2 = true → f k st = pure (.yield st))
    (hstep : ∀ k (out : Array Value) start cnt (s : Shared) (Q : ForInStep SpSt → Shared → Prop), start ≤ l.length → (srch3 l start = none → Q (.yield (out, start, start, false, cnt, true)) s) →
      (∀ a b, srch3 l start = some (a, b) → ∀ t1 t2 k, Q (.yield ((out.push (.str (S ((l.drop start).take (a - start))) t1)).push (.str (S ((l.drop a).take (b - a))) t2), b, b, false, cnt + 1, false)) { s with toks := k }) →
      wpAny (model Pr w) A (f k (out, start, start, false, cnt, false)) Q E s) :
    ∀ (n : Nat) (ks : List Nat) (out : Array Value) (start : Nat) (cnt : Int) (ys : List (List Nat)) (s : Shared), start ≤ l.length → l.length - start ≤ n → n < ks.length → StrsAre out.toList (ys.map S) →
      (∀ out' last cnt' k ys', StrsAre out'.toList (ys'.map S) → ys' ++ [l.drop last] = ys ++ split3 l n start → Q (out', last, last, false, cnt', true) { s with toks := k }) →
      wpAny (model Pr w) A (forIn ks (out, start, start, false, cnt, false) f) Q E s := by
  intro n
  induction n with
  | zero =>
    intro ks out start cnt ys s hst hn hks hv hQ
    obtain ⟨k, ks, rfl⟩ : ∃ k r, ks = k :: r := by cases ks with | nil => simp at hks | cons k r => exact ⟨k, r, rfl⟩
    rw [List.forIn_cons]
    refine wpAny_bind (hstep k out start cnt s _ hst (fun hno => ?_) fun a b hab => ?_)
    · dsimp only
      rw [spl_over ho ks _ rfl]
      exact wpAny_pure (hQ out start cnt s.toks ys hv rfl)
    · have := srch3_bnd hst hab; omega
  | succ n ih =>
    intro ks out start cnt ys s hst hn hks hv hQ
    obtain ⟨k, ks, rfl⟩ : ∃ k r, ks = k :: r := by cases ks with | nil => simp at hks | cons k r => exact ⟨k, r, rfl⟩
    rw [List.forIn_cons]
    refine wpAny_bind (hstep k out start cnt s _ hst (fun hno => ?_) fun a b hab t1 t2 k' => ?_)
    · dsimp only
      rw [spl_over ho ks _ rfl]
      refine wpAny_pure (hQ out start cnt s.toks ys hv ?_)
      simp [split3, hno]
    · dsimp only
      have hb := srch3_bnd hst hab
      refine ih ks _ b (cnt + 1) (ys ++ [(l.drop start).take (a - start), (l.drop a).take (b - a)]) _ hb.2.2 (by omega) (by simp at hks; omega) ?_ fun out' last cnt' k'' ys' hv' he' => ?_
      · rw [Array.toList_push, Array.toList_push, List.map_append]
        have := strsAre_push (strsAre_push hv (S ((l.drop start).take (a - start))) t1) (S ((l.drop a).take (b - a))) t2
        simpa using this
      · refine hQ out' last cnt' k'' ys' hv' ?_
        rw [he']; simp [split3, hab]
theorem split3_len (l : List Nat) : ∀ (n start : Nat), (split3 l n start).length ≤ 2 * n + 1
  | 0, _ => by simp [split3]
  | n + 1, start => by
    simp only [split3]
    split
    · simp
    · rename_i a b _
      have := split3_len l n b
      simp; omega
theorem split_wp {Q : Value → Shared → Prop} (hl : l.length ≤ 50000) (X : (KF w).In s.heap)
    (h : ∀ D h' k (vs : List Value), s.heap.get? D = none → h'.get? D = some { cls := .type "list", data := .seq vs.toArray } → StrsAre vs ((split3 l l.length 0).map S) → (∀ b o, s.heap.get? b = some o → h'.get? b = some o) → Q (.ref D) { s with heap := h', toks := k }) :
    wpAny (model Pr w) A (call (.builtin "re.Pattern.split") [.ref 53, .str (S l) tk]) Q E s := by
  refine wpAny_call (codeAny_call_builtin slot_split.plain entry_split (slot_split.check _ _ _ _ _ _ _ _ ⟨_, X 53 _ (by rfl), rfl⟩ (args_split _ _) ?_))
  unfold Builtin.«re.Pattern.split»
  dsimp only
  refine wpAny_bind (peek_wp X (named_split _ _) ?_)
  dsimp only
  refine wpAny_bind (wpAny_pure ?_)
  refine wpAny_bind (peek_wp X (target3 _ _ _) ?_)
  refine wpAny_bind (spl_loop (l := l) (fun k st hst => ?_) (fun k out start cnt s Q hst hN hS => ?_) l.length _ #[] 0 0 [] s (Nat.zero_le _) (Nat.sub_le _ _) ?_ .nil fun out' last cnt' k ys' hv' he' => ?_)
  · obtain ⟨a1, a2, a3, a4, a5, a6⟩ := st
    cases hst
    rfl
  · simp only [Bool.not_false, if_true, bne_self_eq_false, Bool.false_and, Bool.false_eq_true, if_false]
    refine wpAny_bind (next3 hst (by omega) (fun hn => ?_) fun a b m hab h1 h2 h3 h4 h5 => ?_)
    · exact wpAny_pure (hN hn)
    · have hb := srch3_bnd hst hab
      dsimp only
      have hmust : (b == a) = false := by simp; omega
      simp only [h1, h2, hmust]
      refine wpAny_bind (slice_wp (by omega) ?_)
      simp only [tgt3]
      rw [show List.range 1 = [0] from rfl, List.forIn_cons]
      refine wpAny_bind (wpAny_bind (wpAny_bind ?_))
      unfold reMachineGroup
      have e1 : ¬ ((2 * (0 + 1 - 1) : Nat) : Int) ≥ m.lastmark := by rw [h3]; decide
      rw [if_neg e1, show 2 * (0 + 1 - 1) = 0 from rfl, h4, h5]
      dsimp only
      rw [if_neg (by omega)]
      exact slice_wp (by omega) (wpAny_pure (wpAny_pure (wpAny_pure (hS a b hab _ _ _))))
  · simp [reMostMatches, tgt3]; omega
  · simp only [Bool.not_true, Bool.false_eq_true, if_false]
    refine wpAny_bind (slice_wp (l := l) (by omega) ?_)
    have e : (l.drop last).take ((tgt3 (S l) tk).lim - last) = l.drop last := List.take_of_length_le (by simp [tgt3])
    have e0 : (l.drop last).take (l.toArray.size - last) = l.drop last := List.take_of_length_le (by simp)
    have hlen := strsAre_len hv'
    have hle := split3_len l l.length 0
    have he'' := congrArg List.length he'
    simp at hlen he''
    refine wpAny_bind (wpAny_newList ?_ ?_)
    · refine wpAny_pure (h _ _ _ _ ?_ (Heap.get?_push_size _ rfl) ?_ fun b o e => Heap.get?_push_of_some _ e)
      · cases hq : s.heap.get? s.heap.objs.size with
        | none => rfl
        | some o => exact absurd (Heap.lt_size hq) (Nat.lt_irrefl _)
      · rw [Array.toList_push]
        have := strsAre_push hv' (S (l.drop last)) k
        rw [show ys'.map S ++ [S (l.drop last)] = (split3 l l.length 0).map S from by rw [← List.map_singleton (f := S), ← List.map_append, he']; rfl] at this
        first | exact this | (rw [← e0] at this; exact this)
    · simp; unfold sizeLine; omega
end
end Mine
end

section
set_option autoImplicit false
set_option maxRecDepth 100000
namespace Mine
open PySem PySem.W PySem.Calls PyProof.Rows

section
variable {M : Model} {A : Around} {E : Value → Shared → Prop} {s : Shared} {env : Env}
theorem wpC_execs_nil {Q : Flow → Shared → Prop} (h : Q .next s) : wpC M A (execs [] env) Q E s := wpC_of (wpAny_execs_nil h)
theorem wpC_execs_cons {st : Stmt} {rest : List Stmt} {Q : Flow → Shared → Prop} (h : wpC M A (exec st env) (fun f s' => match f with | .next => wpC M A (execs rest env) Q E s' | f => Q f s') E s) : wpC M A (execs (st :: rest) env) Q E s := by
  rw [execs_cons]
  refine wpC_bind (wpC_mono h (fun f s' h' => ?_) fun _ _ x => x)
  cases f <;> first | exact h' | exact wpC_pure h'
theorem wpC_Assign_Name {x : Str} {pos' pos : Pos} {value : Expr} {Q : Flow → Shared → Prop} (h : wpC M A (eval value env) (fun v s₁ => wpAny M A (storeName env x v) (fun _ => Q .next) E s₁) E s)
    (hs : swapsWith value (some (.Name x pos')) pos.line env = pure false := by rfl) : wpC M A (exec (.Assign [.Name x pos'] value pos) env) Q E s := by
  rw [exec_Assign_Name env x pos' value pos hs]
  refine wpC_first (wpAny_standAt (wpC_bind (wpC_mono h (fun v s₁ h₁ => ?_) fun _ _ x => x)))
  exact wpC_of (wpAny_bind (wpAny_standAt (wpAny_bind (wpAny_bindName (wpAny_mono h₁ (fun _ _ x => wpAny_pure x) fun _ _ x => x)))))
theorem wpC_operate {vs : List Value} {m : Sem Value} {Q : Value → Shared → Prop} (h : wpC M A m Q E s) : wpC M A (operate vs m) Q E s := fun Γ p hΓ hC => by
  rw [Sem.wp_operate]; exact h Γ p hΓ hC
theorem wpC_Compare1 {l r : Expr} {op : CmpOp} {pos : Pos} {Q : Value → Shared → Prop} (h : wpC M A (eval l env) (fun a s₁ => wpC M A (eval r env) (fun b s₂ => wpC M A (compareOp op a b) Q E s₂) E s₁) E s)
    (hm : behindInMarks op r = false := by with_unfolding_all rfl) : wpC M A (eval (.Compare l [op] [r] pos) env) Q E s := by
  rw [eval_Compare1, markedBehindIn_of_false hm]
  refine wpC_bind (wpC_mono h (fun a s₁ h₁ => ?_) fun _ _ x => x)
  refine wpC_bind (wpC_holding (wpC_mono h₁ (fun b s₂ h₂ => ?_) fun _ _ x => x))
  exact wpC_first (wpAny_standAt (wpC_operate h₂))
theorem wpC_Call {func : Expr} {args : List Expr} {pos : Pos} {Q : Value → Shared → Prop} (h : wpAny M A (eval func env) (fun f s₁ => wpC M A (callWith pos f [] (backTo pos (starEach args env)) []) Q E s₁) E s)
    (he : eval (.Call func args [] pos) env = (do callWith pos (← eval func env) [] (backTo pos (starEach args env)) (backToKw pos (keywordEach [] env))) := by rfl) : wpC M A (eval (.Call func args [] pos) env) Q E s := by
  rw [he]; exact wpC_first h
theorem wpC_If {test : Expr} {body orelse : List Stmt} {pos : Pos} {Q : Flow → Shared → Prop} (h : wpAny M A (isTrue test env (eval test env)) (fun b s₂ => if b then wpC M A (execs body env) Q E s₂ else wpC M A (execs orelse env) Q E s₂) E s) :
    wpC M A (exec (.If test body orelse pos) env) Q E s := by
  rw [exec_If]
  refine wpC_first (wpAny_standAt (wpC_first (wpAny_mono h (fun b s₂ h₂ => ?_) fun _ _ x => x)))
  cases b <;> exact h₂
theorem callWithC {K : Frag} {f : Value} {pos : Pos} {e : Expr} {rest : List Expr} {Q : Value → Shared → Prop} (hk : keepIn K f = true)
    (h : wpAny M A (spliced (backTo pos (starEach (e :: rest) env))) (fun vs s₁ => K.In s₁.heap ∧ wpC M A (call f vs) Q E s₁) E s)
    (he : starEach (e :: rest) env = (false, eval e env) :: starEach rest env := by rfl) (hplain : (backTo pos (starEach rest env)).any (·.1) = false := by rfl) :
    wpC M A (callWith pos f [] (backTo pos (starEach (e :: rest) env)) []) Q E s := by
  rw [he] at h ⊢
  have hp : ((backTo pos ((false, eval e env) :: starEach rest env)).any (·.1) || false) = false := by show ((false || (backTo pos (starEach rest env)).any (·.1)) || false) = false; rw [hplain]; rfl
  unfold callWith
  refine wpC_first (wpAny_holding (evalArgs_plain (wpAny_mono h (fun vs s₁ h₁ => ?_) fun _ _ x => x)))
  refine wpC_first (wpAny_standAt ?_)
  obtain ⟨k, hk', L⟩ := keeps_K (M := M) hk _ h₁.1
  simp only [List.any_nil, hp]
  refine wpC_first (L.here ?_)
  have tail : ∀ {t : Sem Value}, wpC M A t Q E s₁ → wpC M A (t >>= fun r => holding [r] point >>= fun _ => pure r) Q E s₁ :=
    fun ht => wpC_bind (wpC_mono ht (fun r s₂ hr => wpC_of (wpAny_bind (wpAny_holding (wpAny_point (wpAny_pure hr))))) fun _ _ x => x)
  have marked (mk : Value) : wpC M A (callMarked mk f vs []) Q E s₁ := by unfold callMarked; exact wpC_keep h₁.2
  rcases hk' with rfl | rfl | rfl <;> dsimp only <;> first | exact tail h₁.2 | (split <;> first | exact tail h₁.2 | exact tail (marked _))
theorem callWithC_type {T : String} {pos : Pos} {e : Expr} {rest : List Expr} {Q : Value → Shared → Prop}
    (h : wpAny M A (spliced (backTo pos (starEach (e :: rest) env))) (fun vs s₁ => wpC M A (call (.type T) vs) Q E s₁) E s)
    (he : starEach (e :: rest) env = (false, eval e env) :: starEach rest env := by rfl) (hplain : (backTo pos (starEach rest env)).any (·.1) = false := by rfl) :
    wpC M A (callWith pos (.type T) [] (backTo pos (starEach (e :: rest) env)) []) Q E s := by
  rw [he] at h ⊢
  have hp : (backTo pos ((false, eval e env) :: starEach rest env)).any (·.1) = false := by show (false || (backTo pos (starEach rest env)).any (·.1)) = false; rw [hplain]; rfl
  unfold callWith
  refine wpC_first (wpAny_holding (evalArgs_plain (wpAny_mono h (fun vs s₁ h₁ => ?_) fun _ _ x => x)))
  refine wpC_first (wpAny_standAt ?_)
  simp only [hp, List.any_nil, Bool.or_false]
  refine wpC_first (wpAny_pure ?_)
  exact wpC_bind (wpC_mono h₁ (fun r s₂ hr => wpC_of (wpAny_bind (wpAny_holding (wpAny_point (wpAny_pure hr))))) fun _ _ x => x)
theorem wpC_runOwn {c : Code} {Q : Flow → Shared → Prop} (hc : codeC M A c (fun r s' => match r with | .ok f => Q f s' | .error e => cameBackBy M A env E e s') s) : wpC M A (runOwn c env none) Q E s := by
  unfold runOwn
  exact wpC_onRaise (wpC_run hc)
end

section
variable {prog : Program} {w : World} {A : Around} {E : Value → Shared → Prop} {s : Shared} {R : Result → Shared → Prop}
theorem codeC_func {body : List Stmt} {env : Env} (h : wpC (model prog w) (A.deeper env) (execs body env) (fun f s' => R (.ok (.ret (match f with | .ret v => v | _ => .none))) s') (fun _ _ => False) s) : codeC (model prog w) A (.func body env) R s := by
  refine codeC_of_tree ?_
  show wpC _ (A.deeper env) (do point; match ← (execs body env).onRaise (leaving env) with | .ret v => ret v | _ => ret .none) _ _ s
  refine wpC_first (wpAny_point (wpC_bind (wpC_onRaise (wpC_mono h (fun f s' h' => ?_) fun _ _ h' => h'.elim))))
  cases f <;> exact wpC_pure h'
theorem call_fnC {p : Program} {loose : List Str} {mg mb : Str → Option Value} {f : Addr} {args : List Value} {binds : List (Str × Value)} {name : Str} {params : Arguments} {body : List Stmt} {scope : Scope}
    {pm cd doc : Value} {Q : Value → Shared → Prop} (G : Gd w p loose mg mb s.heap) (ho : (KF w).lookup f = some ⟨.type "function", none, .func (docDef name params body scope pm cd doc), #[]⟩) (hcd : codeIn (KF w) cd name = true)
    (hroom : A.depth < recursionLimit) (hbind : bindArgs (docDef name params body scope pm cd doc) ⟨args, []⟩ = pure binds) (hloc : (binds.all fun x => decide (scope.names.lookup x.1 = some .local)) = true)
    (hco : scope.isCoroutine = false) (hgen : scope.isGenerator = false) (hk : scope.kind = .function) (hcell : ∀ x ∈ scope.names, x.2 ≠ .cell)
    (h : ∀ L h₁, L = s.heap.objs.size → Fr s.heap L h₁ (fun x => binds.reverse.lookup x) →
      wpC (model Pr w) (A.deeper (envOf name scope L f cd)) (execs body (envOf name scope L f cd)) (fun fl s' => Q (match fl with | .ret v => v | _ => .none) s') (fun _ _ => False) { s with heap := h₁, toks := s.toks + binds.length }) :
    wpC (model Pr w) A (call (.ref f) args) Q E s := by
  refine wpC_call (codeC_of_tree ?_)
  show wpC _ A.in1 (callAny (.ref f) ⟨args, []⟩) _ _ s
  simp only [callAny]
  refine wpC_first (wpAny_load (G.K _ _ ho) ?_)
  obtain ⟨c, oc, vs, tq, hc, hoc, hdc, hq⟩ := codeRec_of G.K hcd
  subst hc
  have e1 : (docDef name params body scope pm (.ref c) doc).scope.isCoroutine = false := hco
  have e2 : (docDef name params body scope pm (.ref c) doc).scope.isGenerator = false := hgen
  simp only [callFunction, e1, e2]
  refine wpC_first (m := field (.ref c) 1) (wpAny_field hoc hdc hq (wpC_first (wpAny_pure ?_)))
  rw [hbind]
  refine wpC_first (wpAny_pure (wpC_first (wpAny_newFunctionEnv hcell (locs hloc) (fun h₁ hns hsb => ?_) hk)))
  refine wpC_first (wpAny_enterFrame (G.T.nolimit.fresh _ hsb) hroom (wpC_pure ⟨rfl, ?_⟩))
  exact codeC_func (h _ h₁ rfl ⟨hns, fun b o e => hsb.extBut b o (Nat.ne_of_lt (Heap.lt_size e)) (Heap.get?_push_of_some _ e), Nat.le_refl _⟩)
end
end Mine
end

section
set_option autoImplicit false
set_option maxRecDepth 100000
namespace Mine
open PySem PySem.W PySem.Calls PyProof.Rows

abbrev No : Value → Shared → Prop := fun _ _ => False
section
variable {prog : Program} {w : World} {A : Around} {E : Value → Shared → Prop} {s : Shared} {env : Env}
theorem wpC_noE {α : Type} {M : Model} {t : Sem α} {Q : α → Shared → Prop} (h : wpC M A t Q No s) : wpC M A t Q E s := wpC_mono h (fun _ _ x => x) fun _ _ x => x.elim
theorem wpC_Try {body orelse : List Stmt} {h₀ : ExceptHandler} {hs : List ExceptHandler} {pos : Pos} {Q : Flow → Shared → Prop}
    (h : wpC (model prog w) A (execs body env) (fun f s₁ => match f with | .next => wpAny (model prog w) A (execs orelse env) Q E s₁ | f => Q f s₁)
      (fun e s₁ => wpAny (model prog w) A (noteFrame e env) (fun _ s₂ => wpAny (model prog w) A (setFlight e none) (fun _ s₃ => wpAny (model prog w) A (handleBy e env (h₀ :: hs)) Q E s₃) E s₂) E s₁) s) :
    wpC (model prog w) A (exec (.Try body (h₀ :: hs) orelse [] pos) env) Q E s := by
  rw [arm_exec_Try]
  refine wpC_first (wpAny_standAt ?_)
  unfold tryStmt
  simp only [List.isEmpty_nil, if_true, List.isEmpty_cons, Bool.false_and, Bool.false_eq_true, if_false]
  refine wpC_bind (wpC_attempt (wpC_mono h (fun f s₁ h₁ => ?_) fun e s₁ h₁ => ?_))
  · cases f <;> first | exact wpC_of h₁ | exact wpC_pure h₁
  · exact wpC_of (wpAny_bind (wpAny_mono h₁ (fun _ _ h₂ => wpAny_bind h₂) fun _ _ x => x))

/-- a loop by what holds ahead of its i-th turn -/
noncomputable def LoopC (prog : Program) (w : World) (A : Around) (env : Env) (target : Expr) (body : List Stmt) (Q : Flow → Shared → Prop) (it : Value) (s₂ : Shared) : Prop :=
  ∃ (I : Addr) (fp wr : List Addr) (n : Nat) (P : Nat → Value → Prop) (St : Nat → Heap → Prop) (J : Nat → Shared → Prop), it = .ref I ∧ Walks prog w A I fp wr n P St ∧ St 0 s₂.heap ∧ J 0 s₂ ∧
    (∀ i v s h' tk, i < n → P i v → J i s → St (i + 1) h' → (∀ b o, b ∉ wr → s.heap.get? b = some o → h'.get? b = some o) →
      wpC (model prog w) A (letOwnedTupleGo target (.ref I) v) (fun _ s₃ => wpC (model prog w) A (assign target env v) (fun _ s₄ => wpC (model prog w) A (execs body env) (fun f s₅ => match f with
        | .next | .cont => St (i + 1) s₅.heap ∧ J (i + 1) s₅
        | .brk => Q .next s₅
        | .ret v => Q (.ret v) s₅) No s₄) No s₃) No { s with heap := h', toks := tk }) ∧
    ∀ s h' tk, J n s → (∀ b o, b ∉ wr → s.heap.get? b = some o → h'.get? b = some o) → Q .next { s with heap := h', toks := tk }
theorem codeC_forLoop {target : Expr} {body : List Stmt} {Q : Flow → Shared → Prop} {it : Value} (h : LoopC prog w A env target body Q it s) :
    codeC (model prog w) A (.forLoop target it body [] env) (fun r s' => match r with | .ok f => Q f s' | .error e => cameBackBy (model prog w) A env E e s') s := by
  obtain ⟨I, fp, wr, n, P, St, J, rfl, W, hst, hJ, turn, done⟩ := h
  refine codeC_loop rfl (fun k s => ∃ i, k = n - i ∧ i ≤ n ∧ St i s.heap ∧ J i s) (fun k s hI => ?_) n ⟨0, rfl, Nat.zero_le _, hst, hJ⟩
  obtain ⟨i, rfl, hi, hst, hJ⟩ := hI
  show wpC _ A ((forTurn target (.ref I) body [] env).onRaise (fun x => do noteFrame x env; theTreesLotGoes x)) _ _ s
  refine wpC_onRaise (wpC_noE ?_)
  simp only [forTurn]
  refine wpC_first (wpAny_standAt (wpC_bind (wpC_onRaise (wpC_of ?_))))
  by_cases hlt : i < n
  · refine W.item i s _ _ hlt hst fun v h' tk hP hst' hk => ?_
    refine wpC_bind (wpC_mono (turn i v s h' tk hlt hP hJ hst' hk) (fun _ s₃ h₃ => ?_) fun _ _ x => x.elim)
    refine wpC_bind (wpC_mono h₃ (fun _ s₄ h₄ => ?_) fun _ _ x => x.elim)
    refine wpC_bind (wpC_mono h₄ (fun f s₅ h₅ => ?_) fun _ _ x => x.elim)
    cases f with
    | next => exact wpC_pure (.inl ⟨rfl, n - (i + 1), by omega, i + 1, rfl, hlt, h₅.1, h₅.2⟩)
    | cont => exact wpC_pure (.inl ⟨rfl, n - (i + 1), by omega, i + 1, rfl, hlt, h₅.1, h₅.2⟩)
    | brk => exact wpC_pure h₅
    | ret v => exact wpC_pure h₅
  · have e : i = n := by omega
    subst e
    refine W.done s _ _ hst fun h' tk hk => ?_
    exact wpC_pure (.inr ⟨rfl, codeC_of (codeAny_block (wpAny_execs_nil (done s h' tk hJ hk)))⟩)
theorem wpC_For {target iter : Expr} {body : List Stmt} {pos : Pos} {Q : Flow → Shared → Prop}
    (h : wpC (model prog w) A (eval iter env) (fun v s₁ => wpAny (model prog w) A (pyIter v) (fun it s₂ => LoopC prog w A env target body Q it s₂) E s₁) E s)
    (hs : ∀ x, foldedSetIterable iter env x = pure x := by intro _; rfl) : wpC (model prog w) A (exec (.For target iter body [] pos) env) Q E s := by
  rw [exec_For]
  refine wpC_first (wpAny_standAt (wpC_bind (wpC_mono h (fun x s₁ h₁ => ?_) fun _ _ x => x)))
  refine wpC_first (wpAny_of_eq (hs x) (wpC_first (wpAny_standAt (wpC_first (wpAny_holding (wpAny_mono h₁ (fun it s₂ h₂ => ?_) fun _ _ x => x))))))
  exact wpC_runOwn (codeC_forLoop h₂)
end
end Mine
end

section
set_option autoImplicit false
set_option maxRecDepth 100000
namespace Mine
open PySem PySem.W PySem.Calls PyProof.Rows PySem.NumText

theorem typeCall2 (a b : Value) : checkTypeCall "int" ⟨[a, b], []⟩ = pure () := by kernel_rfl
theorem newCall2 (a b : Value) : checkBuiltinCall "int.__new__" ⟨[.type "int", a, b], []⟩ = pure () := by kernel_rfl
theorem initArgs3 (o a b : Value) : argsOk "object.__init__" ⟨[o, a, b], []⟩ := by unfold argsOk; kernel_rfl
section
variable {w : World} {A : Around} {E : Value → Shared → Prop} {s : Shared} {x : Str} {t u : Tok}
theorem ift_bad {Q : Value → Shared → Prop} (hh : A.handled = none) (hx : x.length ≤ 600) (hc : ∀ c ∈ x.cps.toList, c < 16 ^ 8) (hs : (numSeenOf x).length ≤ 640)
    (hr : (int_private% "readNumeral") 0 10 (numSeenOf x) = int_private% "Numeral.invalid") (h : ∀ h' e k m, Heap.MadeExc s.heap h' e "ValueError" [m] → E (.ref e) { s with heap := h', toks := k }) :
    wpC (model Pr w) A ((int_private% "intFromText") (.str x t) (numTextOf x) 10) Q E s := by
  show wpC _ _ (if (numSeenOf x).length ≤ 640 then _ else _) _ _ _
  rw [if_pos hs]
  refine wpC_first (wpAny_pure ?_)
  dsimp only
  have hr' : (int_private% "readNumeral") 0 10 (List.takeWhile (fun x => x != 0) (numTextOf x)) = int_private% "Numeral.invalid" := hr
  rw [hr']
  dsimp only
  refine wpC_first (wpAny_of_eq (a := none) rfl ?_)
  rw [if_neg (by simp)]
  refine wpC_first (wpAny_rule ?_)
  refine wpC_first (wpAny_of_eq (a := none) rfl ?_)
  dsimp only
  have hl := StrLaws.reprText_len x hc
  refine wpC_first (wpAny_pyRepr_str ?_ (by unfold sizeLine; omega))
  refine wpC_first (wpAny_mkStr ?_ ?_)
  · refine wpC_first (wpAny_newExc_plain plainExc_ValueError fun h' e hm => ?_)
    refine wpC_bind (wpC_markTheRefusal ?_)
    exact wpC_of (wpAny_raiseNew_none hh (h h' e _ _ hm))
  · rw [Str.length_append]
    have e1 : (Str.ofString (toString "invalid literal for int() with base " ++ toString 10 ++ toString ": ")).length = 40 := by decide +kernel
    have e2 : (Str.mk ((reprText x).cps.extract 0 200)).length ≤ 200 := by show ((reprText x).cps.extract 0 200).size ≤ 200; simp; omega
    rw [e1]; unfold sizeLine; omega

theorem new_bad {Q : PySem.Fin → Shared → Prop} (hh : A.handled = none) (hx : x.length ≤ 600) (hc : ∀ c ∈ x.cps.toList, c < 16 ^ 8) (hs : (numSeenOf x).length ≤ 640)
    (hr : (int_private% "readNumeral") 0 10 (numSeenOf x) = int_private% "Numeral.invalid") (h : ∀ h' e k m, Heap.MadeExc s.heap h' e "ValueError" [m] → E (.ref e) { s with heap := h', toks := k }) :
    wpC (model Pr w) A (Builtin.«int.__new__» ⟨[.type "int", .str x t, .int 10 u], []⟩) Q E s := by
  unfold Builtin.«int.__new__»
  dsimp only
  refine wpC_first (wpAny_of_eq (a := true) rfl ?_)
  rw [if_neg (by decide)]
  refine wpC_first (wpAny_of_eq F.conv_sub_int ?_)
  rw [if_neg (by decide)]
  refine wpC_first (wpAny_of_eq F.madeHere_int ?_)
  rw [if_neg (by simp), if_neg (by simp)]
  refine wpC_first (wpAny_of_eq (a := PUnit.unit) rfl ?_)
  refine wpC_first (m := Builtin.Int.intIndex "int.__new__" (.int 10 u)) (wpAny_of_eq (a := 10) rfl ?_)
  rw [if_neg (by decide)]
  refine wpC_first (m := (int_private% "numeralText?") (.str x t)) (wpAny_of_eq (a := some (numTextOf x)) rfl ?_)
  dsimp only
  refine wpC_bind ?_
  exact wpC_mono (ift_bad (Q := fun _ _ => False) hh hx hc hs hr h) (fun _ _ f => f.elim) fun _ _ e => e
theorem bad_of {x : Str} (hx : x.length ≤ 600) (hc : ∀ c ∈ x.cps.toList, 0 < c ∧ c < 128) (hn : PySem.intText? x = none) :
    (numSeenOf x).length ≤ 640 ∧ (int_private% "readNumeral") 0 10 (numSeenOf x) = int_private% "Numeral.invalid" := by
  have hs : (numSeenOf x).length ≤ 640 := Nat.le_trans (seen_length x) (by omega)
  refine ⟨hs, ?_⟩
  rcases read0 x hs with ⟨m, h1, _⟩ | ⟨_, hr | ⟨i, _, hne⟩⟩
  · rw [hn] at h1; cases h1
  · exact hr
  · refine absurd ?_ hne
    have ht : numTextOf x = x.cps.toList := by
      unfold numTextOf
      rw [if_pos]
      rw [Array.all_eq_true']
      intro c hcm
      have := (hc c (Array.mem_toList_iff.mpr hcm)).2
      simpa using this
    have : numSeenOf x = numTextOf x := by
      unfold numSeenOf
      rw [ht]
      have key : ∀ l : List Nat, (∀ c ∈ l, 0 < c) → l.takeWhile (fun c => c != 0) = l := by
        intro l
        induction l with
        | nil => intro _; rfl
        | cons c r ih =>
          intro h
          have h1 : (c != 0) = true := by have := h c (by simp); simp; omega
          rw [List.takeWhile_cons, h1, if_pos rfl, ih fun d hd => h d (by simp [hd])]
      exact key _ fun c hcm => (hc c hcm).1
    rw [this]; simp
theorem codeC_bu {id : String} {args : Args} {b : Builtin} {R : Result → Shared → Prop} (hb : entryFor table id = some b)
    (h : wpC (model Pr w) (A.under (.builtin id args)) (b args) (fun fin s' => match fin with | .done f => R (.ok f) s' | .again c' => c'.quiet = true ∧ codeC (model Pr w) A c' R s') (fun e s' => R (.error e) s') s) :
    codeC (model Pr w) A (.builtin id args) R s := by
  refine codeC_of_tree ?_
  show wpC _ _ (match entryFor table id with | some b => b args | none => unsupported ((withoutEnding? id "#data").getD id)) _ _ s
  rw [hb]; exact h
theorem codeC_callbi {id : String} {args : Args} {b : Builtin} {R : Result → Shared → Prop} (hb : entryFor table id = some b) (hp : plainId id = true) (hq : checkBuiltinCall id args = pure ())
    (h : wpC (model Pr w) A.in1 (b args) (fun _ _ => False) (fun e s' => R (.error e) s') s) : codeC (model Pr w) A (.call (.builtin id) args) R s := by
  refine codeC_of_tree ?_
  show wpC _ A.in1 (do checkBuiltinCall id args; again (.builtin id args)) _ _ s
  rw [hq]
  refine wpC_first (wpAny_pure (wpC_pure ⟨plainId_quiet hp _, codeC_bu hb ?_⟩))
  rw [Around.under_plainId hp]
  exact wpC_mono h (fun _ _ f => f.elim) fun _ _ e => e
theorem typeCallC {a b : Value} {E : Value → Shared → Prop} (h : wpC (model Pr w) A (call (.builtin "int.__new__") [.type "int", a, b]) (fun _ _ => False) E s) :
    wpC (model Pr w) A (Builtin.«type.__call__» ⟨[.type "int", a, b], []⟩) (fun _ _ => False) E s := by
  unfold Builtin.«type.__call__»
  dsimp only
  rw [if_neg (by decide)]
  rw [if_neg (by have := F.called_int.canCreate; simpa using this)]
  refine wpC_first (wpAny_of_eq (typeCall2 _ _) ?_)
  refine wpC_first (wpAny_of_eq F.mro_int ?_)
  rw [if_neg (by decide)]
  refine wpC_first (wpAny_of_eq F.called_int.made ?_)
  dsimp only
  refine wpC_first (wpAny_pure ?_)
  exact wpC_bind (wpC_holding (wpC_mono h (fun _ _ f => f.elim) fun _ _ e => e))
theorem int_bad {Q : Value → Shared → Prop} (hh : A.handled = none) (hx : x.length ≤ 600) (hc : ∀ c ∈ x.cps.toList, 0 < c ∧ c < 128) (hn : PySem.intText? x = none)
    (h : ∀ h' e k m, Heap.MadeExc s.heap h' e "ValueError" [m] → E (.ref e) { s with heap := h', toks := k }) :
    wpC (model Pr w) A (call (.type "int") [.str x t, .int 10 u]) Q E s := by
  obtain ⟨hs, hr⟩ := bad_of hx hc hn
  refine wpC_call (codeC_of_tree ?_)
  show wpC _ _ (callAny (.type "int") _) _ _ _
  refine wpC_pure ⟨Code.quiet_builtin _ (by decide +kernel), codeC_bu F.entry_type_call ?_⟩
  rw [Around.under_plain (weight_type_call_type "int" _ []) (units_type_call_type "int" _ [])]
  refine wpC_mono (typeCallC (E := E) (wpC_call (codeC_callbi F.entry_int_new F.called_int.plain (newCall2 _ _) ?_))) (fun _ _ f => f.elim) fun _ _ e => e
  exact wpC_mono (new_bad (E := E) (Q := fun _ _ => False) hh hx (fun c hcm => Nat.lt_trans (hc c hcm).2 (by decide)) hs hr h) (fun _ _ f => f) fun _ _ e => e
end
theorem gives_int2 {x : Str} {t u : Tok} {n : Int} (hl : x.length ≤ 640) (hn : PySem.intText? x = some n) : Gives (Builtin.«int.__new__» ⟨[.type "int", .str x t, .int 10 u], []⟩) (.int n) :=
  .of_wp fun M A E s Q h => by
    have hs : (numSeenOf x).length ≤ 640 := Nat.le_trans (seen_length x) hl
    have hr : (int_private% "readNumeral") 0 10 (numSeenOf x) = (int_private% "Numeral.value") n ∧ ((numSeenOf x).length == (numTextOf x).length) = true := by
      rcases read0 x hs with ⟨m, h1, h2, h3⟩ | ⟨h1, _⟩
      · rw [hn] at h1
        injection h1 with h1
        subst h1
        exact ⟨h3, h2⟩
      · rw [hn] at h1
        cases h1
    unfold Builtin.«int.__new__»
    dsimp only
    refine wpAny_bind (wpAny_of_eq (a := true) rfl ?_)
    rw [if_neg (by decide)]
    refine wpAny_bind (wpAny_of_eq F.conv_sub_int ?_)
    rw [if_neg (by decide)]
    refine wpAny_bind (wpAny_of_eq F.madeHere_int ?_)
    rw [if_neg (by simp), if_neg (by simp)]
    refine wpAny_bind (wpAny_of_eq (a := PUnit.unit) rfl ?_)
    refine wpAny_bind (m := Builtin.Int.intIndex "int.__new__" (.int 10 u)) (wpAny_of_eq (a := 10) rfl ?_)
    rw [if_neg (by decide)]
    refine wpAny_bind (m := (int_private% "numeralText?") (.str x t)) (wpAny_of_eq (a := some (numTextOf x)) rfl ?_)
    dsimp only
    refine wpAny_bind (KIN.wp_text hs hr.1 hr.2 ?_)
    rw [if_pos (by decide)]
    exact wpAny_pure ⟨_, rfl, h⟩
theorem int_ok {w : World} {A : Around} {E : Value → Shared → Prop} {s : Shared} {Q : Value → Shared → Prop} {x : Str} {t u : Tok} {n : Int} (hl : x.length ≤ 640) (hn : PySem.intText? x = some n) (h : Q (.int n s.toks) { s with toks := s.toks + 1 }) :
    wpAny (model Pr w) A (call (.type "int") [.str x t, .int 10 u]) Q E s :=
  callType_new F.called_int F.newNe_int (typeCall2 _ _) (newCall2 _ _) (fun obj => initArgs3 obj _ _) F.entry_int_new (gives_int2 hl hn).meets (show (Made.int n).post _ s from ⟨rfl, h⟩)
end Mine
end

section
set_option autoImplicit false
set_option maxRecDepth 100000
namespace Mine
open PySem PySem.W PySem.Calls PyProof.Rows

section
variable {M : Model} {A : Around} {E : Value → Shared → Prop} {s : Shared}
/-- an exception that is new, noted in its frame, frames below known -/
theorem note_new {base : Heap} {env : Env} {outer : List Env} {L e : Addr} {oe : Obj} {vs : Array Value} {Q : Unit → Shared → Prop} (hfr : A.frames = some (env :: outer)) (hf : env.frame = some L)
    (FF : s.heap.FunFrames base (env :: outer)) (he : s.heap.get? e = some oe) (hd : oe.data = .fields vs) (h1 : vs[1]? = some .none)
    (h : ∀ h' tb (ts : Array Value), (∀ b o, b ∉ (env :: outer).filterMap (·.frame) → b ≠ e → s.heap.get? b = some o → h'.get? b = some o) → (∀ b o, b ≠ e → s.heap.get? b = some o → ∃ sl, h'.get? b = some { o with slots := sl }) →
      s.heap.get? tb = none → tb ≠ e → h'.get? e = some (oe.mapFields (·.setIfInBounds 1 (.ref tb))) → h'.get? tb = some { cls := .type "traceback", dict := none, data := .fields ts } → 3 < ts.size →
      Q () { s with heap := h' }) : wpAny M A (noteFrame (.ref e) env) Q E s := by
  have hsz : 1 < vs.size := (Array.getElem?_eq_some_iff.mp h1).1
  unfold noteFrame
  simp only [hf]
  refine wpAny_bind (wpAny_field he hd h1 ?_)
  rw [if_neg (by decide)]
  unfold PySem.frameOf
  refine wpAny_bind (wpAny_bind (wpAny_frameEnvs hfr ?_))
  have hdw : ((env :: outer).dropWhile fun x => x.frame != env.frame) = env :: outer := by simp [List.dropWhile]
  rw [hdw]
  unfold frameObject
  refine wpAny_bind (wpAny_bind (wpAny_readyFrames_fun FF fun h₁ hs₁ => wpAny_pure ?_))
  rw [hf]
  refine wpAny_pure ?_
  refine wpAny_bind (wpAny_entryPlaceOf fun pl hpl => ?_)
  unfold EntryCells.newEntry newFields
  refine wpAny_bind (wpAny_newObj_type ?_ (hpl.sizeOk5 _ _ _ _ _))
  obtain ⟨sl, he₀⟩ := hs₁.2.2 e oe he
  have hef : e ∉ (env :: outer).filterMap (·.frame) := fun hm => by
    obtain ⟨_, o, ho, hno⟩ := FF.mem hm
    rw [he] at ho; cases ho
    exact hno vs hd
  have he₁ : h₁.get? e = some oe := (hs₁.2.1 e hef).trans he
  have he₂ := Heap.get?_push_of_some (h := h₁) { cls := .type "traceback", dict := none, data := .fields ([Value.none, .ref L, .none, rawInt L, .none] ++ (if pl.isEmpty then List.replicate 6 Value.none else pl)).toArray } he₁
  refine wpAny_setField he₂ hd hsz ?_
  have hTe : h₁.objs.size ≠ e := Nat.ne_of_gt (Heap.lt_size he₁)
  have hd₃ := Obj.data_mapFields hd (·.setIfInBounds 1 (Value.ref h₁.objs.size))
  refine h _ h₁.objs.size ([Value.none, .ref L, .none, rawInt L, .none] ++ (if pl.isEmpty then List.replicate 6 Value.none else pl)).toArray (fun b o hb hbe hbo => ?_) (fun b o hbe hbo => ?_) (Heap.get?_none_of_le (by rw [hs₁.1]; exact Nat.le_refl _)) hTe (Heap.get?_update_self _ he₂ (Obj.isFreed_of_fields hd₃)) ?_ ?_
  · rw [Heap.get?_update_other _ _ (Ne.symm hbe)]
    exact Heap.get?_push_of_some _ ((hs₁.2.1 b hb).trans hbo)
  · obtain ⟨sl, e1⟩ := hs₁.2.2 b o hbo
    refine ⟨sl, ?_⟩
    rw [Heap.get?_update_other _ _ (Ne.symm hbe)]
    exact Heap.get?_push_of_some _ e1
  · rw [Heap.get?_update_other _ _ (Ne.symm hTe)]
    exact Heap.get?_push_size h₁ rfl
  · simp
end
end Mine
end

section
set_option autoImplicit false
set_option maxRecDepth 100000
namespace Mine
open PySem PySem.W PySem.Calls PyProof.Rows

/-- what stands in a made version: a number or a text -/
abbrev VI := Int ⊕ List Nat
noncomputable def VI.is : VI → Value → Prop
  | .inl n, v => ∃ t, v = .int n t
  | .inr x, v => ∃ t, v = .str (S x) t
inductive VAre : List Value → List VI → Prop
  | nil : VAre [] []
  | cons {v : Value} {x : VI} {vs : List Value} {xs : List VI} : x.is v → VAre vs xs → VAre (v :: vs) (x :: xs)
theorem VAre.append {vs ws : List Value} {xs ys : List VI} (h : VAre vs xs) (h' : VAre ws ys) : VAre (vs ++ ws) (xs ++ ys) := by
  induction h with
  | nil => exact h'
  | cons hx _ ih => exact .cons hx ih
theorem VAre.length {vs : List Value} {xs : List VI} (h : VAre vs xs) : vs.length = xs.length := by
  induction h with
  | nil => rfl
  | cons _ _ ih => simp [ih]

noncomputable def stageEs (P : Params) : Array DictEntry := match (MineH.hd.heap_39 P).lookup 54 with
  | some ⟨_, _, .dict es _, _⟩ => es
  | _ => #[]
noncomputable def stage (P : Params) (x : List Nat) : Int := match findBy Value.isStrOf (stageEs P) (S x) with
  | some (.int n _) => n
  | _ => 0
noncomputable def skips (x : List Nat) : Bool := Txt.contains (S [46, 95, 43, 45]) (S x)
noncomputable def verItem (P : Params) (x : List Nat) : List VI :=
  if skips x = true then [] else match PySem.intText? (S x) with
    | some n => [.inl 100, .inl n]
    | none => [.inl (stage P x), .inr x]
noncomputable def verL (P : Params) (l : List Nat) : List VI := (split3 l l.length 0).flatMap (verItem P)

theorem stage_ints (P : Params) : ((stageEs P).toList.all fun e => match e.val with | .int .. => true | _ => false) = true := by rfl
theorem stage_val (P : Params) (x : List Nat) (u : Tok) : ∃ t, (findBy Value.isStrOf (stageEs P) (S x)).getD (.int 0 u) = .int (stage P x) t := by
  unfold stage
  cases hf : findBy Value.isStrOf (stageEs P) (S x) with
  | none => exact ⟨u, rfl⟩
  | some v =>
    unfold findBy at hf
    obtain ⟨e, he, rfl⟩ := Option.map_eq_some_iff.mp hf
    have hm := Array.mem_of_find?_eq_some he
    have := List.all_eq_true.mp (stage_ints P) e (Array.mem_toList_iff.mpr hm)
    cases hv : e.val <;> rw [hv] at this <;> first | (cases this; done) | exact ⟨_, rfl⟩
theorem stage_keys (P : Params) : KeysLit P (stageEs P).toList := by
  repeat (first | exact True.intro | refine And.intro ⟨_, _, rfl, rfl⟩ ?_)
theorem stage_get {w : World} {A : Around} {E : Value → Shared → Prop} {s : Shared} {Q : Value → Shared → Prop} {x : List Nat} {t u : Tok} (X : (KF w).In s.heap) (h : ∀ t', Q (.int (stage w.params x) t') { s with toks := s.toks + 1 }) :
    wpAny (model Pr w) A (call (.builtin "dict.get") [.ref 54, .str (S x) t, .int 0 u]) Q E s := by
  have hl : (KF w).lookup 54 = some ⟨.type "dict", none, .dict (stageEs w.params) 10, #[]⟩ := by rfl
  have hm := mapOf_K (prog := Pr) (w := w) X hl (stage_keys w.params)
  obtain ⟨t', ht⟩ := stage_val w.params x u
  refine wpAny_call (codeAny_call_builtin F.slot_dict_get.plain F.entry_dict_get (F.slot_dict_get.check _ _ _ _ _ _ _ _ ⟨_, X 54 _ hl, rfl⟩ (F.args_dict_get_3 _ _ _) ?_))
  refine meets_dict_get_default (prog := Pr) (w := w) (PySem.strKind Pr w) 54 (strKind_is Pr w (S x) t) (by decide) (.int 0 u) A (wants Q E) s ⟨_, hm, ?_⟩
  show Q ((findBy Value.isStrOf (stageEs w.params) (S x)).getD (.int 0 u)) _
  rw [ht]; exact h t'
end Mine
end

section
set_option autoImplicit false
set_option maxRecDepth 100000
namespace Mine
open PySem PySem.W PySem.Calls PyProof.Rows

section
variable {M : Model} {A : Around} {E : Value → Shared → Prop} {s : Shared} {name : Str} {scope : Scope} {L a : Addr} {cd : Value} {g : Heap} {m : Str → Option Value}
theorem stB {x : Str} {v : Value} {Q : Unit → Shared → Prop} (F : Fr g L s.heap m)
    (h : ∀ h', Fr g L h' (fun y => if y = x then some v else m y) → Heap.SameBut L s.heap h' → Q () { s with heap := h', toks := s.toks + 1 })
    (hk : scope.kind = .function := by rfl) (hl : (envOf name scope L a cd).kindOf x = some .local := by rfl) :
    wpAny M A (storeName (envOf name scope L a cd) x v) Q E s :=
  wpAny_storeName_local hl F.ns (fun h' hn hs => h h' (F.set hn hs) hs)
    (by show (scope.kind == .class || (scope.kind == .module && L != mainGlobals)) = false; rw [hk]; rfl)
end

/-- between a turn's beginning h1 and now: only the frame, the list and the caller's frame (its marks) have moved -/
structure TS (g : Heap) (L D Lw : Addr) (mw : Str → Option Value) (h1 : Heap) (m : Str → Option Value) (vs : Array Value) (h : Heap) : Prop where
  ext : ∀ b o, b ≠ L → b ≠ D → b ≠ Lw → h1.get? b = some o → h.get? b = some o
  fr : Fr g L h m
  d : ∃ kk, h.get? D = some { cls := .type "list", data := .seq vs kk }
  lw : h.Ns Lw mw
section
variable {g h1 h h' : Heap} {L D Lw : Addr} {mw m m' : Str → Option Value} {vs vs' : Array Value}
theorem TS.store (T : TS g L D Lw mw h1 m vs h) (hLD : D ≠ L) (hLw : Lw ≠ L) (F : Fr g L h' m') (hs : Heap.SameBut L h h') : TS g L D Lw mw h1 m' vs h' where
  ext := fun b o h1' h2 h3 e => (hs.2 b h1').trans (T.ext b o h1' h2 h3 e)
  fr := F
  d := let ⟨kk, e⟩ := T.d; ⟨kk, (hs.2 D hLD).trans e⟩
  lw := T.lw.sameBut hs hLw
theorem TS.grow (T : TS g L D Lw mw h1 m vs h) (k : ∀ b o, h.get? b = some o → h'.get? b = some o) : TS g L D Lw mw h1 m vs h' where
  ext := fun b o a1 a2 a3 e => k b o (T.ext b o a1 a2 a3 e)
  fr := ⟨T.fr.ns.keeps k, fun b o e => k b o (T.fr.keep b o e), T.fr.above⟩
  d := let ⟨kk, e⟩ := T.d; ⟨kk, k _ _ e⟩
  lw := T.lw.keeps k
theorem TS.list (T : TS g L D Lw mw h1 m vs h) (hLD : D ≠ L) (hLw : Lw ≠ D) (hg : g.get? D = none) (hs : Heap.SameBut D h h') {kk : Nat} (e : h'.get? D = some { cls := .type "list", data := .seq vs' kk }) : TS g L D Lw mw h1 m vs' h' where
  ext := fun b o a1 a2 a3 e => (hs.2 b a2).trans (T.ext b o a1 a2 a3 e)
  fr := ⟨T.fr.ns.sameBut hs (Ne.symm hLD), fun b o e => (hs.2 b (fun q => by rw [q, hg] at e; cases e)).trans (T.fr.keep b o e), T.fr.above⟩
  d := ⟨kk, e⟩
  lw := T.lw.sameBut hs hLw
theorem ns_slots {a : Addr} (hn : h.Ns a m) (hs : ∀ b o, h.get? b = some o → (∀ vs, o.data ≠ .fields vs) → ∃ sl, h'.get? b = some { o with slots := sl }) : h'.Ns a m := by
  obtain ⟨o, es, ep, ho, hd, hk, hf⟩ := hn
  obtain ⟨sl, e⟩ := hs a o ho (fun vs => by rw [hd]; nofun)
  exact ⟨_, es, ep, e, hd, hk, hf⟩
end

theorem ve_exc : isSubtype (.type "ValueError") (.type "BaseException") = pure true := by rw [isSubtype_type]; kernel_rfl
theorem ve_tup : isSubtype (.type ((Manifest.find? "ValueError").elim "type" fun x => x.metatype)) (.type "tuple") = pure false := by
  rw [show ((Manifest.find? "ValueError").elim "type" fun x => x.metatype) = "type" from by decide +kernel, isSubtype_type]; kernel_rfl
theorem ve_sub : isSubtype (.type "ValueError") (.type "ValueError") = pure true := by rw [isSubtype_type]; kernel_rfl
section
variable {w : World} {A : Around} {E : Value → Shared → Prop} {s : Shared} {p : Program} {loose : List Str} {mg mb mw m : Str → Option Value} {name : Str} {scope : Scope} {L D Lw a e : Addr} {cd : Value} {g h0 h1 : Heap} {vs : Array Value}
theorem TS.tb {h' h'' : Heap} {tb : Addr} (T : TS g L D Lw mw h1 m vs h') (ht : h1.get? tb = none) (hg : g.get? tb = none) (h1' : tb ≠ L) (h2' : tb ≠ D) (h3' : tb ≠ Lw) (hs : Heap.SameBut tb h' h'') : TS g L D Lw mw h1 m vs h'' where
  ext := fun b o a1 a2 a3 e => (hs.2 b (fun q => by rw [q, ht] at e; cases e)).trans (T.ext b o a1 a2 a3 e)
  fr := ⟨T.fr.ns.sameBut hs (Ne.symm h1'), fun b o e => (hs.2 b (fun q => by rw [q, hg] at e; cases e)).trans (T.fr.keep b o e), T.fr.above⟩
  d := let ⟨kk, e⟩ := T.d; ⟨kk, (hs.2 D (Ne.symm h2')).trans e⟩
  lw := T.lw.sameBut hs (Ne.symm h3')
theorem caught {envw : Env} {b₀ : Stmt} {suite : List Stmt} {pt pos : Pos} {mm : Value} {Q : Flow → Shared → Prop} (G : Gd w p loose mg mb g) (hfr : A.frames = some [envOf name scope L a cd, envw]) (hfw : envw.frame = some Lw) (hkw : envw.scope.kind ≠ .module)
    (hk : scope.kind = .function) (hve : (envOf name scope L a cd).kindOf (Str.ofString "ValueError") = some .globalImplicit) (hgw : g.get? Lw = none) (hDw : D ≠ Lw) (hDL : D ≠ L)
    (T : TS g L D Lw mw h1 m vs h0) (hm : Heap.MadeExc h0 s.heap e "ValueError" [mm])
    (h : ∀ h', TS g L D Lw mw h1 m vs h' → wpAny (model Pr w) (A.mark (some (.ref e))) (execs (b₀ :: suite) (envOf name scope L a cd)) Q No { s with heap := h' }) :
    wpAny (model Pr w) A (noteFrame (.ref e) (envOf name scope L a cd)) (fun _ s₂ => wpAny (model Pr w) A (setFlight (.ref e) none) (fun _ s₃ => wpAny (model Pr w) A (handleBy (.ref e) (envOf name scope L a cd)
      [.ExceptHandler (some (.Name (Str.ofString "ValueError") pt)) none (b₀ :: suite) pos]) Q E s₃) E s₂) E s := by
  have T0 := T.grow hm.keeps
  obtain ⟨tt, he, htt, _⟩ := hm.there
  have hgL : g.get? L = none := Heap.get?_none_of_le T.fr.above
  obtain ⟨oL, esL, epL, hoL, hdL, _⟩ := T0.fr.ns
  obtain ⟨oW, esW, epW, hoW, hdW, _⟩ := T0.lw
  have FF : s.heap.FunFrames g [envOf name scope L a cd, envw] := ⟨by show scope.kind ≠ .module; rw [hk]; decide, ⟨L, oL, rfl, hgL, hoL, fun vs => by rw [hdL]; nofun⟩, hkw, ⟨Lw, oW, hfw, hgw, hoW, fun vs => by rw [hdW]; nofun⟩, trivial⟩
  have hne : ∀ b o, h0.get? b = some o → b ≠ e := fun b o eb q => by rw [q, hm.new] at eb; cases eb
  have hfs : [envOf name scope L a cd, envw].filterMap (·.frame) = [L, Lw] := by simp [envOf, hfw]
  have hLe : L ≠ e := by obtain ⟨o, _, _, ho, _⟩ := T.fr.ns; exact hne _ _ ho
  have hWe : Lw ≠ e := by obtain ⟨o, _, _, ho, _⟩ := T.lw; exact hne _ _ ho
  have hDe : D ≠ e := by obtain ⟨kk, ho⟩ := T.d; exact hne _ _ ho
  refine note_new (base := g) hfr rfl FF he rfl rfl fun h' tb ts k1 k2 htb htbe he' htb' hsz => ?_
  rw [hfs] at k1
  have k2' : ∀ b o, s.heap.get? b = some o → (∀ vs, o.data ≠ .fields vs) → ∃ sl, h'.get? b = some { o with slots := sl } := fun b o eb hnf => k2 b o (fun q => by rw [q, he] at eb; cases eb; exact hnf _ rfl) eb
  have T1 : TS g L D Lw mw h1 m vs h' :=
    { ext := fun b o a1 a2 a3 eb => k1 b o (by simp [a1, a3]) (hne b o (T.ext b o a1 a2 a3 eb)) (T0.ext b o a1 a2 a3 eb)
      fr := ⟨ns_slots T0.fr.ns k2', fun b o eb => k1 b o (by
          have : b ≠ L := fun q => by rw [q, hgL] at eb; cases eb
          have : b ≠ Lw := fun q => by rw [q, hgw] at eb; cases eb
          simp [*]) (hne b o (T.fr.keep b o eb)) (T0.fr.keep b o eb), T.fr.above⟩
      d := let ⟨kk, eb⟩ := T0.d; ⟨kk, k1 D _ (by simp [hDL, hDw]) hDe eb⟩
      lw := ns_slots T0.lw k2' }
  have hlt : ∀ b o, h0.get? b = some o → tb ≠ b := fun b o eb q => by rw [q, hm.keeps b o eb] at htb; cases htb
  have htL : tb ≠ L := by obtain ⟨o, _, _, ho, _⟩ := T.fr.ns; exact hlt _ _ ho
  have htW : tb ≠ Lw := by obtain ⟨o, _, _, ho, _⟩ := T.lw; exact hlt _ _ ho
  have htD : tb ≠ D := by obtain ⟨kk, ho⟩ := T.d; exact hlt _ _ ho
  have ht1 : h1.get? tb = none := by
    cases q : h1.get? tb with
    | none => rfl
    | some o => exact absurd rfl (hlt tb o (T.ext tb o htL htD htW q))
  have htg : g.get? tb = none := by
    cases q : g.get? tb with
    | none => rfl
    | some o => exact absurd rfl (hlt tb o (T.fr.keep tb o q))
  refine wpAny_setFlight_none he' rfl rfl htb' rfl hsz ?_
  have T2 := T1.tb ht1 htg htL htD htW (Heap.SameBut.update h' tb (Obj.mapFields (·.setIfInBounds 3 .none)))
  have he2 := (Heap.get?_update_other h' (Obj.mapFields (·.setIfInBounds 3 Value.none)) htbe).trans he'
  have htb2 := Heap.get?_update_self (h := h') (Obj.mapFields (·.setIfInBounds 3 Value.none)) htb' rfl
  refine wpAny_handleBy_builtin (X := "ValueError") (T := "ValueError") (b := true) ve_exc ve_tup ve_sub ?_
  refine name_B T2.fr G.K G.T (v := .type "ValueError") (by rfl) (by kernel_rfl) (by decide) ⟨rfl, ⟨_, he2, rfl⟩, ?_⟩ hk hve (by decide)
  rw [if_pos rfl]
  refine wpAny_setFlight_none he2 rfl rfl htb2 rfl (by simpa using hsz) ?_
  have T3 := T2.tb ht1 htg htL htD htW (Heap.SameBut.update _ tb (Obj.mapFields (·.setIfInBounds 3 .none)))
  exact wpAny_mono (h _ T3) (fun _ _ x => x) fun _ _ x => x.elim
end
end Mine
end

section
set_option autoImplicit false
namespace Mine
open PySem PySem.W PySem.Calls PyProof.Rows
noncomputable def okCh (c : Nat) : Prop := 0 < c ∧ c < 128
theorem split3_mem (l : List Nat) : ∀ (n start : Nat) (x : List Nat), x ∈ split3 l n start → x.length ≤ l.length ∧ ∀ c ∈ x, c ∈ l := by
  have tk : ∀ (a b : Nat), ((l.drop a).take b).length ≤ l.length ∧ ∀ c ∈ (l.drop a).take b, c ∈ l := fun a b =>
    ⟨by simp; omega, fun c hc => List.mem_of_mem_drop (List.mem_of_mem_take hc)⟩
  have dr : ∀ (a : Nat), (l.drop a).length ≤ l.length ∧ ∀ c ∈ l.drop a, c ∈ l := fun a => ⟨by simp, fun c hc => List.mem_of_mem_drop hc⟩
  intro n
  induction n with
  | zero => intro start x hx; simp [split3] at hx; subst hx; exact dr _
  | succ n ih =>
    intro start x hx
    simp only [split3] at hx
    cases hs : srch3 l start with
    | none => rw [hs] at hx; simp at hx; subst hx; exact dr _
    | some ab =>
      obtain ⟨a, b⟩ := ab
      rw [hs] at hx
      simp only [List.mem_cons] at hx
      rcases hx with rfl | rfl | hx
      · exact tk _ _
      · exact tk _ _
      · exact ih _ _ hx
theorem strsAre_get {vs : List Value} {zs : List Str} (h : StrsAre vs zs) : ∀ (ys : List (List Nat)), zs = ys.map S → ∀ (i : Nat) (v : Value), vs[i]? = some v → ∃ x t, ys[i]? = some x ∧ v = .str (S x) t := by
  induction h with
  | nil => intro ys _ i v hv; cases hv
  | cons y t _ ih =>
    intro ys hz i v hv
    cases ys with
    | nil => cases hz
    | cons z ys =>
      injection hz with h1 h2
      subst h1
      cases i with
      | zero => injection hv with hv; exact ⟨z, t, rfl, hv.symm⟩
      | succ i => exact ih ys h2 i v (by simpa using hv)
theorem neOf {h : Heap} {a b : Addr} {o : Obj} (ha : h.get? a = some o) (hb : h.get? b = none) : a ≠ b := fun q => by rw [q, hb] at ha; cases ha
section
variable {g h1 h2 h : Heap} {L D Lw : Addr} {mw m : Str → Option Value} {vs : Array Value}
theorem TS.base (T : TS g L D Lw mw h2 m vs h) (k : ∀ b o, b ≠ L → b ≠ D → b ≠ Lw → h1.get? b = some o → h2.get? b = some o) : TS g L D Lw mw h1 m vs h where
  ext := fun b o a1 a2 a3 e => T.ext b o a1 a2 a3 (k b o a1 a2 a3 e)
  fr := T.fr
  d := T.d
  lw := T.lw
theorem TS.next {h' : Heap} {I : Addr} (T : TS g L D Lw mw h1 m vs h) (k : ∀ b o, b ∉ [I] → h.get? b = some o → h'.get? b = some o) (h1n : h1.get? I = none) (hg : g.get? I = none) (iL : L ≠ I) (iD : D ≠ I) (iW : Lw ≠ I) : TS g L D Lw mw h1 m vs h' where
  ext := fun b o a1 a2 a3 e => k b o (by simp; intro q; rw [q, h1n] at e; cases e) (T.ext b o a1 a2 a3 e)
  fr := ⟨T.fr.ns.at fun o e => k _ o (by simpa using iL) e, fun b o e => k b o (by simp; intro q; rw [q, hg] at e; cases e) (T.fr.keep b o e), T.fr.above⟩
  d := let ⟨kk, e⟩ := T.d; ⟨kk, k _ _ (by simpa using iD) e⟩
  lw := T.lw.at fun o e => k _ o (by simpa using iW) e
end
theorem flatMap_take_succ {α β : Type} (l : List α) (f : α → List β) {i : Nat} {x : α} (h : l[i]? = some x) : (l.take (i + 1)).flatMap f = (l.take i).flatMap f ++ f x := by
  rw [List.take_add_one, h]; simp
end Mine
end

section
set_option autoImplicit false
set_option maxRecDepth 100000
set_option maxHeartbeats 1000000
namespace Mine
open PySem PySem.W PySem.Calls PyProof.Rows

theorem sbl_str : Str.ofString "._+-" = S [46, 95, 43, 45] := by decide +kernel
theorem ver_call {w : World} {A : Around} {E : Value → Shared → Prop} {s : Shared} {p : Program} {loose : List Str} {mg mb mw : Str → Option Value} {g : Heap} {Lw : Addr} {envw : Env} {l : List Nat} {tk : Tok} {Q : Value → Shared → Prop}
    (G : Gd w p loose mg mb g) (Fw : Fr g Lw s.heap mw) (hroom : A.depth < recursionLimit) (hh : A.handled = none) (hfr : A.frames = some [envw]) (hfw : envw.frame = some Lw) (hkw : envw.scope.kind ≠ .module)
    (hl : l.length ≤ 500) (hc : ∀ c ∈ l, okCh c)
    (h_1 : ∀ h' k D vs kk, (∀ b o, b ≠ Lw → s.heap.get? b = some o → h'.get? b = some o) → Fr g Lw h' mw → s.heap.get? D = none → h'.get? D = some { cls := .type "list", data := .seq vs kk } → VAre vs.toList (verL w.params l) →
      Q (.ref D) { s with heap := h', toks := k }) : wpC (model Pr w) A (call (.ref 61) [.str (S l) tk]) Q E s := by
  have G' := G.keeps Fw.keep
  refine call_fnC G' (f := 61) (binds := [(Str.ofString "version", .str (S l) tk)]) (by rfl) (by rfl) hroom (by rfl) (by rfl) (by rfl) (by rfl) (by rfl) (by decide) fun L h₁ hL F₁ => ?_
  have hLw : Lw < s.heap.objs.size := Fw.ns.lt
  have hgs : g.objs.size ≤ Lw := Fw.above
  have F : Fr g L h₁ _ := ⟨F₁.ns, fun b o e => F₁.keep b o (Fw.keep b o e), hL ▸ Nat.le_trans hgs (Nat.le_of_lt hLw)⟩
  have X := G.K
  have T := G.T
  have hLwL : Lw ≠ L := fun q => by rw [q, hL] at hLw; exact Nat.lt_irrefl _ hLw
  refine wpC_execs_cons (wpC_of (wpAny_Assign_Name (name_K F X T (v := .ref 53) (by rfl) (stB F fun h₂ F₂ sb₂ => ?_))))
  dsimp only
  refine wpC_execs_cons (wpC_of (wpAny_Assign_Name (List_ (args_nil (wpAny_newList ?_)))))
  refine stB (F₂.push _) fun h₃ F₃ sb₃ => ?_
  dsimp only
  have hD3 : h₃.get? h₂.objs.size = some { cls := .type "list", data := .seq #[] } := by
    refine (sb₃.2 _ ?_).trans (Heap.get?_push_size _ rfl)
    have := F₂.ns.lt
    exact fun q => by rw [q] at this; exact Nat.lt_irrefl _ this
  have hsz2 : s.heap.objs.size ≤ h₂.objs.size := by have := F₂.ns.lt; rw [hL] at this; exact Nat.le_of_lt this
  refine wpC_execs_cons (wpC_For (wpC_of (MethodCall_ (ld F₃ (by rfl) ?_))))
  refine getMethod_builtin (T := "re.Pattern") ⟨_, F₃.keep _ _ (X 53 _ (by rfl)), rfl⟩ attrs_pat slot_split type_split (fun a e => by cases e; exact ⟨_, F₃.keep _ _ (X 53 _ (by rfl)), rfl⟩) ?_
  refine callWith_method1 (args_cons (ld F₃ (by rfl) (args_nil ?_)))
  refine split_wp (l := l) (by omega) (X.keeps F₃.keep) fun DL h₄ k₄ items hDL hDL' hit kp₄ => ?_
  refine wpAny_pyIter_list ⟨_, hDL', rfl, _, rfl⟩ ?_
  dsimp only
  generalize hI : h₄.objs.size = I
  generalize hD : h₂.objs.size = D at *
  generalize hh₅ : h₄.push _ = h₅
  have kp5 : ∀ b o, h₄.get? b = some o → h₅.get? b = some o := fun b o e => hh₅ ▸ Heap.get?_push_of_some _ e
  have kp0 : ∀ b o, s.heap.get? b = some o → h₃.get? b = some o := fun b o e => by
    have bL : b ≠ L := fun q => by rw [q, hL, Heap.get?_none_of_le (Nat.le_refl _)] at e; cases e
    exact (sb₃.2 b bL).trans (Heap.get?_push_of_some _ ((sb₂.2 b bL).trans (F₁.keep b o e)))
  have h4I : h₄.get? I = none := hI ▸ Heap.get?_none_of_le (Nat.le_refl _)
  have sI : s.heap.get? I = none := by
    cases q : s.heap.get? I with
    | none => rfl
    | some o => have := kp₄ _ _ (kp0 _ _ q); rw [h4I] at this; cases this
  have gI : g.get? I = none := by
    cases q : g.get? I with
    | none => rfl
    | some o => have := Fw.keep _ _ q; rw [sI] at this; cases this
  have sD : s.heap.get? D = none := Heap.get?_none_of_le hsz2
  have gD : g.get? D = none := by
    cases q : g.get? D with
    | none => rfl
    | some o => have := Fw.keep _ _ q; rw [sD] at this; cases this
  obtain ⟨oW, _, _, hoW, _⟩ := Fw.ns
  obtain ⟨oL, _, _, hoL, _⟩ := F₃.ns
  have WI : Lw ≠ I := neOf hoW sI
  have WD : Lw ≠ D := neOf hoW sD
  have LI : L ≠ I := neOf (kp₄ _ _ hoL) h4I
  have DI : D ≠ I := neOf (kp₄ _ _ hD3) h4I
  have LDL : L ≠ DL := neOf hoL hDL
  have DDL : D ≠ DL := neOf hD3 hDL
  have WDL : Lw ≠ DL := neOf (kp0 _ _ hoW) hDL
  have IDL : DL ≠ I := neOf hDL' h4I
  have LD : D ≠ L := fun q => by have := F₂.ns.lt; rw [hD, q] at this; exact Nat.lt_irrefl _ this
  have T5 : TS g L D Lw mw s.heap _ #[] h₅ :=
    { ext := fun b o _ _ _ e => kp5 _ _ (kp₄ _ _ (kp0 _ _ e))
      fr := ⟨F₃.ns.keeps fun b o e => kp5 _ _ (kp₄ _ _ e), fun b o e => kp5 _ _ (kp₄ _ _ (F₃.keep b o e)), F₃.above⟩
      d := ⟨_, kp5 _ _ (kp₄ _ _ hD3)⟩
      lw := Fw.ns.keeps fun b o e => kp5 _ _ (kp₄ _ _ (kp0 _ _ e)) }
  have hW := Walks.list (prog := Pr) (w := w) (A := A.deeper (envOf (Str.ofString "_comparable_version") { kind := .function, names := [(Str.ofString "version", .local), (Str.ofString "component_re", .local), (Str.ofString "result", .local), (Str.ofString "v", .local),
    (Str.ofString "t", .local), (Str.ofString "twin_re_1_platform", .globalImplicit), (Str.ofString "int", .globalImplicit), (Str.ofString "ValueError", .globalImplicit), (Str.ofString "_ver_stages", .globalImplicit)], isGenerator := false, isCoroutine := false } L 61 (.ref 60))) hh I DL IDL items.toArray
  have hlen : items.toArray.size = (split3 l l.length 0).length := by have := strsAre_len hit; simpa using this
  have hlen' := split3_len l l.length 0
  refine ⟨I, [I, DL], [I], _, _, _, fun i st => ∃ h k m vs, st = { s with heap := h, toks := k } ∧ TS g L D Lw mw s.heap m vs h ∧ m (Str.ofString "result") = some (.ref D) ∧ VAre vs.toList (((split3 l l.length 0).take i).flatMap (verItem w.params)) ∧ vs.size ≤ 2 * i,
    rfl, hW, ⟨⟨_, hh₅ ▸ hI ▸ Heap.get?_push_size _ rfl, rfl, rfl⟩, ⟨_, kp5 _ _ hDL', rfl, _, rfl⟩⟩, ⟨_, _, _, _, rfl, T5, by rfl, by simpa using VAre.nil, by simp⟩, ?_, ?_⟩
  · intro i v st h' tk' hi hP hJ hst' hk'
    obtain ⟨h, k, m, vs, rfl, TJ, hm, hva, hvz⟩ := hJ
    obtain ⟨x, tx, hx, rfl⟩ := strsAre_get hit _ rfl i v (by simpa using hP)
    have TN := TJ.next hk' sI gI LI DI WI
    have T0 : TS g L D Lw mw h' m vs h' := { ext := fun _ _ _ _ _ e => e, fr := TN.fr, d := TN.d, lw := TN.lw }
    obtain ⟨hxl, hxc⟩ := split3_mem l _ _ x (List.mem_of_getElem? hx)
    have fin : ∀ h'' k'' m'' (vs'' : Array Value), TS g L D Lw mw h' m'' vs'' h'' → m'' (Str.ofString "result") = some (.ref D) → VAre vs''.toList (((split3 l l.length 0).take i).flatMap (verItem w.params) ++ verItem w.params x) → vs''.size ≤ 2 * (i + 1) →
        (h''.IsListIter I DL (i + 1) ∧ h''.IsList DL items.toArray) ∧ ∃ h k m vs, ({ s with heap := h'', toks := k'' } : Shared) = { s with heap := h, toks := k } ∧ TS g L D Lw mw s.heap m vs h ∧ m (Str.ofString "result") = some (.ref D) ∧
          VAre vs.toList (((split3 l l.length 0).take (i + 1)).flatMap (verItem w.params)) ∧ vs.size ≤ 2 * (i + 1) := by
      intro h'' k'' m'' vs'' T'' hm'' hv'' hz''
      refine ⟨⟨hst'.1.at fun o e => T''.ext I o LI.symm DI.symm WI.symm e, hst'.2.at fun o e => T''.ext DL o LDL.symm DDL.symm WDL.symm e⟩, _, _, _, _, rfl, T''.base TN.ext, hm'', ?_, hz''⟩
      rw [flatMap_take_succ _ _ hx]; exact hv''
    refine wpC_of (wpAny_of_eq rfl (wpC_of (wpAny_assign_Name (stB T0.fr fun h₁ F₁ sb₁ => ?_))))
    have T1 := T0.store LD hLwL F₁ sb₁
    dsimp only
    refine wpC_execs_cons (wpC_If (wpAny_isTrue_Compare1 (ld F₁ (by rfl) (Constant_str (P.notIn_str (wpAny_truthy_bool ?_))))))
    have e2 : (!!(Builtin.Str.occurrences (Str.ofString "._+-") (S x) 0 (Str.ofString "._+-").length 1).isEmpty) = !skips x := by rw [sbl_str]; rfl
    rw [e2]
    cases hsk : skips x with
    | true =>
      rw [if_neg (by simp)]
      refine wpC_execs_nil (wpC_execs_nil ?_)
      refine fin _ _ _ _ T1 ?_ ?_ ?_
      · show ite _ _ _ = _; rw [if_neg (by decide)]; exact hm
      · rw [show verItem w.params x = [] from by simp [verItem, hsk], List.append_nil]; exact hva
      · omega
    | false =>
      rw [if_pos (by simp)]
      refine wpC_execs_cons (wpC_mono (Q := fun f st' => f = .next ∧ ∃ h₂ k₂ m₂ tv vv, st' = { s with heap := h₂, toks := k₂ } ∧ TS g L D Lw mw h' m₂ vs h₂ ∧ m₂ (Str.ofString "result") = some (.ref D) ∧ m₂ (Str.ofString "t") = some tv ∧ m₂ (Str.ofString "v") = some vv ∧ VAre [tv, vv] (verItem w.params x)) (E := fun _ _ => False) ?_ (fun f st' hq => ?_) fun _ _ x => x.elim)
      · refine wpC_Try ?_
        cases hn : PySem.intText? (S x) with
        | some n =>
          refine wpC_execs_cons (wpC_of (wpAny_Assign_Name (Call_ (name_B F₁ X T (v := .type "int") (by rfl) (by kernel_rfl) (by decide) (PyProof.Rows.callWith_type1 (args_cons (ld F₁ (by rfl) (args_cons (wpAny_Constant_int (args_nil ?_))))))))))
          refine int_ok (by rw [S_len]; omega) hn ?_
          refine stB F₁ fun h₂ F₂ sb₂ => ?_
          refine wpC_execs_cons (wpC_of (wpAny_Assign_Name (wpAny_Constant_int (stB F₂ fun h₃ F₃ sb₃ => ?_))))
          refine wpC_execs_nil (wpAny_execs_nil ⟨rfl, _, _, _, _, _, rfl, (T1.store LD hLwL F₂ sb₂).store LD hLwL F₃ sb₃, ?_, by rfl, by rfl, ?_⟩)
          · show ite _ _ _ = _; rw [if_neg (by decide)]; show ite _ _ _ = _; rw [if_neg (by decide)]; show ite _ _ _ = _; rw [if_neg (by decide)]; exact hm
          · rw [show verItem w.params x = [.inl 100, .inl n] from by simp [verItem, hsk, hn]]
            exact .cons ⟨_, rfl⟩ (.cons ⟨_, rfl⟩ .nil)
        | none =>
          refine wpC_execs_cons (wpC_Assign_Name (wpC_Call (name_B F₁ X T (v := .type "int") (by rfl) (by kernel_rfl) (by decide) (callWithC_type (args_cons (ld F₁ (by rfl) (args_cons (wpAny_Constant_int (args_nil ?_)))))))))
          refine int_bad hh (by rw [S_len]; omega) (fun c hcm => hc c (hxc c (by simpa [S] using hcm))) hn fun h₂ e₂ k₂ m₂ me₂ => ?_
          refine caught (g := g) (D := D) (Lw := Lw) (mw := mw) (h1 := h') (vs := vs) (h0 := h₁) G (by show (A.frames.map (_ :: ·)) = _; rw [hfr]; rfl) hfw hkw rfl rfl (Heap.get?_none_of_le hgs) WD.symm LD T1 me₂ fun h₃ T3 => ?_
          refine wpAny_execs_cons (wpAny_Assign_Name (MethodCall_ (name_K T3.fr X T (v := .ref 54) (by rfl) ?_)))
          refine getMethod_builtin (T := "dict") ⟨_, T3.fr.keep _ _ (X 54 _ (by rfl)), rfl⟩ PySem.F.plainAttrs_dict PySem.F.slot_dict_get PySem.F.type_dict_get (fun a e => by cases e; exact ⟨_, T3.fr.keep _ _ (X 54 _ (by rfl)), rfl⟩) ?_
          refine callWith_method1 (args_cons (ld T3.fr (by rfl) (args_cons (wpAny_Constant_int (args_nil ?_)))))
          refine stage_get (x := x) (X.keeps T3.fr.keep) fun t' => ?_
          refine stB T3.fr fun h₄ F₄ sb₄ => ?_
          refine wpAny_execs_nil ⟨rfl, _, _, _, _, _, rfl, T3.store LD hLwL F₄ sb₄, ?_, by rfl, by rfl, ?_⟩
          · show ite _ _ _ = _; rw [if_neg (by decide)]; show ite _ _ _ = _; rw [if_neg (by decide)]; exact hm
          · rw [show verItem w.params x = [.inl (stage w.params x), .inr x] from by simp [verItem, hsk, hn]]
            exact .cons ⟨_, rfl⟩ (.cons ⟨_, rfl⟩ .nil)
      · obtain ⟨rfl, h₂, k₂, m₂, tv, vv, rfl, T2, hm2, ht2, hv2, hva2⟩ := hq
        dsimp only
        refine wpC_execs_cons (wpC_of (wpAny_Expr (MethodCall_ (ld T2.fr hm2 ?_))))
        obtain ⟨kd, hDd⟩ := T2.d
        refine getMethod_builtin (T := "list") ⟨_, hDd, rfl⟩ PySem.F.plainAttrs_list PySem.F.slot_list_extend PySem.F.type_list_extend (fun a e => by cases e; exact ⟨_, hDd, rfl⟩) ?_
        refine callWith_method1 (args_cons (Tuple_ (args_cons (ld T2.fr ht2 (args_cons (ld T2.fr hv2 (args_nil (wpAny_newTuple (args_nil ?_) (by show 2 ≤ 16777216; decide)))))))))
        have kpt : ∀ b o, h₂.get? b = some o → (h₂.push { cls := .type "tuple", data := .seq #[tv, vv] }).get? b = some o := fun b o e => Heap.get?_push_of_some _ e
        have T3 := T2.grow kpt
        have hD3 := kpt _ _ hDd
        have hsl : sizeLine = 16777216 := by decide
        have hvz' : vs.size ≤ 2002 := by omega
        refine call_meets PySem.F.slot_list_extend ⟨_, hD3, rfl⟩ PySem.F.entry_list_extend (PySem.F.args_list_extend_2 _ _) (AutoSeq1.list_extend_list_tuple_0 D vs kd _ #[tv, vv] 0 ?_ ?_ ?_) ⟨hD3, Heap.get?_push_size _ rfl, ?_⟩
        · have : Builtin.List.listTooLong (vs.size + (#[tv, vv] : Array Value).size) = false := by simp [Builtin.List.listTooLong, hsl]; omega
          rw [this]; simp
        · rw [hsl]; omega
        · rw [hsl]; simp; omega
        · have T4 := T3.list (vs' := vs ++ #[tv, vv]) LD WD gD (Heap.SameBut.update _ D (Obj.mapSeq fun x => x ++ #[tv, vv])) (Heap.get?_update_self _ hD3 rfl)
          show wpC _ _ (execs [] _) _ _ _
          refine wpC_execs_nil (wpC_execs_nil ?_)
          refine fin _ _ _ _ T4 hm2 ?_ ?_
          · simpa using hva.append hva2
          · simp; omega
  · intro st h' tk' hJ hk'
    obtain ⟨h, k, m, vs, rfl, TJ, hm, hva, hvz⟩ := hJ
    have TN := TJ.next hk' sI gI LI DI WI
    dsimp only
    refine wpC_execs_cons (wpC_of (wpAny_Return_some (ld TN.fr hm ?_)))
    dsimp only
    obtain ⟨kd, hDd⟩ := TN.d
    refine h_1 _ _ _ _ _ (fun b o bw e => TN.ext b o ?_ ?_ bw e) ⟨TN.lw, TN.fr.keep, hgs⟩ sD hDd ?_
    · exact neOf e (hL ▸ Heap.get?_none_of_le (Nat.le_refl _))
    · exact neOf e sD
    · rw [hlen, List.take_length] at hva; exact hva
end Mine
end

section
set_option autoImplicit false
set_option maxRecDepth 100000
namespace Mine
open PySem PySem.W PySem.Calls PyProof.Rows

theorem slot_filter_next : Slot "filter" "__next__" "filter.__next__" :=
  .of (owner := "filter") (n := "__next__") (by rw [typeLookup_type, builtinLookup_eq_fast]; kernel_rfl) (by decide +kernel) (by decide +kernel) (by decide +kernel)
    (by first | exact .inl (by decide +kernel) | exact .inr (by decide +kernel)) (by rw [isSubtype_type]; kernel_rfl)
theorem entry_filter_next : entryFor table "filter.__next__" = some Builtin.«filter.__next__» := entryFor_of_tree (by kernel_rfl)
theorem args_filter_next (a : Value) : argsOk "filter.__next__" ⟨[a], []⟩ := by unfold argsOk; kernel_rfl
theorem slot_filter_iter : Slot "filter" "__iter__" "filter.__iter__" :=
  .of (owner := "filter") (n := "__iter__") (by rw [typeLookup_type, builtinLookup_eq_fast]; kernel_rfl) (by decide +kernel) (by decide +kernel) (by decide +kernel)
    (by first | exact .inl (by decide +kernel) | exact .inr (by decide +kernel)) (by rw [isSubtype_type]; kernel_rfl)
theorem args_filter_iter (a : Value) : argsOk "filter.__iter__" ⟨[a], []⟩ := by unfold argsOk; kernel_rfl
theorem entry_filter_iter : entryFor table "filter.__iter__" = some Builtin.«dict_keyiterator.__iter__» :=
  entryFor_alias (id' := "dict_keyiterator.__iter__") (by kernel_rfl) (by first | rfl | decide +kernel | (unfold String.splitOn; simp +decide [String.splitOnAux])) (by decide +kernel) (by kernel_rfl)
theorem slot_filter_init : Slot "filter" "__init__" "object.__init__" :=
  .of (owner := "object") (n := "__init__") (by rw [typeLookup_type, builtinLookup_eq_fast]; kernel_rfl) (by decide +kernel) (by decide +kernel) (by decide +kernel)
    (by first | exact .inl (by decide +kernel) | exact .inr (by decide +kernel)) (by rw [isSubtype_type]; kernel_rfl)
theorem mro_filter : mroOf (.type "filter") = pure [.type "filter", .type "object"] := by rw [mroOf_type]; kernel_rfl
theorem lookup_filter_new : typeLookup (.type "filter") "__new__" = pure (some (.builtin "filter.__new__")) := by rw [typeLookup_type, builtinLookup_eq_fast]; kernel_rfl
theorem called_filter : TypeCalled "filter" "filter.__new__" "object.__init__" :=
  ⟨by decide +kernel, by decide +kernel, ⟨_, _, mro_filter⟩, madeBy_type mro_filter lookup_filter_new (by decide +kernel), by decide +kernel, by rw [isSubtype_type]; kernel_rfl, slot_filter_init⟩
theorem typeCall_filter (a b : Value) : checkTypeCall "filter" ⟨[a, b], []⟩ = pure () := by kernel_rfl
theorem newCall_filter (a b : Value) : checkBuiltinCall "filter.__new__" ⟨[.type "filter", a, b], []⟩ = pure () := by kernel_rfl
theorem entry_filter_new : entryFor table "filter.__new__" = some Builtin.«filter.__new__» := entryFor_of_tree (by kernel_rfl)
theorem sub_filter : isSubtype (.type "filter") (.type "filter") = pure true := by rw [isSubtype_type]; kernel_rfl
theorem newClass_filter (a b : Value) : Builtin.SmallTypes.newClass "filter" ⟨[.type "filter", a, b], []⟩ = pure (.type "filter", [a, b]) := by
  unfold Builtin.SmallTypes.newClass
  simp only [isType, sub_filter, pure_bind, Bool.not_true, Bool.false_eq_true, if_false]

abbrev filtObj (I : Addr) : Obj := { cls := .type "filter", data := .fields #[.builtin "len", .ref I] }
abbrev tupIterObj (T : Addr) : Obj := { cls := .type "tuple_iterator", data := .fields #[.ref T, .int 0 0] }
theorem meets_filter_new (T : Addr) (xs : Array Value) :
    Meets (Builtin.«filter.__new__» ⟨[.type "filter", .builtin "len", .ref T], []⟩) (fun _ R s => s.heap.IsTuple T xs ∧
      R (.ok (.ret (.ref (s.heap.push (tupIterObj T)).objs.size))) { s with heap := (s.heap.push (tupIterObj T)).push (filtObj s.heap.objs.size) }) :=
  .of_wp fun prog w A R s h => by
    obtain ⟨hT, h⟩ := h
    unfold Builtin.«filter.__new__»
    refine wpAny_bind (wpAny_of_eq (newClass_filter _ _) ?_)
    dsimp only
    refine wpAny_bind (wpAny_of_eq (a := ()) (by rfl) ?_)
    refine wpAny_bind (wpAny_of_eq (a := ()) (by rfl) ?_)
    refine wpAny_bind (wpAny_pyIter_tuple hT ?_)
    unfold Builtin.SmallTypes.newRecord
    dsimp only
    refine wpAny_bind (wpAny_newObj_type (wpAny_pure ⟨_, rfl, h⟩) (by size_fits))
section
variable {prog : Program} {w : World} {A : Around} {E : Value → Shared → Prop} {s : Shared}
theorem call_filter {T : Addr} {xs : Array Value} {Q : Value → Shared → Prop} (hT : s.heap.IsTuple T xs)
    (h : ∀ h', h'.get? (s.heap.objs.size + 1) = some (filtObj s.heap.objs.size) → h'.IsTupleIter s.heap.objs.size T 0 → (∀ b o, s.heap.get? b = some o → h'.get? b = some o) → h'.objs.size = s.heap.objs.size + 2 → Q (.ref (s.heap.objs.size + 1)) { s with heap := h' }) :
    wpAny (model prog w) A (call (.type "filter") [.builtin "len", .ref T]) Q E s := by
  refine callType_new called_filter (by decide) (typeCall_filter _ _) (newCall_filter _ _) (fun obj => F.args_object_init_3 obj _ _) entry_filter_new (meets_filter_new T xs) ⟨hT, ?_⟩
  have z1 : (s.heap.push (tupIterObj T)).objs.size = s.heap.objs.size + 1 := Heap.size_push ..
  have g2 : ((s.heap.push (tupIterObj T)).push (filtObj s.heap.objs.size)).get? (s.heap.push (tupIterObj T)).objs.size = some _ := Heap.get?_push_size _ rfl
  have g1 : ((s.heap.push (tupIterObj T)).push (filtObj s.heap.objs.size)).get? s.heap.objs.size = some _ := Heap.get?_push_of_some _ (Heap.get?_push_size _ rfl)
  show _ ∧ _
  rw [z1] at g2 ⊢
  exact ⟨⟨_, g2, rfl⟩, h _ g2 ⟨_, g1, rfl, rfl⟩ (fun b o e => Heap.get?_push_of_some _ (Heap.get?_push_of_some _ e)) (by rw [Heap.size_push, z1])⟩
theorem pyIter_filter {z I : Addr} {Q : Value → Shared → Prop} (hz : s.heap.get? z = some (filtObj I)) (h : Q (.ref z) s) : wpAny (model prog w) A (pyIter (.ref z)) Q E s := by
  have hT : s.TypeIs (.ref z) "filter" := ⟨_, hz, rfl⟩
  refine wpAny_pyIter_slot hT slot_filter_iter (wpAny_call_entry slot_filter_iter hT entry_filter_iter ?_ (args_filter_iter _))
  show wpAny _ _ (ret (.ref z)) _ _ s
  exact wpAny_pure ⟨_, rfl, "filter", _, hT, slot_filter_next.lookup, h⟩
theorem tn_item {it t : Addr} {i : Nat} {items} {x : Value} {Q : Option Value → Shared → Prop} (hit : s.heap.IsTupleIter it t i)
    (ht : s.heap.IsTuple t items) (hx : items[i]? = some x) (hQ : ∀ h', h'.IsTupleIter it t (i + 1) → Heap.SameBut it s.heap h' → Q (some x) { s with heap := h' }) :
    wpAny (model prog w) A (callSpecial? (.ref it) "__next__") Q E s := by
  obtain ⟨o, ho, hc, hd⟩ := id hit
  obtain ⟨ol, hol, _, nl, hdl⟩ := ht
  refine wpAny_callSpecial?_slot (name := Str.ofString "__next__") hit.typeIs F.slot_tuple_iterator_next
    (wpAny_call_entry F.slot_tuple_iterator_next hit.typeIs F.entry_tuple_iterator_next ?_ (F.args_tuple_iterator_next_1 _))
  show wpAny _ _ (field (.ref it) 0 >>= _) _ _ s
  refine wpAny_bind (wpAny_field ho hd (x := .ref t) rfl ?_)
  show wpAny _ _ (if (Value.ref t == Value.none) = true then _ else _) _ _ s
  rw [if_neg (show ¬ ((Value.ref t == Value.none) = true) from Bool.false_ne_true)]
  show wpAny _ _ (field (.ref it) 1 >>= _) _ _ s
  refine wpAny_bind (wpAny_field ho hd (x := .int i 0) rfl ?_)
  show wpAny _ _ (seqItems? (.ref t) >>= _) _ _ s
  refine wpAny_bind (wpAny_seqItems hol hdl ?_)
  simp only [Int.toNat_natCast, hx]
  refine wpAny_bind (wpAny_setField ho hd (by simp) (wpAny_pure ⟨x, rfl, hQ _ ?_ (Heap.SameBut.update ..)⟩))
  exact ⟨_, Heap.get?_update_self _ ho (Obj.isFreed_of_fields (Obj.data_mapFields hd _)), (Obj.cls_mapFields ..).trans hc, by
    rw [Obj.data_mapFields hd]; simp [rawInt]⟩
theorem tn_end {it t : Addr} {i : Nat} {items} {Q : Option Value → Shared → Prop} (hh : A.handled = none)
    (hit : s.heap.IsTupleIter it t i) (ht : s.heap.IsTuple t items) (hx : items[i]? = none)
    (hE : ∀ h' e, Heap.ExtBut it s.heap h' → ({ s with heap := h' } : Shared).TypeIs (.ref e) "StopIteration" → E (.ref e) { s with heap := h' }) : wpAny (model prog w) A (callSpecial? (.ref it) "__next__") Q E s := by
  obtain ⟨o, ho, hc, hd⟩ := id hit
  obtain ⟨ol, hol, _, nl, hdl⟩ := ht
  refine wpAny_callSpecial?_slot (name := Str.ofString "__next__") hit.typeIs F.slot_tuple_iterator_next
    (wpAny_call_entry F.slot_tuple_iterator_next hit.typeIs F.entry_tuple_iterator_next ?_ (F.args_tuple_iterator_next_1 _))
  show wpAny _ _ (field (.ref it) 0 >>= _) _ _ s
  refine wpAny_bind (wpAny_field ho hd (x := .ref t) rfl ?_)
  show wpAny _ _ (if (Value.ref t == Value.none) = true then _ else _) _ _ s
  rw [if_neg (show ¬ ((Value.ref t == Value.none) = true) from Bool.false_ne_true)]
  show wpAny _ _ (field (.ref it) 1 >>= _) _ _ s
  refine wpAny_bind (wpAny_field ho hd (x := .int i 0) rfl ?_)
  show wpAny _ _ (seqItems? (.ref t) >>= _) _ _ s
  refine wpAny_bind (wpAny_seqItems hol hdl ?_)
  simp only [Int.toNat_natCast, hx]
  refine wpAny_bind (wpAny_rule (wpAny_bind (wpAny_setField ho hd (by simp) ?_)))
  show wpAny _ _ (newExc (.type "StopIteration") [] >>= _) _ _ _
  refine wpAny_bind ?_
  simp only [newExc, newTuple]
  refine wpAny_bind (wpAny_newObj_type ?_ (by size_fits))
  refine wpAny_bind (m := firstArgMember _ _) (wpAny_of_eq (a := Value.none) (by first | rfl | (simp only [firstArgMember]; rfl)) ?_)
  refine wpAny_newObj_type ?_ (by size_fits)
  simp only [raiseNew]
  refine wpAny_bind (wpAny_handled ?_)
  first | rw [show A.in1.handled = none from hh] | rw [hh]
  refine wpAny_bind (wpAny_pure (wpAny_throw ?_))
  exact hE _ _ (((Heap.SameBut.extBut (Heap.SameBut.update ..)).push _).push _) ⟨_, Heap.get?_push_size _ rfl, rfl⟩
end
section
variable {w : World} {A : Around} {s : Shared} {R : Result → Shared → Prop}
noncomputable def nonE (x : List Nat) : Bool := !x.isEmpty
theorem filt_code {z I T : Addr} {items : Array Value} {xs : List (List Nat)} (hh : A.handled = none) (hIT : T ≠ I) (hIz : z ≠ I) (hv : StrsAre items.toList (xs.map S)) (hlen : ∀ x ∈ xs, x.length ≤ 100000) : ∀ (n j : Nat) (s : Shared), xs.length - j = n → j ≤ xs.length →
    s.heap.get? z = some (filtObj I) → s.heap.IsTupleIter I T j → s.heap.IsTuple T items →
    (∀ x r h' t tk j', (xs.drop j).filter nonE = x :: r → (xs.drop j').filter nonE = r → j' ≤ xs.length → h'.IsTupleIter I T j' → Heap.SameBut I s.heap h' → R (.ok (.ret (.str (S x) t))) { s with heap := h', toks := tk }) →
    ((xs.drop j).filter nonE = [] → ∀ h' e tk, Heap.ExtBut I s.heap h' → ({ s with heap := h' } : Shared).TypeIs (.ref e) "StopIteration" → R (.error (.ref e)) { s with heap := h', toks := tk }) →
    codeAny (model Pr w) A (.builtin "filter.__next__" ⟨[.ref z], []⟩) R s := by
  intro n
  induction n with
  | zero =>
    intro j s hn hj hz hI hT hS hE
    refine codeAny_bi entry_filter_next slot_filter_next.plain ?_
    unfold Builtin.«filter.__next__»
    refine wpAny_bind (wpAny_of_eq (a := (Value.ref z, [])) rfl ?_)
    dsimp only
    refine wpAny_bind (wpAny_field hz rfl (x := .builtin "len") rfl ?_)
    refine wpAny_bind (wpAny_field hz rfl (x := .ref I) rfl ?_)
    have hjl : xs.length ≤ j := by omega
    refine wpAny_bind (tn_end hh hI hT ?_ fun h' e hx hTy => ?_)
    · have := strsAre_len hv
      simp at this
      simp [this]; omega
    · exact hE (by rw [List.drop_eq_nil_of_le hjl]; rfl) _ _ _ hx hTy
  | succ n ih =>
    intro j s hn hj hz hI hT hS hE
    refine codeAny_bi entry_filter_next slot_filter_next.plain ?_
    unfold Builtin.«filter.__next__»
    refine wpAny_bind (wpAny_of_eq (a := (Value.ref z, [])) rfl ?_)
    dsimp only
    refine wpAny_bind (wpAny_field hz rfl (x := .builtin "len") rfl ?_)
    refine wpAny_bind (wpAny_field hz rfl (x := .ref I) rfl ?_)
    have hjl : j < xs.length := by omega
    have hlen' := strsAre_len hv
    simp at hlen'
    obtain ⟨v, hjv⟩ : ∃ v, items[j]? = some v := ⟨items[j]'(by omega), by simp⟩
    obtain ⟨x, t, hx, rfl⟩ := strsAre_get hv _ rfl j v (by simpa using hjv)
    refine wpAny_bind (tn_item hI hT hjv fun h' hI' hs' => ?_)
    dsimp only
    have hxm : x ∈ xs := List.mem_of_getElem? hx
    have hxl := hlen x hxm
    have hd : xs.drop j = x :: xs.drop (j + 1) := by
      rw [List.drop_eq_getElem_cons hjl]
      rw [List.getElem?_eq_getElem hjl] at hx
      injection hx with hx; rw [hx]
    refine wpAny_bind (wpAny_holding ?_)
    rw [if_neg (by decide)]
    refine wpAny_bind (len_str (by rw [S_len]; omega) ?_)
    refine wpAny_holding (truthy_int ?_)
    rw [S_len]
    cases x with
    | nil =>
      rw [if_neg (by simp)]
      refine wpAny_pure ⟨plainId_quiet slot_filter_next.plain _, ?_⟩
      refine ih (j + 1) _ (by omega) (by omega) ((hs'.2 z hIz).trans hz) hI' (hT.at fun o e => (hs'.2 T hIT).trans e) ?_ ?_
      · intro x r h'' t tk j' h1 h2 h3 h4 h5
        exact hS x r h'' t tk j' (by rw [hd]; exact h1) h2 h3 h4 (hs'.trans h5)
      · intro h1 h'' e tk h2 h3
        exact hE (by rw [hd]; exact h1) h'' e tk (fun b o hb eb => h2 b o hb ((hs'.2 b hb).trans eb)) h3
    | cons c x =>
      rw [if_pos (by simp; omega)]
      exact wpAny_pure (hS (c :: x) _ h' t _ (j + 1) (by rw [hd]; rfl) rfl (by omega) hI' hs')
theorem Walks.filt {z I T : Addr} {items : Array Value} {xs : List (List Nat)} (hh : A.handled = none) (hIT : T ≠ I) (hIz : z ≠ I) (hv : StrsAre items.toList (xs.map S)) (hlen : ∀ x ∈ xs, x.length ≤ 100000) :
    Walks Pr w A z [z, I, T] [I] (xs.filter nonE).length (fun i v => ∃ x t, (xs.filter nonE)[i]? = some x ∧ v = .str (S x) t)
      (fun i h => h.get? z = some (filtObj I) ∧ h.IsTuple T items ∧ ∃ j, h.IsTupleIter I T j ∧ j ≤ xs.length ∧ (xs.drop j).filter nonE = (xs.filter nonE).drop i) where
  sub := fun b hb => by simp at hb; simp [hb]
  frame := fun _ _ _ st hk => ⟨hk z (by simp) _ st.1, st.2.1.at fun o e => hk T (by simp) o e, let ⟨j, a, b⟩ := st.2.2; ⟨j, a.at fun o e => hk I (by simp) o e, b⟩⟩
  item := fun i s Q E hi st hQ => by
    obtain ⟨hz, hT, j, hI, hj, hf⟩ := st
    have hTy : s.TypeIs (.ref z) "filter" := ⟨_, hz, rfl⟩
    unfold pyNext
    refine wpAny_bind (wpAny_attempt (wpAny_callSpecial?_slot (name := Str.ofString "__next__") hTy slot_filter_next ?_))
    refine wpAny_call (codeAny_call_builtin_code (plainId_quiet slot_filter_next.plain _) (slot_filter_next.check _ _ _ _ _ _ _ _ hTy (args_filter_next _) ?_))
    have hne : ((xs.filter nonE).drop i) = (xs.filter nonE)[i] :: (xs.filter nonE).drop (i + 1) := List.drop_eq_getElem_cons hi
    refine filt_code hh hIT hIz hv hlen _ j s rfl hj hz hI hT ?_ ?_
    · intro x r h' t tk j' h1 h2 h3 h4 h5
      rw [hf, hne] at h1
      injection h1 with h1 h1'
      show wpAny _ _ (pure (some _)) _ _ _
      exact wpAny_pure (hQ _ h' tk ⟨x, t, by rw [List.getElem?_eq_getElem hi, h1], rfl⟩ ⟨(h5.2 z hIz).trans hz, hT.at fun o e => (h5.2 T hIT).trans e, j', h4, h3, h2.trans h1'.symm⟩ fun b o hb e => h5.extBut b o (fun q => hb (by simp [q])) e)
    · intro h1
      rw [hf, hne] at h1
      cases h1
  done := fun s Q E st hQ => by
    obtain ⟨hz, hT, j, hI, hj, hf⟩ := st
    have hTy : s.TypeIs (.ref z) "filter" := ⟨_, hz, rfl⟩
    unfold pyNext
    refine wpAny_bind (wpAny_attempt (wpAny_callSpecial?_slot (name := Str.ofString "__next__") hTy slot_filter_next ?_))
    refine wpAny_call (codeAny_call_builtin_code (plainId_quiet slot_filter_next.plain _) (slot_filter_next.check _ _ _ _ _ _ _ _ hTy (args_filter_next _) ?_))
    rw [List.drop_length] at hf
    refine filt_code hh hIT hIz hv hlen _ j s rfl hj hz hI hT ?_ ?_
    · intro x r h' t tk j' h1
      rw [hf] at h1; cases h1
    · intro _ h' e tk h2 h3
      refine wpAny_bind (wpAny_isInstance (T := "StopIteration") (b := true) h3 isSubtype_stop ?_)
      exact wpAny_pure (hQ h' tk fun b o hb eb => h2 b o (fun q => hb (by simp [q])) eb)
  self := fun _ _ _ _ st hQ => pyIter_filter st.1 hQ
end
end Mine
end

section
set_option autoImplicit false
set_option maxRecDepth 100000
set_option maxHeartbeats 2000000
namespace Mine
open PySem PySem.W PySem.Calls PyProof.Rows

/-- the code table of _platform -/
noncomputable def TabP (h : Heap) : Prop := ∃ ps, h.IsCode 67 63 ps ∧ h.TableAt 67 63 ps
theorem TabP.at {h h' : Heap} (x : TabP h) (k1 : ∀ o, h.get? 67 = some o → h'.get? 67 = some o) (k2 : ∀ o, h.get? 63 = some o → h'.get? 63 = some o) : TabP h' := by
  obtain ⟨ps, a, b⟩ := x
  refine ⟨ps, ?_, ?_⟩
  · obtain ⟨o, vs, file, tf, flags, tg, inF, text, tt, op, a, r1, r2, r3, r4, r5, r6, b, r⟩ := a
    exact ⟨o, vs, file, tf, flags, tg, inF, text, tt, op, k1 _ a, r1, r2, r3, r4, r5, r6, k2 _ b, r⟩
  · obtain ⟨⟨o, vs, e, r⟩, t⟩ := b
    exact ⟨⟨o, vs, k1 _ e, r⟩, k2 _ t⟩
theorem TabP.lt {h : Heap} (x : TabP h) : 67 < h.objs.size ∧ 63 < h.objs.size := by
  obtain ⟨ps, a, b⟩ := x
  obtain ⟨⟨o, vs, e, r⟩, t⟩ := b
  exact ⟨Heap.lt_size e, Heap.lt_size t⟩
section
variable {M : Model} {A : Around} {E : Value → Shared → Prop} {s : Shared}
theorem gen_code {env : Env} {pos : Pos} {qualname : Str} {scope : Scope} {Q : Value → Shared → Prop} (hc : env.code = .ref 67) (hP : TabP s.heap)
    (hQ : ∀ cv h' tk, Heap.ExtBut 63 s.heap h' → s.heap.objs.size ≤ h'.objs.size → TabP h' → Q cv { s with heap := h', toks := tk }) : wpAny M A (genexprCode env pos qualname scope) Q E s := by
  obtain ⟨ps, a, b⟩ := id hP
  cases hf : codeAmong pos ps.toList with
  | none => exact wpAny_genexprCodeX hc a b hf fun c' h' tk h1 h2 h3 h4 _ h5 _ => hQ _ h' tk h1 (Nat.le_trans h2 (Nat.le_of_lt h3)) ⟨_, h4, h5⟩
  | some c' => exact wpAny_genexprCode_hit hc a hf (hQ c' s.heap s.toks (fun _ _ _ e => e) (Nat.le_refl _) hP)
end
theorem passing_all (n : Nat) : passing (fun _ => true) n 0 = List.range n := by simp [passing]

theorem join_ok {xs : List Str} (h1 : xs.length ≤ 1000) (h2 : ∀ x ∈ xs, x.length ≤ 1000) : JoinOk (Str.ofString "-") xs = true := by
  unfold JoinOk
  have key : ∀ (l : List Str) (n : Nat), (∀ x ∈ l, x.length ≤ 1000) → l.foldl (fun a x => a + x.length + (Str.ofString "-").length) n ≤ n + 1001 * l.length := by
    intro l
    induction l with
    | nil => intro n _; simp
    | cons x r ih =>
      intro n h
      have e : (Str.ofString "-").length = 1 := by decide +kernel
      have := ih (n + x.length + (Str.ofString "-").length) fun y hy => h y (by simp [hy])
      have hx := h x (by simp)
      simp only [List.foldl_cons, List.length_cons]
      omega
  have := key xs 0 h2
  rw [List.foldl_toArray]
  have e : Builtin.Str.tooLong (List.foldl (fun a x => a + x.length + (Str.ofString "-").length) 0 xs) = false := by
    unfold Builtin.Str.tooLong
    refine decide_eq_false ?_
    have : sizeLine = 16777216 := by decide
    omega
  rw [e]; rfl
noncomputable def sp (c : Nat) : Bool := Unicode.isSpace c
noncomputable def stripL (l : List Nat) : List Nat := ((l.dropWhile sp).reverse.dropWhile sp).reverse
theorem drop_tw (p : Nat → Bool) (l : List Nat) : l.drop (l.takeWhile p).length = l.dropWhile p := by
  induction l with
  | nil => rfl
  | cons c r ih =>
    simp only [List.takeWhile_cons, List.dropWhile_cons]
    cases p c <;> simp [ih]
theorem strip_eq (l : List Nat) : Txt.strip (S l) = S (stripL l) := by
  have hS : (S l).cps.toList = l := by simp [S]
  have hn : (S l).length = l.length := S_len l
  have hlo : stripLo Unicode.isSpace true (S l) = (l.takeWhile sp).length := by unfold stripLo; rw [if_pos rfl, hS]; rfl
  have hhi : stripHi Unicode.isSpace true (S l) (l.takeWhile sp).length = l.length - ((l.dropWhile sp).reverse.takeWhile sp).length := by unfold stripHi; rw [if_pos rfl, hS, hn, drop_tw]; rfl
  have hk : ((l.dropWhile sp).reverse.takeWhile sp).length ≤ (l.dropWhile sp).length := by
    have := (List.takeWhile_sublist sp (l := (l.dropWhile sp).reverse)).length_le
    simpa using this
  have hd : (l.dropWhile sp).length = l.length - (l.takeWhile sp).length := by rw [← drop_tw]; simp
  have key : ∀ k, k ≤ (l.dropWhile sp).length → (l.dropWhile sp).take ((l.dropWhile sp).length - k) = ((l.dropWhile sp).reverse.drop k).reverse := by
    intro k hk
    rw [List.drop_reverse, List.reverse_reverse]
  have main : (Builtin.Str.strSub (S l) (l.takeWhile sp).length (l.length - ((l.dropWhile sp).reverse.takeWhile sp).length)) = S (stripL l) := by
    refine Str.ext' (Array.toList_inj.mp ?_)
    rw [StrLaws.strSub_toList, hS, drop_tw]
    rw [show l.length - ((l.dropWhile sp).reverse.takeWhile sp).length - (l.takeWhile sp).length = (l.dropWhile sp).length - ((l.dropWhile sp).reverse.takeWhile sp).length from by omega]
    rw [key _ hk, drop_tw]
    simp [S, stripL]
  unfold Txt.strip Txt.stripBy
  split
  · rename_i hsame
    unfold stripSame at hsame
    rw [hlo, hhi, hn] at hsame
    simp only [Bool.and_eq_true, beq_iff_eq] at hsame
    rw [hsame.2, hsame.1] at main
    rw [← main]
    refine Str.ext' (Array.toList_inj.mp ?_)
    rw [StrLaws.strSub_toList, hS]; simp
  · unfold PySem.stripped
    rw [hlo, hhi]; exact main
theorem strip_len (l : List Nat) : (stripL l).length ≤ l.length := by
  unfold stripL
  have h1 := (List.dropWhile_sublist sp (l := l)).length_le
  have h2 := (List.dropWhile_sublist sp (l := (l.dropWhile sp).reverse)).length_le
  simp at h2 ⊢; omega

section
variable {w : World} {A : Around} {E : Value → Shared → Prop} {s : Shared} {g : Heap} {L : Addr} {m : Str → Option Value}
theorem b_filter : bootBuiltins (Str.ofString "filter") = some (.type "filter") := by kernel_rfl
theorem b_len : bootBuiltins (Str.ofString "len") = some (.builtin "len") := by kernel_rfl
abbrev gsc : Scope := { kind := .function, names := [(Str.ofString ".0", .local), (Str.ofString "x", .local)], isGenerator := true, isCoroutine := false }
theorem join_gen {p : Program} {loose : List Str} {mg mb mg' : Str → Option Value} {bm : Addr} {ob : Obj} {name : Str} {scope : Scope} {a T : Addr} {pos px p1 p4 p5 p6 p7 : Pos} {xs : List (List Nat)} {vals : List Value} {tk : Tok} {Q : Value → Shared → Prop}
    (G : Gd w p loose mg mb g) (B : BMod g mainGlobals mg' bm ob) (g63 : g.get? 63 = none) (F : Fr g L s.heap m) (hP : TabP s.heap) (h67 : 67 < L) (h63 : 63 < L) (hbare : AllBare s.gens) (hh : A.handled = none) (hroom : A.depth < recursionLimit)
    (hm : m (Str.ofString "args") = some (.ref T)) (hT : s.heap.IsTuple T vals.toArray) (hTL : T < L) (hT63 : T ≠ 63) (hv : StrsAre vals (xs.map S)) (hn : xs.length ≤ 1000) (hlen : ∀ x ∈ xs, x.length ≤ 1000) (hk : scope.kind = .function)
    (h1 : (envOf name scope L a (.ref 67)).kindOf (Str.ofString "filter") = some .globalImplicit) (h2 : (envOf name scope L a (.ref 67)).kindOf (Str.ofString "len") = some .globalImplicit) (h3 : (envOf name scope L a (.ref 67)).kindOf (Str.ofString "args") = some .local)
    (h : ∀ s' t', Fr g L s'.heap m → TabP s'.heap → AllBare s'.gens → s'.os = s.os → (∀ b o, b ≤ L → b ≠ 63 → s.heap.get? b = some o → s'.heap.get? b = some o) → Q (.str (Txt.join (Str.ofString "-") ((xs.filter nonE).map fun x => S (stripL x))) t') s') :
    wpAny (model Pr w) A (eval (.GeneratorExp (.Call (.Attribute (.Name (Str.ofString "x") p1) (Str.ofString "strip") ⟨24, 25, 24, 32⟩) [] [] ⟨24, 25, 24, 34⟩) [⟨.Name (Str.ofString "x") px, .Call (.Name (Str.ofString "filter") p4) [.Name (Str.ofString "len") p5, .Name (Str.ofString "args") p6] [] p7, [], 0⟩] gsc pos) (envOf name scope L a (.ref 67)))
      (fun v s₁ => wpAny (model Pr w) A (call (.builtin "str.join") [.str (Str.ofString "-") tk, v]) Q E s₁) E s := by
  refine wpAny_GeneratorExp_walksQ (cl := []) hh rfl rfl (by decide) (by decide) (by decide) rfl hroom ?_ (fun _ => rfl)
  have hLs : L < s.heap.objs.size := F.ns.lt
  have hTs : T < s.heap.objs.size := Nat.lt_trans hTL hLs
  refine Call_ (name_B F G.K G.T (v := .type "filter") (by rfl) b_filter (by decide) ?_ hk h1)
  refine PyProof.Rows.callWith_type1 (args_cons (name_B F G.K G.T (v := .builtin "len") (by rfl) b_len (by decide) (args_cons (ld F hm (args_nil ?_) hk h3)) hk h2))
  refine call_filter hT fun h' hz hI kp hsz => pyIter_filter hz ?_
  have hst' : g.NoLimit := G.T.nolimit
  refine ⟨(G.T.nolimit.keeps F.keep).keeps kp, gen_code rfl (hP.at (fun o e => kp _ _ e) fun o e => kp _ _ e) fun cv h₃ tk₃ hx₃ hsz₃ hP₃ => ?_⟩
  have kp₃ : ∀ b o, b ≠ 63 → s.heap.get? b = some o → h₃.get? b = some o := fun b o hb e => hx₃ b o hb (kp b o e)
  have gk : ∀ b o, g.get? b = some o → h₃.get? b = some o := fun b o e => kp₃ b o (fun q => by rw [q, g63] at e; cases e) (F.keep b o e)
  have hsz₃' : s.heap.objs.size + 2 ≤ h₃.objs.size := by rw [← hsz]; exact hsz₃
  have M₃ := B.keeps gk
  have hlim₃ : h₃.NoLimit := G.T.nolimit.keeps gk
  refine wpAny_builtinsFor M₃.ns M₃.name M₃.ne M₃.obj M₃.cls M₃.dict M₃.data ?_
  have hz3 : h₃.get? (s.heap.objs.size + 1) = some (filtObj s.heap.objs.size) := hx₃ _ _ (Nat.ne_of_gt (Nat.lt_of_lt_of_le h63 (Nat.le_trans (Nat.le_of_lt hLs) (Nat.le_succ _)))) hz
  have hI3 : h₃.IsTupleIter s.heap.objs.size T 0 := hI.at fun o e => hx₃ _ _ (Nat.ne_of_gt (Nat.lt_trans h63 hLs)) e
  have hT3 : h₃.IsTuple T vals.toArray := hT.at fun o e => kp₃ _ _ hT63 e
  have hcs : cStatics < s.heap.objs.size := by
    obtain ⟨_, hns, _⟩ := G.T.nolimit.keeps F.keep
    exact hns.lt
  refine ⟨s.heap.objs.size + 1, [s.heap.objs.size + 1, s.heap.objs.size, T], [s.heap.objs.size], _, _, _, fun _ => true, fun i y => ∃ x t, (xs.filter nonE)[i]? = some x ∧ y = .str (S (stripL x)) t, rfl,
    fun A' hA' => Walks.filt hA' (Nat.ne_of_lt hTs) (Nat.succ_ne_self _) hv (fun x hx => Nat.le_trans (hlen x hx) (by decide)), ⟨hz3, hT3, 0, hI3, Nat.zero_le _, rfl⟩, ?_, hlim₃, ?_, fun href hhref => ⟨?_, ?_⟩, ?_⟩
  · intro b hb
    simp only [List.mem_cons, List.not_mem_nil, or_false] at hb
    rcases hb with rfl | rfl | rfl
    · exact hsz₃'
    · exact Nat.lt_of_lt_of_le (Nat.lt_succ_self _) (Nat.le_trans (Nat.le_succ _) hsz₃')
    · exact Nat.lt_of_lt_of_le hTs (Nat.le_trans (Nat.le_add_right _ 2) hsz₃')
  · intro hb
    simp only [List.mem_cons, List.not_mem_nil, or_false] at hb
    rw [hb] at hcs; exact Nat.lt_irrefl _ hcs
  · intro A' E' i v s₂ m₂ hA' _ _ _ _
    exact wpAny_pure ⟨rfl, _, _, rfl, fun _ _ e => e⟩
  · intro A' E' i v s₂ m₂ hA' hP _ hns hm2 _
    obtain ⟨x, t, hxi, rfl⟩ := hP
    have hxl : x.length ≤ 1000 := hlen x (List.mem_filter.mp (List.mem_of_getElem? hxi)).1
    refine MethodCall_ (wpAny_Name (wpAny_loadName_local rfl rfl hns hm2 (GM.strip (callWith_method0 (SC.strip (fun t' k => ?_) ?_)))))
    · exact ⟨⟨x, t', hxi, by rw [strip_eq]⟩, _, _, rfl, fun _ _ e => e⟩
    · rw [S_len]; exact Nat.le_trans hxl (by decide)
  · intro aa h₅ tk₅ gs hgb hag hsz₅ hk₅ W hat
    have F₅ : Fr g L h₅ m := ⟨F.ns.at fun o e => hk₅ _ _ (kp₃ _ _ (Nat.ne_of_gt h63) e), fun b o e => hk₅ _ _ (gk b o e), F.above⟩
    have GG : Gen Pr w A L aa (xs.filter nonE).length (fun j y => ∃ x t, (xs.filter nonE)[j]? = some x ∧ y = .str (S (stripL x)) t) { s with heap := h₅, gens := s.gens.push gs, toks := tk₅ } := by
      rw [passing_all] at W
      simp only [List.length_range] at W
      refine ⟨_, _, _, _, ⟨W.sub, W.grefl, W.gtrans, W.frame, fun i s' Q' E' hi hst hq => W.item i s' Q' E' hi hst fun v s'' hv => hq v s'' ?_, W.done, W.self⟩, hat, fun i s' st => st.1.typeIs, List.mem_cons_self, ?_, ?_⟩
      · obtain ⟨i', hi', hv'⟩ := hv
        rw [List.getElem?_range hi] at hi'
        cases hi'
        exact hv'
      · intro b hb
        show b < h₅.objs.size
        rw [hsz₅]
        rcases List.mem_cons.mp hb with rfl | hb
        · exact Nat.lt_succ_self _
        · rcases List.mem_cons.mp hb with rfl | hb
          · exact Nat.lt_succ_of_lt hag
          · exact Nat.lt_succ_of_lt (Nat.lt_trans (List.mem_range.mp hb) hag)
      · intro b hb
        simp only [List.mem_cons, List.not_mem_nil, or_false] at hb
        rcases hb with rfl | rfl
        · exact Nat.lt_of_lt_of_le hLs (Nat.le_trans (Nat.le_add_right _ 2) hsz₃')
        · exact hLs
    have hmap : (List.range (xs.filter nonE).length).map (fun j => S (stripL ((xs.filter nonE).getD j []))) = (xs.filter nonE).map fun x => S (stripL x) := by
      conv => rhs; rw [← range_getD (xs.filter nonE) []]
      rw [List.map_map]; rfl
    have hfl : (xs.filter nonE).length ≤ 1000 := Nat.le_trans (List.length_filter_le _ _) hn
    refine join_rowsK (K := L) F₅ (hbare.push hgb) GG (Nat.le_refl _) (fun j => S (stripL ((xs.filter nonE).getD j []))) ?_ ?_ ?_ ?_
    · intro j v hv
      obtain ⟨x, t, hx, rfl⟩ := hv
      exact ⟨t, by simp [hx]⟩
    · rw [hmap]
      refine join_ok (by simpa using hfl) fun x hx => ?_
      obtain ⟨y, hy, rfl⟩ := List.mem_map.mp hx
      rw [S_len]
      exact Nat.le_trans (strip_len y) (hlen y (List.mem_filter.mp hy).1)
    · intro s' t' F' G' ho' hk'
      rw [hmap]
      refine h s' t' F' (TabP.at hP₃ (fun o e => hk' _ _ (Nat.le_of_lt h67) (hk₅ _ _ e)) fun o e => hk' _ _ (Nat.le_of_lt h63) (hk₅ _ _ e)) G' ho' fun b o hb hb' e => hk' b o hb (hk₅ _ _ (kp₃ _ _ hb' e))
    · exact Nat.le_trans hfl (by decide)
end
end Mine
end

section
set_option autoImplicit false
namespace Mine
open PySem PySem.W PySem.Calls PyProof.Rows

/-- replace on lists: k characters are still to be passed over -/
noncomputable def repGo (p z : List Nat) : Nat → List Nat → List Nat
  | _, [] => []
  | k + 1, _ :: r => repGo p z k r
  | 0, c :: r => if p.isPrefixOf (c :: r) then z ++ repGo p z (p.length - 1) r else c :: repGo p z 0 r
noncomputable def occGo (p : List Nat) : Nat → Nat → List Nat → List Nat
  | _, _, [] => []
  | k + 1, i, _ :: r => occGo p k (i + 1) r
  | 0, i, c :: r => if p.isPrefixOf (c :: r) then i :: occGo p (p.length - 1) (i + 1) r else occGo p 0 (i + 1) r
theorem S_list (l : List Nat) : (S l).cps.toList = l := by simp
theorem prefix_iff (p r : List Nat) : p.isPrefixOf r = (r.take p.length == p) := by
  rw [Bool.eq_iff_iff, List.isPrefixOf_iff_prefix, beq_iff_eq, List.prefix_iff_eq_take]
  exact eq_comm
theorem subAt_pre (l p : List Nat) (i : Nat) : Builtin.Str.subAt (S l) (S p) i = p.isPrefixOf (l.drop i) := by
  rw [StrLaws.subAt_eq, S_list, S_list, S_len, prefix_iff]
theorem occ_fold (l p : List Nat) (hp : p ≠ []) : ∀ (r : List Nat) (i : Nat) (found : Array Nat) (free : Nat), l.drop i = r → i ≤ l.length → found.size ≤ i →
    (forIn (List.range' i (r.length + 1)) (found, free) (StrLaws.occBody (S l) (S p) l.length (l.length + 1))).run.fst.toList = found.toList ++ occGo p (free - i) i r := by
  have hp1 : 1 ≤ p.length := by cases p with | nil => exact absurd rfl hp | cons _ _ => simp
  intro r
  induction r with
  | nil =>
    intro i found free hd hi hf
    have : l.length ≤ i := by simpa using hd
    simp only [List.length_nil, Nat.zero_add, List.range'_one, List.forIn_cons, List.forIn_nil]
    unfold StrLaws.occBody
    rw [if_neg (by rw [S_len]; omega)]
    simp [occGo]
  | cons c r ih =>
    intro i found free hd hi hf
    have hlen : i < l.length := by
      have := congrArg List.length hd
      simp at this; omega
    have hd' : l.drop (i + 1) = r := by rw [← List.drop_drop, hd]; rfl
    rw [show (c :: r).length + 1 = (r.length + 1) + 1 from rfl, List.range'_succ, List.forIn_cons]
    unfold StrLaws.occBody
    rw [subAt_pre, S_len, hd]
    dsimp only
    by_cases hfree : free ≤ i
    · by_cases hpre : p.isPrefixOf (c :: r) = true
      · have hle : i + p.length ≤ l.length := by
          have h1 := (List.isPrefixOf_iff_prefix.mp hpre).length_le
          have := congrArg List.length hd
          simp at this h1; omega
        rw [if_pos ⟨⟨⟨by omega, hfree⟩, hle⟩, hpre⟩]
        have := ih (i + 1) (found.push i) (i + p.length) hd' hlen (by simp; omega)
        rw [show free - i = 0 by omega]
        simp only [occGo, hpre, if_true]
        refine Eq.trans this ?_
        rw [show i + p.length - (i + 1) = p.length - 1 by omega]
        simp
      · rw [if_neg (fun h => hpre h.2)]
        have := ih (i + 1) found free hd' hlen (by omega)
        rw [show free - i = 0 by omega]
        simp only [occGo, hpre]
        refine Eq.trans this ?_
        rw [show free - (i + 1) = 0 by omega]
        rfl
    · rw [if_neg (fun h => hfree h.1.1.2)]
      have := ih (i + 1) found free hd' hlen (by omega)
      obtain ⟨k, hk⟩ : ∃ k, free - i = k + 1 := ⟨free - i - 1, by omega⟩
      rw [hk]
      simp only [occGo]
      refine Eq.trans this ?_
      rw [show free - (i + 1) = k by omega]
theorem occ_list (l p : List Nat) (hp : p ≠ []) : Builtin.Str.occurrences (S l) (S p) 0 (S l).length ((S l).length + 1) = occGo p 0 0 l := by
  rw [StrLaws.occ_eq, S_len]
  have := occ_fold l p hp l 0 #[] 0 rfl (Nat.zero_le _) (Nat.zero_le _)
  simpa using this
theorem occ_skip (p : List Nat) : ∀ (k i : Nat) (r : List Nat), occGo p k i r = occGo p 0 (i + k) (r.drop k)
  | 0, i, r => by simp
  | k + 1, i, [] => by simp [occGo]
  | k + 1, i, c :: r => by simp only [occGo, List.drop_succ_cons]; rw [occ_skip p k (i + 1) r, show i + 1 + k = i + (k + 1) by omega]
theorem rep_skip (p z : List Nat) : ∀ (k : Nat) (r : List Nat), repGo p z k r = repGo p z 0 (r.drop k)
  | 0, r => by simp
  | k + 1, [] => by simp [repGo]
  | k + 1, c :: r => by simp only [repGo, List.drop_succ_cons]; rw [rep_skip p z k r]
theorem sub_S (l : List Nat) (a b : Nat) : Builtin.Str.strSub (S l) a b = S ((l.drop a).take (b - a)) := by
  refine Str.ext' (Array.toList_inj.mp ?_)
  rw [StrLaws.strSub_toList, S_list, S_list]
theorem join_parts (l p z : List Nat) (hp : p ≠ []) : ∀ (n : Nat) (r : List Nat) (i a : Nat), r.length ≤ n → l.drop i = r → a ≤ i →
    Str.join (S z) (StrLaws.partsFrom (S l) p.length a (occGo p 0 i r)) = S ((l.drop a).take (i - a) ++ repGo p z 0 r) := by
  have hp1 : 1 ≤ p.length := by cases p with | nil => exact absurd rfl hp | cons _ _ => simp
  intro n
  induction n with
  | zero =>
    intro r i a hn hd ha
    have : r = [] := List.eq_nil_of_length_eq_zero (by omega)
    subst this
    simp only [occGo, repGo, StrLaws.partsFrom, Str.join]
    rw [sub_S, S_len, List.append_nil]
    have : l.length ≤ i := by simpa using hd
    rw [List.take_of_length_le (by simp), List.take_of_length_le (by simp; omega)]
  | succ n ih =>
    intro r i a hn hd ha
    cases r with
    | nil => exact ih [] i a (Nat.zero_le _) hd ha
    | cons c r =>
      have hd' : l.drop (i + 1) = r := by rw [← List.drop_drop, hd]; rfl
      simp only [List.length_cons] at hn
      by_cases hpre : p.isPrefixOf (c :: r) = true
      · simp only [occGo, repGo, hpre, if_true, StrLaws.partsFrom]
        rw [occ_skip, rep_skip, show i + 1 + (p.length - 1) = i + p.length by omega]
        have hd2 : l.drop (i + p.length) = r.drop (p.length - 1) := by rw [← hd', List.drop_drop]; congr 1; omega
        have := ih (r.drop (p.length - 1)) (i + p.length) (i + p.length) (by simp; omega) hd2 (Nat.le_refl _)
        obtain ⟨q, t, e⟩ := StrLaws.partsFrom_ne (S l) p.length (i + p.length) (occGo p 0 (i + p.length) (r.drop (p.length - 1)))
        rw [e] at this ⊢
        show Builtin.Str.strSub (S l) a i ++ S z ++ Str.join (S z) (q :: t) = _
        rw [this, sub_S, S_app, S_app]
        simp
      · simp only [occGo, repGo, hpre]
        have := ih r (i + 1) a (by omega) hd' (by omega)
        simp only [Bool.false_eq_true, if_false]
        rw [this]
        congr 1
        have h1 : i < l.length := by have := congrArg List.length hd; simp at this; omega
        have h2 : l[i]? = some c := by
          have := congrArg (fun x => x[0]?) hd
          simpa using this
        rw [show i + 1 - a = (i - a) + 1 by omega, List.take_add_one]
        have h3 : (l.drop a)[i - a]? = some c := by rw [List.getElem?_drop, show a + (i - a) = i by omega, h2]
        rw [h3]; simp
theorem replace_eq (l p z : List Nat) (hp : p ≠ []) : Txt.replace (S l) (S p) (S z) = S (repGo p z 0 l) := by
  have main := join_parts l p z hp l.length l 0 0 (Nat.le_refl _) rfl (Nat.le_refl _)
  simp only [Nat.sub_self, List.take_zero, List.nil_append] at main
  have hp1 : (S p).length ≠ 0 := by rw [S_len]; cases p with | nil => exact absurd rfl hp | cons _ _ => simp
  unfold Txt.replace
  rw [occ_list l p hp]
  cases ho : occGo p 0 0 l with
  | nil =>
    rw [ho] at main
    simp only [StrLaws.partsFrom, Str.join] at main
    rw [← main, StrLaws.sub_whole]; simp
  | cons a r =>
    rw [ho] at main
    rw [if_neg (by simp [hp1]), StrLaws.glued_eq_join, StrLaws.partsBetween_eq, S_len]
    exact main
/-- join on lists -/
noncomputable def joinL (sep : List Nat) : List (List Nat) → List Nat
  | [] => []
  | [x] => x
  | x :: y :: r => x ++ sep ++ joinL sep (y :: r)
theorem join_eq (sep : List Nat) : ∀ (xs : List (List Nat)), Txt.join (S sep) (xs.map S) = S (joinL sep xs) := by
  intro xs
  unfold Txt.join
  rw [StrLaws.glued_eq_join]
  induction xs with
  | nil => rfl
  | cons x r ih =>
    cases r with
    | nil => rfl
    | cons y r =>
      show S x ++ S sep ++ Str.join (S sep) ((y :: r).map S) = _
      rw [ih, S_app, S_app]; rfl
theorem rep_one (c d : Nat) : ∀ (l : List Nat), repGo [c] [d] 0 l = l.map fun x => if x = c then d else x
  | [] => rfl
  | x :: r => by
    simp only [repGo, List.isPrefixOf, Bool.and_true, List.length_singleton, Nat.sub_self, List.map_cons]
    rw [rep_one c d r]
    by_cases h : x = c
    · subst h; simp
    · rw [if_neg h, if_neg (by simp; exact fun q => h q.symm)]
end Mine
end

section
set_option autoImplicit false
namespace Mine
open PySem PySem.W PySem.Calls PyProof.Rows

theorem slice_eq (x : Str) (l u : Option Int) : Txt.slice x l u = StrLaws.sliceText x l u := rfl
theorem slice_init (l : List Nat) : Txt.slice (S l) none (some (-1)) = S l.dropLast := by
  rw [slice_eq]
  have e : StrLaws.sliceText (S l) none (some (-1)) = StrLaws.sliceText (S l) none (some ((l.length - 1 : Nat) : Int)) := by
    have : Builtin.Str.strSliceIndices none (some (-1)) 1 (S l).length = Builtin.Str.strSliceIndices none (some ((l.length - 1 : Nat) : Int)) 1 (S l).length := by
      unfold Builtin.Str.strSliceIndices
      rw [S_len]
      dsimp only
      congr 1
      simp only [show (1 : Int) > 0 from by decide, if_true]
      rw [if_pos (by decide), if_neg (by omega)]
      omega
    unfold StrLaws.sliceText
    rw [this]
  rw [e, StrLaws.sliceText_to ⟨by omega, by rw [S_list]; omega⟩, S_list]
  rw [List.dropLast_eq_take]
  simp only [List.drop_zero, Int.sub_zero, Int.toNat_natCast]
theorem slice_last (l : List Nat) : Txt.slice (S l) (some (-1)) none = S (l.drop (l.length - 1)) := by
  rw [slice_eq]
  have e : StrLaws.sliceText (S l) (some (-1)) none = StrLaws.sliceText (S l) (some ((l.length - 1 : Nat) : Int)) none := by
    have : Builtin.Str.strSliceIndices (some (-1)) none 1 (S l).length = Builtin.Str.strSliceIndices (some ((l.length - 1 : Nat) : Int)) none 1 (S l).length := by
      unfold Builtin.Str.strSliceIndices
      rw [S_len]
      dsimp only
      congr 1
      simp only [show (1 : Int) > 0 from by decide, if_true]
      rw [if_pos (by decide), if_neg (by omega)]
      omega
    unfold StrLaws.sliceText
    rw [this]
  rw [e, StrLaws.sliceText_from ⟨by omega, by rw [S_list]; omega⟩, S_list]
  simp only [Int.toNat_natCast]
  rw [List.take_of_length_le (by simp)]
theorem rep_len (p z : List Nat) (hz : z.length ≤ p.length) : ∀ (n : Nat) (l : List Nat), l.length ≤ n → (repGo p z 0 l).length ≤ l.length := by
  intro n
  induction n with
  | zero => intro l h; have : l = [] := List.eq_nil_of_length_eq_zero (by omega); subst this; simp [repGo]
  | succ n ih =>
    intro l h
    cases l with
    | nil => simp [repGo]
    | cons c r =>
      simp only [List.length_cons] at h
      by_cases hp : p.isPrefixOf (c :: r) = true
      · simp only [repGo, hp, if_true]
        rw [rep_skip]
        have h1 := ih (r.drop (p.length - 1)) (by simp; omega)
        have h2 := (List.isPrefixOf_iff_prefix.mp hp).length_le
        simp at h1 h2 ⊢; omega
      · simp only [repGo, hp]
        have := ih r (by omega)
        simp; omega
theorem joinL_len (sep : List Nat) (n : Nat) : ∀ (xs : List (List Nat)), (∀ x ∈ xs, x.length ≤ n) → (joinL sep xs).length ≤ (n + sep.length) * xs.length
  | [], _ => by simp [joinL]
  | [x], h => by have := h x (by simp); simp [joinL]; omega
  | x :: y :: r, h => by
    have h1 := h x (by simp)
    have h2 := joinL_len sep n (y :: r) fun z hz => h z (by simp [hz])
    simp only [joinL, List.length_append, List.length_cons] at h2 ⊢
    rw [show r.length + 1 + 1 = (r.length + 1) + 1 from rfl, Nat.mul_succ]
    omega

noncomputable def sqGo : Bool → List Nat → List Nat
  | _, [] => []
  | p, c :: r => if c = 45 then (if p = true then sqGo true r else 45 :: sqGo true r) else c :: sqGo false r
noncomputable def sq (l : List Nat) : List Nat := sqGo false l
noncomputable def dd (l : List Nat) : List Nat := repGo [45, 45] [45] 0 l
theorem dd_eq (l : List Nat) : dd l = match l with
    | [] => []
    | [c] => [c]
    | c :: d :: r => if c = 45 ∧ d = 45 then 45 :: dd r else c :: dd (d :: r) := by
  unfold dd
  match l with
  | [] => rfl
  | [c] => simp [repGo, List.isPrefixOf]
  | c :: d :: r =>
    simp only [repGo, List.isPrefixOf, Bool.and_true]
    by_cases h : c = 45 ∧ d = 45
    · rw [if_pos h, if_pos (by simp [h.1, h.2])]
      simp [repGo]
    · rw [if_neg h, if_neg (by simp; intro h1 h2; exact h ⟨h1.symm, h2.symm⟩)]
theorem sq_dd : ∀ (n : Nat) (l : List Nat), l.length ≤ n → ∀ b, sqGo b (dd l) = sqGo b l := by
  intro n
  induction n with
  | zero => intro l h b; have : l = [] := List.eq_nil_of_length_eq_zero (by omega); subst this; rfl
  | succ n ih =>
    intro l h b
    rw [dd_eq]
    match l with
    | [] => rfl
    | [c] => rfl
    | c :: d :: r =>
      dsimp only
      simp only [List.length_cons] at h
      by_cases hc : c = 45 ∧ d = 45
      · obtain ⟨rfl, rfl⟩ := hc
        simp only [and_self, if_true, sqGo]
        rw [ih r (by omega) true]
      · rw [if_neg hc]
        simp only [sqGo]
        by_cases h1 : c = 45
        · simp only [h1, if_true]
          have := ih (d :: r) (by simp; omega) true
          rw [this]
          simp only [sqGo, if_true]
        · simp only [h1, if_false]
          have := ih (d :: r) (by simp; omega) false
          rw [this]
          simp only [sqGo]
theorem dd_len (l : List Nat) : (dd l).length ≤ l.length := rep_len _ _ (by simp) _ l (Nat.le_refl _)
theorem dd_fix : ∀ (n : Nat) (l : List Nat), l.length ≤ n → (dd l).length = l.length → dd l = l ∧ sq l = l ∧ (l.head? ≠ some 45 → sqGo true l = l) := by
  intro n
  induction n with
  | zero => intro l h _; have : l = [] := List.eq_nil_of_length_eq_zero (by omega); subst this; exact ⟨rfl, rfl, fun _ => rfl⟩
  | succ n ih =>
    intro l h hd
    match l with
    | [] => exact ⟨rfl, rfl, fun _ => rfl⟩
    | [c] =>
      refine ⟨by rw [dd_eq], ?_, ?_⟩
      · by_cases hc : c = 45 <;> simp [sq, sqGo, hc]
      · intro hh
        have hc : c ≠ 45 := by simpa using hh
        simp [sqGo, hc]
    | c :: d :: r =>
      simp only [List.length_cons] at h
      by_cases hc : c = 45 ∧ d = 45
      · rw [dd_eq] at hd
        simp only [hc, and_self, if_true, List.length_cons] at hd
        have := dd_len r
        omega
      · have hd1 : dd (c :: d :: r) = c :: dd (d :: r) := by rw [dd_eq]; exact if_neg hc
        rw [hd1] at hd
        simp only [List.length_cons] at hd
        obtain ⟨h1, h2, h3⟩ := ih (d :: r) (by simp; omega) (by simp; omega)
        refine ⟨by rw [hd1, h1], ?_, ?_⟩
        · by_cases hc1 : c = 45
          · have hd45 : d ≠ 45 := fun q => hc ⟨hc1, q⟩
            have := h3 (by simpa using hd45)
            show sqGo false (c :: d :: r) = _
            rw [sqGo, if_pos hc1, if_neg (by simp), this, hc1]
          · show sqGo false (c :: d :: r) = _
            rw [sqGo, if_neg hc1]
            have : sqGo false (d :: r) = d :: r := h2
            rw [this]
        · intro hh
          have hc1 : c ≠ 45 := by simpa using hh
          rw [sqGo, if_neg hc1]
          have : sqGo false (d :: r) = d :: r := h2
          rw [this]
noncomputable def dropT (l : List Nat) : List Nat := (l.reverse.dropWhile (· == 45)).reverse
theorem dropT_end (l : List Nat) (h : l.getLast? ≠ some 45) : dropT l = l := by
  unfold dropT
  have : l.reverse.dropWhile (· == 45) = l.reverse := by
    cases hr : l.reverse with
    | nil => rfl
    | cons c r =>
      have : l.getLast? = some c := by rw [List.getLast?_eq_head?_reverse, hr]; rfl
      rw [List.dropWhile_cons, if_neg]
      intro q
      rw [this] at h
      exact h (by simpa using q)
  rw [this, List.reverse_reverse]
theorem dropT_more (l : List Nat) (h : l.getLast? = some 45) : dropT l.dropLast = dropT l := by
  unfold dropT
  have : l.reverse = 45 :: l.dropLast.reverse := by
    cases hr : l.reverse with
    | nil => rw [List.getLast?_eq_head?_reverse, hr] at h; cases h
    | cons c r =>
      have h1 : l.getLast? = some c := by rw [List.getLast?_eq_head?_reverse, hr]; rfl
      rw [h] at h1
      injection h1 with h1
      have h2 : l = r.reverse ++ [c] := by rw [← List.reverse_reverse l, hr]; simp
      rw [h2]; simp [h1]
  rw [this, List.dropWhile_cons, if_pos (by decide)]
noncomputable def subst (c d x : Nat) : Nat := if x = c then d else x
noncomputable def mapsL (l : List Nat) : List Nat := (((((((l.map (subst 32 95)).map (subst 47 45)).map (subst 92 45)).map (subst 58 45)).map (subst 59 45)).map (subst 34 45)).map (subst 40 45)).map (subst 41 45)
noncomputable def unkL : List Nat := [117, 110, 107, 110, 111, 119, 110]
noncomputable def rmU (l : List Nat) : List Nat := repGo unkL [] 0 l
noncomputable def platL (xs : List (List Nat)) : List Nat := dropT (sq (rmU (mapsL (joinL [45] ((xs.filter nonE).map stripL)))))
theorem subst_eq (c d : Nat) (l : List Nat) : repGo [c] [d] 0 l = l.map (subst c d) := rep_one c d l
theorem mapsL_len (l : List Nat) : (mapsL l).length = l.length := by simp [mapsL]
theorem rmU_len (l : List Nat) : (rmU l).length ≤ l.length := rep_len _ _ (by simp) _ l (Nat.le_refl _)
end Mine
end

section
set_option autoImplicit false
set_option maxRecDepth 100000
set_option maxHeartbeats 2000000
namespace Mine
open PySem PySem.W PySem.Calls PyProof.Rows

/-- where the walk of _platform stands -/
structure PS (s0 : Shared) (g : Heap) (L : Addr) (m : Str → Option Value) (s : Shared) : Prop where
  ext : ∀ b o, b < L → b ≠ 63 → s0.heap.get? b = some o → s.heap.get? b = some o
  fr : Fr g L s.heap m
  tab : TabP s.heap
  bare : AllBare s.gens
  os : s.os = s0.os
  tok : 0 < s.toks
section
variable {s0 s : Shared} {g h' : Heap} {L : Addr} {m m' : Str → Option Value}
theorem PS.st (x : PS s0 g L m s) (h67 : 67 < L) (h63 : 63 < L) (F : Fr g L h' m') (sb : Heap.SameBut L s.heap h') (k : Nat) : PS s0 g L m' { s with heap := h', toks := k + 1 } where
  ext := fun b o hb h1 e => (sb.2 b (Nat.ne_of_lt hb)).trans (x.ext b o hb h1 e)
  fr := F
  tab := x.tab.at (fun o e => (sb.2 _ (Nat.ne_of_lt h67)).trans e) fun o e => (sb.2 _ (Nat.ne_of_lt h63)).trans e
  bare := x.bare
  os := x.os
  tok := Nat.succ_pos _
theorem PS.push (x : PS s0 g L m s) (o : Obj) (k : Nat) (hk : 0 < k) : PS s0 g L m { s with heap := s.heap.push o, toks := k } where
  ext := fun b o hb h1 e => Heap.get?_push_of_some _ (x.ext b o hb h1 e)
  fr := x.fr.push o
  tab := x.tab.at (fun o e => Heap.get?_push_of_some _ e) fun o e => Heap.get?_push_of_some _ e
  bare := x.bare
  os := x.os
  tok := hk
theorem PS.tk (x : PS s0 g L m s) (k : Nat) (hk : 0 < k) : PS s0 g L m { s with toks := k } := ⟨x.ext, x.fr, x.tab, x.bare, x.os, hk⟩
end
theorem call_star {w : World} {A : Around} {E : Value → Shared → Prop} {s : Shared} {p : Program} {loose : List Str} {mg mb : Str → Option Value} {f : Addr} {args : List Value} {vn name : Str} {params : Arguments} {body : List Stmt} {scope : Scope}
    {pm cd doc : Value} {Q : Value → Shared → Prop} (G : Gd w p loose mg mb s.heap) (ho : (KF w).lookup f = some ⟨.type "function", none, .func (docDef name params body scope pm cd doc), #[]⟩) (hcd : codeIn (KF w) cd name = true)
    (hroom : A.depth < recursionLimit) (hbind : bindArgs (docDef name params body scope pm cd doc) ⟨args, []⟩ = (newTuple args >>= fun t => pure [(vn, t)])) (hloc : scope.names.lookup vn = some .local) (hsz : args.length ≤ sizeLine)
    (hco : scope.isCoroutine = false) (hgen : scope.isGenerator = false) (hk : scope.kind = .function) (hcell : ∀ x ∈ scope.names, x.2 ≠ .cell)
    (h : ∀ L h₁, L = s.heap.objs.size + 1 → h₁.Ns L (fun x => [(vn, Value.ref s.heap.objs.size)].reverse.lookup x) → h₁.get? s.heap.objs.size = some { cls := .type "tuple", data := .seq args.toArray } → (∀ b o, s.heap.get? b = some o → h₁.get? b = some o) →
      wpAny (model Pr w) (A.deeper (envOf name scope L f cd)) (execs body (envOf name scope L f cd)) (fun fl s' => Q (match fl with | .ret v => v | _ => .none) s') (fun _ _ => False) { s with heap := h₁, toks := s.toks + 1 }) :
    wpAny (model Pr w) A (call (.ref f) args) Q E s := by
  refine wpAny_call (codeAny_call_function hroom (G.K _ _ ho) rfl hco hgen rfl (codeRec_of G.K hcd) ?_)
  rw [hbind]
  refine wpAny_bind (wpAny_newTuple (wpAny_pure ?_) hsz)
  refine wpAny_newFunctionEnv hcell (by intro x hx; simp at hx; rw [hx]; exact hloc) (fun h₁ hns hsb => ⟨(G.T.nolimit.push _).fresh _ hsb, ?_⟩) hk
  have hL : (s.heap.push { cls := .type "tuple", data := .seq args.toArray }).objs.size = s.heap.objs.size + 1 := Heap.size_push ..
  dsimp only at hns hsb ⊢
  rw [hL] at hns hsb ⊢
  have kp : ∀ b o, (s.heap.push { cls := .type "tuple", data := .seq args.toArray }).get? b = some o → h₁.get? b = some o := fun b o e => by
    have hb : b < s.heap.objs.size + 1 := hL ▸ Heap.lt_size e
    exact hsb.extBut b o (Nat.ne_of_lt hb) (Heap.get?_push_of_some _ e)
  refine codeAny_func (wpAny_mono (h _ h₁ rfl hns (kp _ _ (Heap.get?_push_size _ rfl)) fun b o e => kp _ _ (Heap.get?_push_of_some _ e)) (fun _ _ x => x) fun _ _ x => x.elim)
end Mine
end

section
set_option autoImplicit false
set_option maxRecDepth 100000
set_option maxHeartbeats 2000000
namespace Mine
open PySem PySem.W PySem.Calls PyProof.Rows

noncomputable def PPost (s0 : Shared) (g : Heap) (L : Addr) (l : List Nat) (f : Flow) (s : Shared) : Prop := f = .next ∧ ∃ m t, PS s0 g L m s ∧ m (Str.ofString "platform") = some (.str (S l) t)
theorem mne {m : Str → Option Value} {x y : Str} {v : Value} {r : Option Value} (h : m x = r) (hn : x ≠ y) : (fun z => if z = y then some v else m z) x = r := by
  show (if x = y then some v else m x) = r; rw [if_neg hn]; exact h
theorem last_item {l : List Nat} {c : Nat} (h : l.getLast? = some c) : (seqIndex? (-1) (S l).length).bind ((S l).cps[·]?) = some c := by
  have hl : l ≠ [] := by intro q; rw [q] at h; cases h
  have hl1 : 1 ≤ l.length := by cases l with | nil => exact absurd rfl hl | cons _ _ => simp
  rw [S_len, StrLaws.seqIndex_neg (by decide) (by omega)]
  have e : ((-1 : Int) + (l.length : Int)).toNat = l.length - 1 := by omega
  rw [e]
  rw [List.getLast?_eq_getElem?] at h
  simpa using h
theorem o_rep0 (l : List Nat) : Txt.replace (S l) (Str.ofString " ") (Str.ofString "_") = S (l.map (subst 32 95)) := by
  rw [show Str.ofString " " = S [32] from by decide +kernel, show Str.ofString "_" = S [95] from by decide +kernel, replace_eq _ _ _ (by simp), subst_eq]
theorem o_rep1 (l : List Nat) : Txt.replace (S l) (Str.ofString "/") (Str.ofString "-") = S (l.map (subst 47 45)) := by
  rw [show Str.ofString "/" = S [47] from by decide +kernel, show Str.ofString "-" = S [45] from by decide +kernel, replace_eq _ _ _ (by simp), subst_eq]
theorem o_rep2 (l : List Nat) : Txt.replace (S l) (Str.ofString "\\") (Str.ofString "-") = S (l.map (subst 92 45)) := by
  rw [show Str.ofString "\\" = S [92] from by decide +kernel, show Str.ofString "-" = S [45] from by decide +kernel, replace_eq _ _ _ (by simp), subst_eq]
theorem o_rep3 (l : List Nat) : Txt.replace (S l) (Str.ofString ":") (Str.ofString "-") = S (l.map (subst 58 45)) := by
  rw [show Str.ofString ":" = S [58] from by decide +kernel, show Str.ofString "-" = S [45] from by decide +kernel, replace_eq _ _ _ (by simp), subst_eq]
theorem o_rep4 (l : List Nat) : Txt.replace (S l) (Str.ofString ";") (Str.ofString "-") = S (l.map (subst 59 45)) := by
  rw [show Str.ofString ";" = S [59] from by decide +kernel, show Str.ofString "-" = S [45] from by decide +kernel, replace_eq _ _ _ (by simp), subst_eq]
theorem o_rep5 (l : List Nat) : Txt.replace (S l) (Str.ofString "\"") (Str.ofString "-") = S (l.map (subst 34 45)) := by
  rw [show Str.ofString "\"" = S [34] from by decide +kernel, show Str.ofString "-" = S [45] from by decide +kernel, replace_eq _ _ _ (by simp), subst_eq]
theorem o_rep6 (l : List Nat) : Txt.replace (S l) (Str.ofString "(") (Str.ofString "-") = S (l.map (subst 40 45)) := by
  rw [show Str.ofString "(" = S [40] from by decide +kernel, show Str.ofString "-" = S [45] from by decide +kernel, replace_eq _ _ _ (by simp), subst_eq]
theorem o_rep7 (l : List Nat) : Txt.replace (S l) (Str.ofString ")") (Str.ofString "-") = S (l.map (subst 41 45)) := by
  rw [show Str.ofString ")" = S [41] from by decide +kernel, show Str.ofString "-" = S [45] from by decide +kernel, replace_eq _ _ _ (by simp), subst_eq]
theorem o_unk (l : List Nat) : Txt.replace (S l) (Str.ofString "unknown") (Str.ofString "") = S (rmU l) := by
  rw [show Str.ofString "unknown" = S unkL from by decide +kernel, show Str.ofString "" = S [] from by decide +kernel, replace_eq _ _ _ (by simp [unkL])]; rfl
theorem o_dd (l : List Nat) : Txt.replace (S l) (Str.ofString "--") (Str.ofString "-") = S (dd l) := by
  rw [show Str.ofString "--" = S [45, 45] from by decide +kernel, show Str.ofString "-" = S [45] from by decide +kernel, replace_eq _ _ _ (by simp)]; rfl
theorem o_join (xs : List (List Nat)) : Txt.join (Str.ofString "-") (xs.map fun x => S (stripL x)) = S (joinL [45] (xs.map stripL)) := by
  rw [show Str.ofString "-" = S [45] from by decide +kernel, ← join_eq, List.map_map]; rfl
theorem o_dash : (Str.ofString "-").cps.toList = [45] := by decide +kernel

theorem plat_call {w : World} {A : Around} {E : Value → Shared → Prop} {s : Shared} {p : Program} {loose : List Str} {mg mb mg' : Str → Option Value} {bm : Addr} {ob : Obj} {g : Heap} {vals : List Value} {xs : List (List Nat)} {Q : Value → Shared → Prop}
    (G : Gd w p loose mg mb g) (B : BMod g mainGlobals mg' bm ob) (g63 : g.get? 63 = none) (hk : ∀ b o, g.get? b = some o → s.heap.get? b = some o) (hsz : g.objs.size ≤ s.heap.objs.size) (hP : TabP s.heap) (hbare : AllBare s.gens)
    (hh : A.handled = none) (hroom : A.depth + 1 < recursionLimit) (hv : StrsAre vals (xs.map S)) (hn : xs.length ≤ 50) (hlen : ∀ x ∈ xs, x.length ≤ 1000)
    (h : ∀ s' t, (∀ b o, b ≠ 63 → s.heap.get? b = some o → s'.heap.get? b = some o) → TabP s'.heap → AllBare s'.gens → s'.os = s.os → Q (.str (S (platL xs)) t) s') :
    wpAny (model Pr w) A (call (.ref 68) vals) Q E s := by
  have G' := G.keeps hk
  have hvl : vals.length = xs.length := by have := strsAre_len hv; simpa using this
  refine call_star G' (f := 68) (vn := Str.ofString "args") (by rfl) (by rfl) (Nat.lt_of_succ_lt hroom) (by cases vals <;> rfl) (by rfl) (by rw [hvl]; exact Nat.le_trans hn (by decide)) (by rfl) (by rfl) (by rfl) (by decide) fun L h₁ hL hns hT kp => ?_
  have hPl := hP.lt
  have h67 : 67 < L := by rw [hL]; exact Nat.lt_succ_of_lt hPl.1
  have h63 : 63 < L := by rw [hL]; exact Nat.lt_succ_of_lt hPl.2
  have hTL : s.heap.objs.size < L := by rw [hL]; exact Nat.lt_succ_self _
  have V0 : PS s g L _ { s with heap := h₁, toks := s.toks + 1 } :=
    { ext := fun b o _ _ e => kp b o e, fr := ⟨hns, fun b o e => kp _ _ (hk b o e), Nat.le_trans hsz (Nat.le_of_lt hTL)⟩, tab := hP.at (fun o e => kp _ _ e) (fun o e => kp _ _ e), bare := hbare, os := rfl, tok := Nat.succ_pos _ }
  generalize hJ : joinL [45] ((xs.filter nonE).map stripL) = J0
  have hJ0 : J0.length ≤ 60000 := by
    rw [← hJ]
    have h1 := joinL_len [45] 1000 ((xs.filter nonE).map stripL) (fun x hx => by
      obtain ⟨y, hy, rfl⟩ := List.mem_map.mp hx
      exact Nat.le_trans (strip_len y) (hlen y (List.mem_filter.mp hy).1))
    have h2 : ((xs.filter nonE).map stripL).length ≤ 50 := by
      rw [List.length_map]; exact Nat.le_trans (List.length_filter_le _ _) hn
    have h3 : (1000 + [45].length) * ((xs.filter nonE).map stripL).length ≤ (1000 + [45].length) * 50 := Nat.mul_le_mul_left _ h2
    simp only [List.length_cons, List.length_nil] at h1 h3
    omega
  have h' : ∀ s' m t, PS s g L m s' → Q (.str (S (platL xs)) t) s' := fun s' m t V => h s' t (fun b o hb e => V.ext b o (Nat.lt_trans (Heap.lt_size e) hTL) hb e) V.tab V.bare V.os
  refine wpAny_execs_cons (wpAny_mono (Q := PPost s g L J0) ?_ (fun f s1 hq => ?_) fun _ _ x => x)
  · refine wpAny_Assign_Name (MethodCall_ (Constant_str (GM.join (callWith_method1 (args_cons ?_)))))
    refine wpAny_mono (join_gen (s := { s with heap := h₁, toks := s.toks + 1 + 1 }) (T := s.heap.objs.size) G B g63 V0.fr V0.tab h67 h63 hbare hh hroom (by rfl) ⟨_, hT, rfl, _, rfl⟩ hTL (Nat.ne_of_gt hPl.2) hv (by omega) hlen rfl rfl rfl rfl fun s' t' F' T' B' o' k' => ?_) (fun v s₁ hv => args_nil hv) fun _ _ x => x
    rw [o_join, hJ]
    exact stB F' fun h₂ F₂ sb₂ => ⟨rfl, _, t', (PS.st (s := { s' with toks := 1 }) ⟨fun b o hb hb' e => k' b o (Nat.le_of_lt hb) hb' (kp b o e), F', T', B', o', Nat.succ_pos _⟩ h67 h63 F₂ sb₂ s'.toks), by rfl⟩
  obtain ⟨rfl, m1, t1, V1, hm1⟩ := hq
  dsimp only
  generalize hL0 : J0.map (subst 32 95) = J1
  have hJ1 : J1.length ≤ 60000 := by rw [← hL0]; simpa using hJ0
  refine wpAny_execs_cons (wpAny_mono (Q := PPost s g L J1) ?_ (fun f s2 hq => ?_) fun _ _ x => x)
  · refine wpAny_Assign_Name (MethodCall_ (ld V1.fr hm1 (GM.replace (callWith_method1 (args_cons (Constant_str (args_cons (Constant_str (args_nil ?_)))))))))
    have htk := V1.tok
    refine SC.replaceW (Nat.ne_of_gt htk) (Nat.succ_ne_zero _) (Nat.ne_of_lt (Nat.lt_succ_self _)) (by decide +kernel) (by rw [S_len]; omega) (by decide +kernel) fun t' k => ?_
    rw [o_rep0, hL0]
    exact stB V1.fr fun h₂ F₂ sb₂ => ⟨rfl, _, t', V1.st h67 h63 F₂ sb₂ k, by rfl⟩
  obtain ⟨rfl, m2, t2, V2, hm2⟩ := hq
  dsimp only
  generalize hL1 : J1.map (subst 47 45) = J2
  have hJ2 : J2.length ≤ 60000 := by rw [← hL1]; simpa using hJ1
  refine wpAny_execs_cons (wpAny_mono (Q := PPost s g L J2) ?_ (fun f s3 hq => ?_) fun _ _ x => x)
  · refine wpAny_Assign_Name (MethodCall_ (ld V2.fr hm2 (GM.replace (callWith_method1 (args_cons (Constant_str (args_cons (Constant_str (args_nil ?_)))))))))
    have htk := V2.tok
    refine SC.replaceW (Nat.ne_of_gt htk) (Nat.succ_ne_zero _) (Nat.ne_of_lt (Nat.lt_succ_self _)) (by decide +kernel) (by rw [S_len]; omega) (by decide +kernel) fun t' k => ?_
    rw [o_rep1, hL1]
    exact stB V2.fr fun h₂ F₂ sb₂ => ⟨rfl, _, t', V2.st h67 h63 F₂ sb₂ k, by rfl⟩
  obtain ⟨rfl, m3, t3, V3, hm3⟩ := hq
  dsimp only
  generalize hL2 : J2.map (subst 92 45) = J3
  have hJ3 : J3.length ≤ 60000 := by rw [← hL2]; simpa using hJ2
  refine wpAny_execs_cons (wpAny_mono (Q := PPost s g L J3) ?_ (fun f s4 hq => ?_) fun _ _ x => x)
  · refine wpAny_Assign_Name (MethodCall_ (ld V3.fr hm3 (GM.replace (callWith_method1 (args_cons (Constant_str (args_cons (Constant_str (args_nil ?_)))))))))
    have htk := V3.tok
    refine SC.replaceW (Nat.ne_of_gt htk) (Nat.succ_ne_zero _) (Nat.ne_of_lt (Nat.lt_succ_self _)) (by decide +kernel) (by rw [S_len]; omega) (by decide +kernel) fun t' k => ?_
    rw [o_rep2, hL2]
    exact stB V3.fr fun h₂ F₂ sb₂ => ⟨rfl, _, t', V3.st h67 h63 F₂ sb₂ k, by rfl⟩
  obtain ⟨rfl, m4, t4, V4, hm4⟩ := hq
  dsimp only
  generalize hL3 : J3.map (subst 58 45) = J4
  have hJ4 : J4.length ≤ 60000 := by rw [← hL3]; simpa using hJ3
  refine wpAny_execs_cons (wpAny_mono (Q := PPost s g L J4) ?_ (fun f s5 hq => ?_) fun _ _ x => x)
  · refine wpAny_Assign_Name (MethodCall_ (ld V4.fr hm4 (GM.replace (callWith_method1 (args_cons (Constant_str (args_cons (Constant_str (args_nil ?_)))))))))
    have htk := V4.tok
    refine SC.replaceW (Nat.ne_of_gt htk) (Nat.succ_ne_zero _) (Nat.ne_of_lt (Nat.lt_succ_self _)) (by decide +kernel) (by rw [S_len]; omega) (by decide +kernel) fun t' k => ?_
    rw [o_rep3, hL3]
    exact stB V4.fr fun h₂ F₂ sb₂ => ⟨rfl, _, t', V4.st h67 h63 F₂ sb₂ k, by rfl⟩
  obtain ⟨rfl, m5, t5, V5, hm5⟩ := hq
  dsimp only
  generalize hL4 : J4.map (subst 59 45) = J5
  have hJ5 : J5.length ≤ 60000 := by rw [← hL4]; simpa using hJ4
  refine wpAny_execs_cons (wpAny_mono (Q := PPost s g L J5) ?_ (fun f s6 hq => ?_) fun _ _ x => x)
  · refine wpAny_Assign_Name (MethodCall_ (ld V5.fr hm5 (GM.replace (callWith_method1 (args_cons (Constant_str (args_cons (Constant_str (args_nil ?_)))))))))
    have htk := V5.tok
    refine SC.replaceW (Nat.ne_of_gt htk) (Nat.succ_ne_zero _) (Nat.ne_of_lt (Nat.lt_succ_self _)) (by decide +kernel) (by rw [S_len]; omega) (by decide +kernel) fun t' k => ?_
    rw [o_rep4, hL4]
    exact stB V5.fr fun h₂ F₂ sb₂ => ⟨rfl, _, t', V5.st h67 h63 F₂ sb₂ k, by rfl⟩
  obtain ⟨rfl, m6, t6, V6, hm6⟩ := hq
  dsimp only
  generalize hL5 : J5.map (subst 34 45) = J6
  have hJ6 : J6.length ≤ 60000 := by rw [← hL5]; simpa using hJ5
  refine wpAny_execs_cons (wpAny_mono (Q := PPost s g L J6) ?_ (fun f s7 hq => ?_) fun _ _ x => x)
  · refine wpAny_Assign_Name (MethodCall_ (ld V6.fr hm6 (GM.replace (callWith_method1 (args_cons (Constant_str (args_cons (Constant_str (args_nil ?_)))))))))
    have htk := V6.tok
    refine SC.replaceW (Nat.ne_of_gt htk) (Nat.succ_ne_zero _) (Nat.ne_of_lt (Nat.lt_succ_self _)) (by decide +kernel) (by rw [S_len]; omega) (by decide +kernel) fun t' k => ?_
    rw [o_rep5, hL5]
    exact stB V6.fr fun h₂ F₂ sb₂ => ⟨rfl, _, t', V6.st h67 h63 F₂ sb₂ k, by rfl⟩
  obtain ⟨rfl, m7, t7, V7, hm7⟩ := hq
  dsimp only
  generalize hL6 : J6.map (subst 40 45) = J7
  have hJ7 : J7.length ≤ 60000 := by rw [← hL6]; simpa using hJ6
  refine wpAny_execs_cons (wpAny_mono (Q := PPost s g L J7) ?_ (fun f s8 hq => ?_) fun _ _ x => x)
  · refine wpAny_Assign_Name (MethodCall_ (ld V7.fr hm7 (GM.replace (callWith_method1 (args_cons (Constant_str (args_cons (Constant_str (args_nil ?_)))))))))
    have htk := V7.tok
    refine SC.replaceW (Nat.ne_of_gt htk) (Nat.succ_ne_zero _) (Nat.ne_of_lt (Nat.lt_succ_self _)) (by decide +kernel) (by rw [S_len]; omega) (by decide +kernel) fun t' k => ?_
    rw [o_rep6, hL6]
    exact stB V7.fr fun h₂ F₂ sb₂ => ⟨rfl, _, t', V7.st h67 h63 F₂ sb₂ k, by rfl⟩
  obtain ⟨rfl, m8, t8, V8, hm8⟩ := hq
  dsimp only
  generalize hL7 : J7.map (subst 41 45) = J8
  have hJ8 : J8.length ≤ 60000 := by rw [← hL7]; simpa using hJ7
  refine wpAny_execs_cons (wpAny_mono (Q := PPost s g L J8) ?_ (fun f s9 hq => ?_) fun _ _ x => x)
  · refine wpAny_Assign_Name (MethodCall_ (ld V8.fr hm8 (GM.replace (callWith_method1 (args_cons (Constant_str (args_cons (Constant_str (args_nil ?_)))))))))
    have htk := V8.tok
    refine SC.replaceW (Nat.ne_of_gt htk) (Nat.succ_ne_zero _) (Nat.ne_of_lt (Nat.lt_succ_self _)) (by decide +kernel) (by rw [S_len]; omega) (by decide +kernel) fun t' k => ?_
    rw [o_rep7, hL7]
    exact stB V8.fr fun h₂ F₂ sb₂ => ⟨rfl, _, t', V8.st h67 h63 F₂ sb₂ k, by rfl⟩
  obtain ⟨rfl, m9, t9, V9, hm9⟩ := hq
  dsimp only
  generalize hL8 : rmU J8 = J9
  have hJ9 : J9.length ≤ 60000 := by rw [← hL8]; exact Nat.le_trans (rmU_len _) hJ8
  refine wpAny_execs_cons (wpAny_mono (Q := PPost s g L J9) ?_ (fun f s10 hq => ?_) fun _ _ x => x)
  · refine wpAny_Assign_Name (MethodCall_ (ld V9.fr hm9 (GM.replace (callWith_method1 (args_cons (Constant_str (args_cons (Constant_str (args_nil ?_)))))))))
    have htk := V9.tok
    refine SC.replaceW (Nat.ne_of_gt htk) (Nat.succ_ne_zero _) (Nat.ne_of_lt (Nat.lt_succ_self _)) (by decide +kernel) (by rw [S_len]; omega) (by decide +kernel) fun t' k => ?_
    rw [o_unk, hL8]
    exact stB V9.fr fun h₂ F₂ sb₂ => ⟨rfl, _, t', V9.st h67 h63 F₂ sb₂ k, by rfl⟩
  obtain ⟨rfl, m10, t10, V10, hm10⟩ := hq
  dsimp only
  refine wpAny_execs_cons (wpAny_mono (Q := PPost s g L (sq J9)) ?_ (fun f s11 hq => ?_) fun _ _ x => x)
  · refine wpAny_While (codeAny_whileLoop (fun n s' => ∃ m t l, PS s g L m s' ∧ m (Str.ofString "platform") = some (.str (S l) t) ∧ l.length = n ∧ sq l = sq J9 ∧ l.length ≤ 60000) (fun n s' hI => ?_) J9.length ⟨m10, t10, J9, V10, hm10, rfl, rfl, hJ9⟩)
    obtain ⟨m, t, l, V, hm, hl, hsq, hln⟩ := hI
    refine isTrue_plain (Constant_bool (wpAny_truthy_bool ?_))
    rw [if_pos rfl]
    refine wpAny_execs_cons (wpAny_Assign_Name (MethodCall_ (ld V.fr hm (GM.replace (callWith_method1 (args_cons (Constant_str (args_cons (Constant_str (args_nil ?_))))))))))
    have htk := V.tok
    refine SC.replaceW (Nat.ne_of_gt htk) (Nat.succ_ne_zero _) (Nat.ne_of_lt (Nat.lt_succ_self _)) (by decide +kernel) (by rw [S_len]; omega) (by decide +kernel) fun t' k => ?_
    rw [o_dd]
    refine stB V.fr fun h₂ F₂ sb₂ => ?_
    have V' := V.st h67 h63 F₂ sb₂ k
    have hm' : (fun y => if y = Str.ofString "cleaned" then some (Value.str (S (dd l)) t') else m y) (Str.ofString "platform") = some (.str (S l) t) := mne hm (by decide)
    dsimp only
    refine wpAny_execs_cons (wpAny_If (wpAny_isTrue_Compare1 (ld V'.fr (by rfl) (ld V'.fr hm' (P.eq_str (wpAny_truthy_bool ?_))))))
    rw [S_list, S_list]
    by_cases hd : dd l = l
    · rw [if_pos (by rw [hd]; exact beq_self_eq_true _)]
      refine wpAny_execs_cons (wpAny_Break ?_)
      have hfix := dd_fix l.length l (Nat.le_refl _) (by rw [hd])
      refine ⟨rfl, _, t, V', ?_⟩
      rw [← hsq, hfix.2.1]; exact hm'
    · rw [if_neg (by simpa using hd)]
      refine wpAny_execs_nil ?_
      refine wpAny_execs_cons (wpAny_Assign_Name (ld V'.fr (by rfl) (stB V'.fr fun h₃ F₃ sb₃ => ?_)))
      refine wpAny_execs_nil ⟨(dd l).length, ?_, _, t', dd l, V'.st h67 h63 F₃ sb₃ _, by rfl, rfl, (sq_dd l.length l (Nat.le_refl _) false).trans hsq, Nat.le_trans (dd_len l) hln⟩
      have h1 := dd_len l
      rcases Nat.lt_or_ge (dd l).length l.length with h2 | h2
      · omega
      · exact absurd (dd_fix l.length l (Nat.le_refl _) (by omega)).1 hd
  obtain ⟨rfl, m11, t11, V11, hm11⟩ := hq
  dsimp only
  have hsql : ∀ (l : List Nat) (b : Bool), (sqGo b l).length ≤ l.length := by
    intro l
    induction l with
    | nil => intro b; simp [sqGo]
    | cons c r ih =>
      intro b
      simp only [sqGo]
      have h1 := ih true
      have h2 := ih false
      split
      · split
        · simp; omega
        · simp; omega
      · simp; omega
  have hs9 : (sq J9).length ≤ 60000 := Nat.le_trans (hsql J9 false) hJ9
  refine wpAny_execs_cons (wpAny_mono (Q := PPost s g L (dropT (sq J9))) ?_ (fun f s12 hq => ?_) fun _ _ x => x)
  · refine wpAny_While (codeAny_whileLoop (fun n s' => ∃ m t l, PS s g L m s' ∧ m (Str.ofString "platform") = some (.str (S l) t) ∧ l.length = n ∧ dropT l = dropT (sq J9) ∧ l.length ≤ 60000) (fun n s' hI => ?_) (sq J9).length ⟨m11, t11, sq J9, V11, hm11, rfl, rfl, hs9⟩)
    obtain ⟨m, t, l, V, hm, hl, hdt, hln⟩ := hI
    refine isTrue_and (isTrue_plain (ld V.fr hm (P.truthy_str (by rw [S_len]; omega) ?_)))
    rw [S_len]
    cases hlast : l.getLast? with
    | none =>
      have hnil : l = [] := by cases l with | nil => rfl | cons c r => simp [List.getLast?_cons] at hlast
      rw [if_neg (by rw [hnil]; decide)]
      rw [if_neg (by decide)]
      refine wpAny_execs_nil ⟨rfl, m, t, V.tk _ (Nat.succ_pos _), ?_⟩
      rw [← hdt, dropT_end l (by rw [hlast]; simp)]; exact hm
    | some c =>
      have hne : l ≠ [] := by intro q; rw [q] at hlast; cases hlast
      have hl1 : 1 ≤ l.length := by cases l with | nil => exact absurd rfl hne | cons _ _ => simp
      rw [if_pos (by simp; exact hne)]
      have V1 := V.tk (s'.toks + 1 + 1) (Nat.succ_pos _)
      refine isTrue_and (wpAny_isTrue_Compare1 (Subscript_UnaryOp (ld V1.fr hm (wpAny_UnaryOp (wpAny_Constant_int (P.neg_int ⟨"str", _, PySem.F.slot_str_getitem.lookup, typeIs_str _ _ _, P.getItem_str (c := c) (by decide) (last_item hlast) (Constant_str (P.eq_str (wpAny_truthy_bool ?_)))⟩))))))
      rw [o_dash]
      by_cases hc : c = 45
      · rw [if_pos (by rw [hc]; decide)]
        refine isTrue_and_nil ?_
        rw [if_pos rfl]
        have V2 := V.tk (s'.toks + 1 + 1 + 1 + 1 + 1 + 1) (Nat.succ_pos _)
        refine wpAny_execs_cons (wpAny_Assign_Name (wpAny_Subscript_str_slice (ld V2.fr hm (evalPart_none_step (evalPart_some_step (wpAny_UnaryOp (wpAny_Constant_int (P.neg_int ⟨S l, t, none, some (-1, _), rfl, rfl, rfl, ?_⟩))))))))
        refine post_val_or_str ⟨?_, fun t' k => ?_⟩
        · exact Nat.le_trans (Txt.slice_le (S l) none (some (-1))) (by rw [S_len]; exact Nat.le_trans hln (by decide))
        · show wpAny _ _ (storeName _ _ (.str (Txt.slice (S l) none (some (-1))) t')) _ _ _
          rw [slice_init]
          have V3 := V2.push { cls := .type "slice", data := .fields #[.none, .int (-1) (s'.toks + 1 + 1 + 1 + 1 + 1 + 1 + 1), .none] } 1 (by decide)
          refine stB V3.fr fun h₃ F₃ sb₃ => wpAny_execs_nil ⟨l.dropLast.length, ?_, _, t', l.dropLast, V3.st h67 h63 F₃ sb₃ k, by rfl, rfl, ?_, ?_⟩
          · simp; omega
          · rw [dropT_more l (by rw [hlast, hc])]; exact hdt
          · simp; omega
      · rw [if_neg (by simpa using hc)]
        rw [if_neg (by decide)]
        refine wpAny_execs_nil ⟨rfl, m, t, V.tk _ (Nat.succ_pos _), ?_⟩
        rw [← hdt, dropT_end l (by rw [hlast]; simpa using hc)]; exact hm
  obtain ⟨rfl, m12, t12, V12, hm12⟩ := hq
  dsimp only
  refine wpAny_execs_cons (wpAny_Return_some (ld V12.fr hm12 ?_))
  have e : dropT (sq J9) = platL xs := by
    unfold platL mapsL
    rw [hJ, hL0, hL1, hL2, hL3, hL4, hL5, hL6, hL7, hL8]
  rw [e]
  exact h' _ _ _ V12
end Mine
end

section
set_option autoImplicit false
set_option maxRecDepth 100000
set_option maxHeartbeats 1000000
namespace Mine
open PySem PySem.W PySem.Calls PyProof.Rows

abbrev Tk := List Nat
noncomputable def toks16 : List Tk := [[46], [46], [10], [13], [32], unkL, unkL, [45], [47], [97], [53], [], [46], [10], [], [114, 99]]
noncomputable def tokOf (x : Int) : Tk := toks16.getD (x.fmod 16).toNat []
noncomputable def specs : List Nat := [47, 92, 58, 59, 34, 40, 41]
noncomputable def specOf (x : Int) : Nat := specs.getD ((x.fdiv 16).fmod 7).toNat 0
noncomputable def textsGo : List (List Tk) → List Tk → List Int → List (List Tk)
  | init, last, [] => init ++ [last]
  | init, last, x :: r => if tokOf x = [] then textsGo (init ++ [last]) [] r else if tokOf x = [47] then textsGo init (last ++ [[specOf x]]) r else textsGo init (last ++ [tokOf x]) r
noncomputable def textsL (xs : List Int) : List (List Tk) := textsGo [] [] xs

abbrev lobj (vs : Array Value) (k : Nat) : Obj := { cls := .type "list", data := .seq vs k }
noncomputable def StrL (h : Heap) (r : Addr) (ts : List Tk) : Prop := ∃ vs k, h.get? r = some (lobj vs k) ∧ StrsAre vs.toList (ts.map S)
inductive LAre (h : Heap) : List Addr → List (List Tk) → Prop
  | nil : LAre h [] []
  | cons {r : Addr} {ts : List Tk} {rs : List Addr} {tss : List (List Tk)} : StrL h r ts → LAre h rs tss → LAre h (r :: rs) (ts :: tss)
theorem StrL.at {h h' : Heap} {r : Addr} {ts : List Tk} (x : StrL h r ts) (k : ∀ o, h.get? r = some o → h'.get? r = some o) : StrL h' r ts := let ⟨vs, kk, a, b⟩ := x; ⟨vs, kk, k _ a, b⟩
theorem LAre.at {h h' : Heap} {rs : List Addr} {tss : List (List Tk)} (x : LAre h rs tss) (k : ∀ r ∈ rs, ∀ o, h.get? r = some o → h'.get? r = some o) : LAre h' rs tss := by
  induction x with
  | nil => exact .nil
  | cons hr _ ih => exact .cons (hr.at fun o e => k _ (by simp) o e) (ih fun r hr o e => k r (by simp [hr]) o e)
theorem LAre.snoc {h : Heap} {rs : List Addr} {tss : List (List Tk)} (x : LAre h rs tss) {r : Addr} {ts : List Tk} (hr : StrL h r ts) : LAre h (rs ++ [r]) (tss ++ [ts]) := by
  induction x with
  | nil => exact .cons hr .nil
  | cons a _ ih => exact .cons a ih
theorem LAre.get {h : Heap} {rs : List Addr} {tss : List (List Tk)} (x : LAre h rs tss) : ∀ (i : Nat) (r : Addr), rs[i]? = some r → ∃ ts, tss[i]? = some ts ∧ StrL h r ts := by
  induction x with
  | nil => intro i r e; cases e
  | cons a _ ih =>
    intro i r e
    cases i with
    | zero => injection e with e; subst e; exact ⟨_, rfl, a⟩
    | succ i => exact ih i r (by simpa using e)
theorem LAre.len {h : Heap} {rs : List Addr} {tss : List (List Tk)} (x : LAre h rs tss) : rs.length = tss.length := by
  induction x with
  | nil => rfl
  | cons _ _ ih => simp [ih]
noncomputable def LL (h : Heap) (D : Addr) (tss : List (List Tk)) : Prop := ∃ rs k, h.get? D = some (lobj (rs.map Value.ref).toArray k) ∧ LAre h rs tss
theorem LL.keeps {h h' : Heap} {D : Addr} {tss : List (List Tk)} (x : LL h D tss) (k : ∀ b o, h.get? b = some o → h'.get? b = some o) : LL h' D tss :=
  let ⟨rs, kk, a, b⟩ := x; ⟨rs, kk, k _ _ a, b.at fun _ _ _ e => k _ _ e⟩

/-- the state ahead of a turn of _law_texts -/
structure TxS (s0 : Heap) (L D T I X : Addr) (tv : List Value) (m : Str → Option Value) (rs : List Addr) (rl : Addr) (init : List (List Tk)) (last : List Tk) (h : Heap) : Prop where
  fr : Fr s0 L h m
  mt : m (Str.ofString "texts") = some (.ref D)
  mo : m (Str.ofString "tokens") = some (.ref T)
  tup : h.get? T = some { cls := .type "tuple", data := .seq tv.toArray }
  d : ∃ k, h.get? D = some (lobj ((rs ++ [rl]).map Value.ref).toArray k)
  ls : LAre h rs init
  l : StrL h rl last
  nd : rl ∉ rs ∧ D ∉ rs ∧ D ≠ rl
  nw : ∀ b ∈ D :: rl :: rs, s0.get? b = none ∧ b ≠ L ∧ b ≠ T ∧ b ≠ I ∧ b ≠ X
section
variable {s0 h h' : Heap} {L D T I X rl : Addr} {tv : List Value} {m m' : Str → Option Value} {rs : List Addr} {init : List (List Tk)} {last : List Tk}
theorem TxS.move (x : TxS s0 L D T I X tv m rs rl init last h) (F : Fr s0 L h' m') (mt : m' (Str.ofString "texts") = some (.ref D)) (mo : m' (Str.ofString "tokens") = some (.ref T)) (k : ∀ b ∈ T :: D :: rl :: rs, ∀ o, h.get? b = some o → h'.get? b = some o) : TxS s0 L D T I X tv m' rs rl init last h' where
  fr := F
  mt := mt
  mo := mo
  tup := k T (by simp) _ x.tup
  d := let ⟨kk, e⟩ := x.d; ⟨kk, k D (by simp) _ e⟩
  ls := x.ls.at fun r hr o e => k r (by simp [hr]) o e
  l := x.l.at fun o e => k rl (by simp) o e
  nd := x.nd
  nw := x.nw
end
section
variable {s0 h h' : Heap} {L D T I X rl : Addr} {tv : List Value} {m : Str → Option Value} {rs : List Addr} {init : List (List Tk)} {last : List Tk}
theorem TxS.app (x : TxS s0 L D T I X tv m rs rl init last h) {y : Tk} (sb : Heap.SameBut rl h h') (l : StrL h' rl (last ++ [y])) : TxS s0 L D T I X tv m rs rl init (last ++ [y]) h' where
  fr := x.fr.change sb (x.nw rl (by simp)).2.1 (x.nw rl (by simp)).1
  mt := x.mt
  mo := x.mo
  tup := (sb.2 T (x.nw rl (by simp)).2.2.1.symm).trans x.tup
  d := let ⟨kk, e⟩ := x.d; ⟨kk, (sb.2 D x.nd.2.2).trans e⟩
  ls := x.ls.at fun r hr o e => (sb.2 r (fun q => x.nd.1 (q ▸ hr))).trans e
  l := l
  nd := x.nd
  nw := x.nw
end
theorem strs_of_data {vs : List Value} {ys : List Str} (h : DataAre vs (ys.map PyData.str)) : StrsAre vs ys := by
  generalize hz : ys.map PyData.str = zs at h
  induction h generalizing ys with
  | nil => cases ys with | nil => exact .nil | cons _ _ => cases hz
  | cons hv _ ih =>
    cases ys with
    | nil => cases hz
    | cons y ys =>
      injection hz with h1 h2
      subst h1
      cases hv { objs := #[] } with
      | str => exact .cons _ _ (ih h2)
theorem Tuple_strs {M : Model} {A : Around} {E : Value → Shared → Prop} {env : Env} {s : Shared} {elts : List Expr} {k : Nat} {pos : Pos} {ys : List Str} {Q' : Value → Shared → Prop} (hl : tupLitsOf elts = some (ys.map PyData.str)) (hsz : ys.length ≤ 100)
    (h : ∀ vs tk, StrsAre vs ys → Q' (.ref s.heap.objs.size) { s with heap := s.heap.push { cls := .type "tuple", data := .seq vs.toArray }, toks := tk }) :
    wpAny M A (eval (.Tuple elts k pos) env) Q' E s := by
  refine PyProof.Rows.Tuple_ (spliced_lits elts _ s _ hl fun vs tk hvs => ?_)
  refine wpAny_newTuple (h vs tk (strs_of_data hvs)) ?_
  rw [dataAre_len hvs, List.length_map]
  exact Nat.le_trans hsz (by decide)
theorem intsAre_get {vs : List Value} {xs : List Int} (h : IntsAre vs xs) : ∀ (i : Nat) (v : Value), vs[i]? = some v → ∃ x t, xs[i]? = some x ∧ v = .int x t := by
  induction h with
  | nil => intro i v e; cases e
  | cons n t _ ih =>
    intro i v e
    cases i with
    | zero => injection e with e; exact ⟨n, t, rfl, e.symm⟩
    | succ i => exact ih i v (by simpa using e)
theorem intsAre_len {vs : List Value} {xs : List Int} (h : IntsAre vs xs) : vs.length = xs.length := by
  induction h with
  | nil => rfl
  | cons _ _ _ ih => simp [ih]
theorem fmod_lt (x : Int) (b : Nat) (hb : 0 < b) : 0 ≤ x.fmod b ∧ x.fmod b < b := by
  rw [Int.fmod_eq_emod_of_nonneg _ (by omega)]
  exact ⟨Int.emod_nonneg _ (by omega), Int.emod_lt_of_pos _ (by omega)⟩
theorem tok_at {tv : List Value} (h : StrsAre tv (toks16.map S)) (x : Int) : ∃ t, tv.toArray[(x.fmod 16).toNat]? = some (.str (S (tokOf x)) t) ∧ seqIndex? (x.fmod 16) tv.toArray.size = some (x.fmod 16).toNat := by
  have hl : tv.length = 16 := strsAre_len h
  have hb := fmod_lt x 16 (by decide)
  have hb2 : x.fmod 16 < 16 := hb.2
  have hb1 : 0 ≤ x.fmod 16 := hb.1
  have hj : (x.fmod 16).toNat < 16 := by omega
  obtain ⟨y, t, h1, h2⟩ := strsAre_get h toks16 rfl (x.fmod 16).toNat (tv[(x.fmod 16).toNat]'(by omega)) (by simp)
  refine ⟨t, ?_, ?_⟩
  · have : tokOf x = y := by unfold tokOf; rw [List.getD_eq_getElem?_getD, h1]; rfl
    rw [this, ← h2]
    simp
  · refine StrLaws.seqIndex_nonneg hb1 ?_
    rw [List.size_toArray, hl]; exact hb2
theorem spec_at (x : Int) : (seqIndex? ((x.fdiv 16).fmod 7) (S specs).length).bind ((S specs).cps[·]?) = some (specOf x) := by
  have hb := fmod_lt (x.fdiv 16) 7 (by decide)
  have hb1 : 0 ≤ (x.fdiv 16).fmod 7 := hb.1
  have hb2 : (x.fdiv 16).fmod 7 < 7 := hb.2
  have hl : specs.length = 7 := rfl
  rw [S_len, StrLaws.seqIndex_nonneg hb1 (by rw [hl]; exact hb2)]
  unfold specOf
  have : ((x.fdiv 16).fmod 7).toNat < specs.length := by omega
  simp [List.getD_eq_getElem?_getD, List.getElem?_eq_getElem this]
theorem goby (x : Int) : Builtin.divisionGoesByPylong x 16 = false := by
  unfold Builtin.divisionGoesByPylong
  rfl
theorem textsGo_drop {xs : List Int} {i : Nat} {x : Int} (h : xs[i]? = some x) : xs.drop i = x :: xs.drop (i + 1) := by
  have hi : i < xs.length := by
    rcases Nat.lt_or_ge i xs.length with h' | h'
    · exact h'
    · rw [List.getElem?_eq_none h'] at h; cases h
  rw [List.drop_eq_getElem_cons hi]
  rw [List.getElem?_eq_getElem hi] at h
  injection h with h; rw [h]
theorem StrL.snoc {h' : Heap} {r : Addr} {ts : List Tk} {vs : Array Value} {k : Nat} {x : Tk} {t : Tok} (hv : StrsAre vs.toList (ts.map S)) (e : h'.get? r = some (lobj (vs.push (.str (S x) t)) k)) : StrL h' r (ts ++ [x]) :=
  ⟨_, _, e, by rw [Array.toList_push, List.map_append]; exact strsAre_push hv _ _⟩
theorem texts_call {w : World} {A : Around} {E : Value → Shared → Prop} {s : Shared} {p : Program} {loose : List Str} {mg mb : Str → Option Value} {X : Addr} {vals : List Value} {xs : List Int} {Q : Value → Shared → Prop}
    (G : Gd w p loose mg mb s.heap) (hX : s.heap.IsList X vals.toArray) (hv : IntsAre vals xs) (hn : xs.length ≤ 100) (hh : A.handled = none) (hroom : A.depth < recursionLimit)
    (h : ∀ h' k D, (∀ b o, s.heap.get? b = some o → h'.get? b = some o) → LL h' D (textsL xs) → Q (.ref D) { s with heap := h', toks := k }) : wpC (model Pr w) A (call (.ref 75) [.ref X]) Q E s := by
  refine call_fnC G (f := 75) (binds := [(Str.ofString "drawn", .ref X)]) (by rfl) (by rfl) hroom (by rfl) (by rfl) (by rfl) (by rfl) (by rfl) (by decide) fun L h₁ hL F₁ => ?_
  refine wpC_execs_cons ?_
  refine wpC_of ?_
  refine wpAny_Assign_Name ?_
  refine Tuple_strs (ys := toks16.map S) ?_ ?_ ?_
  · kernel_rfl
  · decide
  intro tv tk₂ htv
  refine stB (F₁.push _) fun h₂ F₂ sb₂ => ?_
  dsimp only
  have hL1 : L < h₁.objs.size := F₁.ns.lt
  generalize hTT : h₁.objs.size = T at *
  have hT2 : h₂.get? T = some { cls := .type "tuple", data := .seq tv.toArray } := (sb₂.2 T (Nat.ne_of_gt hL1)).trans (hTT ▸ Heap.get?_push_size _ rfl)
  have hTs : s.heap.get? T = none := Heap.get?_none_of_le (Nat.le_of_lt (hL ▸ hL1))
  refine wpC_execs_cons ?_
  refine wpC_of ?_
  refine wpAny_Assign_Name ?_
  refine List_ ?_
  refine args_cons ?_
  refine List_ ?_
  refine args_nil ?_
  refine wpAny_newList ?_
  refine args_nil ?_
  refine wpAny_newList ?_
  refine stB ((F₂.push _).push _) fun h₃ F₃ sb₃ => ?_
  dsimp only
  have hX3 : h₃.IsList X vals.toArray := hX.at fun o e => F₃.keep _ _ e
  refine wpC_execs_cons ?_
  refine wpC_For ?_
  refine wpC_of ?_
  refine ld F₃ (by rfl) ?_
  refine wpAny_pyIter_list hX3 ?_
  dsimp only
  have hLh : L < h₂.objs.size := F₂.ns.lt
  have hTh : T < h₂.objs.size := Heap.lt_size hT2
  have hDs : (h₂.push { cls := .type "list", data := .seq [].toArray }).objs.size = h₂.objs.size + 1 := Heap.size_push ..
  have g1 : ((h₂.push { cls := .type "list", data := .seq [].toArray }).push { cls := .type "list", data := .seq [Value.ref h₂.objs.size].toArray }).get? (h₂.push { cls := .type "list", data := .seq [].toArray }).objs.size = some _ := Heap.get?_push_size _ rfl
  have g0 : ((h₂.push { cls := .type "list", data := .seq [].toArray }).push { cls := .type "list", data := .seq [Value.ref h₂.objs.size].toArray }).get? h₂.objs.size = some _ := Heap.get?_push_of_some _ (Heap.get?_push_size _ rfl)
  generalize hDD : (h₂.push { cls := .type "list", data := .seq [].toArray }).objs.size = D at *
  generalize hr0 : h₂.objs.size = r0 at *
  have hLr : L ≠ r0 := Nat.ne_of_lt hLh
  have hLD : L ≠ D := by rw [hDs]; exact Nat.ne_of_lt (Nat.lt_succ_of_lt hLh)
  have hTr : T ≠ r0 := Nat.ne_of_lt hTh
  have hTD : T ≠ D := by rw [hDs]; exact Nat.ne_of_lt (Nat.lt_succ_of_lt hTh)
  have hD3 : h₃.get? D = some (lobj ([r0].map Value.ref).toArray 0) := (sb₃.2 D hLD.symm).trans g1
  have hr3 : h₃.get? r0 = some (lobj #[] 0) := (sb₃.2 r0 hLr.symm).trans g0
  have hT3 : h₃.get? T = some { cls := .type "tuple", data := .seq tv.toArray } := (sb₃.2 T (Nat.ne_of_gt hL1)).trans (Heap.get?_push_of_some _ (Heap.get?_push_of_some _ hT2))
  have hrs : s.heap.get? r0 = none := Heap.get?_none_of_le (Nat.le_of_lt (hL ▸ hLh))
  have hDs' : s.heap.get? D = none := by rw [hDs]; exact Heap.get?_none_of_le (Nat.le_of_lt (Nat.lt_succ_of_lt (hL ▸ hLh)))
  generalize hI : h₃.objs.size = I
  generalize hh₅ : h₃.push _ = h₅
  have h3I : h₃.get? I = none := hI ▸ Heap.get?_none_of_le (Nat.le_refl _)
  have kp5 : ∀ b o, h₃.get? b = some o → h₅.get? b = some o := fun b o e => hh₅ ▸ Heap.get?_push_of_some _ e
  obtain ⟨oX, hoX, hX'⟩ := hX3
  obtain ⟨oX0, hoX0, _⟩ := id hX
  have hXI : X ≠ I := neOf hoX h3I
  obtain ⟨oL, _, _, hoL, _⟩ := F₃.ns
  have hLI : L ≠ I := neOf hoL h3I
  have hTI : T ≠ I := neOf hT3 h3I
  have hsI : s.heap.get? I = none := by
    cases q : s.heap.get? I with
    | none => rfl
    | some o => have := F₃.keep _ _ q; rw [h3I] at this; cases this
  have T5 : TxS s.heap L D T I X tv _ [] r0 [] [] h₅ :=
    { fr := ⟨F₃.ns.keeps kp5, fun b o e => kp5 _ _ (F₃.keep b o e), F₃.above⟩
      mt := by rfl
      mo := by rfl
      tup := kp5 _ _ hT3
      d := ⟨_, kp5 _ _ hD3⟩
      ls := .nil
      l := ⟨_, _, kp5 _ _ hr3, .nil⟩
      nd := ⟨by simp, by simp, by rw [hDs]; exact Nat.succ_ne_self _⟩
      nw := by
        intro b hb
        simp only [List.mem_cons, List.not_mem_nil, or_false] at hb
        rcases hb with rfl | rfl
        · exact ⟨hDs', hLD.symm, hTD.symm, neOf hD3 h3I, (neOf hoX0 hDs').symm⟩
        · exact ⟨hrs, hLr.symm, hTr.symm, neOf hr3 h3I, (neOf hoX0 hrs).symm⟩ }
  have hW := Walks.list (prog := Pr) (w := w) (A := A.deeper (envOf (Str.ofString "_law_texts") { kind := .function, names := [(Str.ofString "drawn", .local), (Str.ofString "tokens", .local), (Str.ofString "texts", .local), (Str.ofString "x", .local), (Str.ofString "token", .local)], isGenerator := false, isCoroutine := false } L 75 (.ref 74))) hh I X hXI vals.toArray
  have hlen : vals.toArray.size = xs.length := by have := intsAre_len hv; simpa using this
  refine ⟨I, [I, X], [I], _, _, _, fun i st => ∃ h k m rs rl init last, st = { s with heap := h, toks := k } ∧ TxS s.heap L D T I X tv m rs rl init last h ∧ textsGo init last (xs.drop i) = textsL xs ∧ rs.length ≤ i ∧ last.length ≤ i,
    rfl, hW, ⟨⟨_, hh₅ ▸ hI ▸ Heap.get?_push_size _ rfl, rfl, rfl⟩, ⟨_, kp5 _ _ hoX, hX'⟩⟩, ⟨_, _, _, _, _, _, _, rfl, T5, rfl, Nat.zero_le _, Nat.zero_le _⟩, ?_, ?_⟩
  · intro i v st h' tk' hi hP hJ hst' hk'
    obtain ⟨hh', k, m, rs, rl, init, last, rfl, TJ, hgo, hrl, hll⟩ := hJ
    obtain ⟨x, tx, hx, rfl⟩ := intsAre_get hv i v (by simpa using hP)
    have hdr := textsGo_drop hx
    rw [hdr] at hgo
    have hi100 : i ≤ 100 := by omega
    have nI : ∀ b ∈ T :: D :: rl :: rs, b ∉ [I] := by
      intro b hb
      simp only [List.mem_cons] at hb
      simp only [List.mem_cons, List.not_mem_nil, or_false]
      rcases hb with rfl | hb
      · exact hTI
      · exact (TJ.nw b (by simpa using hb)).2.2.2.1
    have nL : ∀ b ∈ T :: D :: rl :: rs, b ≠ L := by
      intro b hb
      simp only [List.mem_cons] at hb
      rcases hb with rfl | hb
      · exact Nat.ne_of_gt hL1
      · exact (TJ.nw b (by simpa using hb)).2.1
    have hXL : X ≠ L := fun q => by rw [q, hL, Heap.get?_none_of_le (Nat.le_refl _)] at hoX0; cases hoX0
    have F' : Fr s.heap L h' m := ⟨TJ.fr.ns.at fun o e => hk' _ o (by simpa using hLI) e, fun b o e => hk' b o (by simp; exact neOf e hsI) (TJ.fr.keep b o e), TJ.fr.above⟩
    have T1 := TJ.move F' TJ.mt TJ.mo fun b hb o e => hk' b o (nI b hb) e
    have fin : ∀ h'' k'' m'' rs' rl' init' last', TxS s.heap L D T I X tv m'' rs' rl' init' last' h'' → (∀ b, b = I ∨ b = X → ∀ o, h'.get? b = some o → h''.get? b = some o) → textsGo init' last' (xs.drop (i + 1)) = textsL xs → rs'.length ≤ i + 1 → last'.length ≤ i + 1 →
        (h''.IsListIter I X (i + 1) ∧ h''.IsList X vals.toArray) ∧ ∃ h k m rs rl init last, ({ s with heap := h'', toks := k'' } : Shared) = { s with heap := h, toks := k } ∧ TxS s.heap L D T I X tv m rs rl init last h ∧ textsGo init last (xs.drop (i + 1)) = textsL xs ∧ rs.length ≤ i + 1 ∧ last.length ≤ i + 1 :=
      fun h'' k'' m'' rs' rl' init' last' TT hk hg h1 h2 => ⟨⟨hst'.1.at fun o e => hk I (.inl rfl) o e, hst'.2.at fun o e => hk X (.inr rfl) o e⟩, _, _, _, _, _, _, _, rfl, TT, hg, h1, h2⟩
    refine wpC_of ?_
    refine wpAny_of_eq rfl ?_
    refine wpC_of ?_
    refine wpAny_assign_Name ?_
    refine stB T1.fr fun h₁ F₁ sb₁ => ?_
    have T2 := T1.move F₁ (mne T1.mt (by decide)) (mne T1.mo (by decide)) (fun b hb o e => (sb₁.2 b (nL b hb)).trans e)
    have k2 : ∀ b, b = I ∨ b = X → ∀ o, h'.get? b = some o → h₁.get? b = some o := fun b hb o e => (sb₁.2 b (by rcases hb with rfl | rfl; exact hLI.symm; exact hXL)).trans e
    dsimp only
    obtain ⟨tt, htt, hsi⟩ := tok_at htv x
    have hb := fmod_lt x 16 (by decide)
    have hb1 : 0 ≤ x.fmod 16 := hb.1
    have hb2 : x.fmod 16 < 16 := hb.2
    refine wpC_execs_cons ?_
    refine wpC_of ?_
    refine wpAny_Assign_Name ?_
    refine PyProof.Rows.Subscript_ ?_
    refine ld T2.fr T2.mo ?_
    refine wpAny_BinOp ?_
    refine ld T2.fr (by rfl) ?_
    refine wpAny_Constant_int ?_
    refine mod_int' (by decide) ?_
    refine item_tuple (items := tv.toArray) ⟨_, T2.tup, rfl, _, rfl⟩ (by omega) (by omega) hsi htt ?_
    refine stB T2.fr fun h₂' F₂' sb₂' => ?_
    have T3 := T2.move F₂' (mne T2.mt (by decide)) (mne T2.mo (by decide)) (fun b hb o e => (sb₂'.2 b (nL b hb)).trans e)
    have k3 : ∀ b, b = I ∨ b = X → ∀ o, h'.get? b = some o → h₂'.get? b = some o := fun b hb o e => (sb₂'.2 b (by rcases hb with rfl | rfl; exact hLI.symm; exact hXL)).trans (k2 b hb o e)
    dsimp only
    refine wpC_execs_cons ?_
    refine wpC_If ?_
    refine wpAny_isTrue_Compare1 ?_
    refine ld T3.fr (by rfl) ?_
    refine Constant_str ?_
    refine P.eq_str ?_
    refine wpAny_truthy_bool ?_
    rw [S_list, show (Str.ofString "").cps.toList = [] from by decide +kernel]
    by_cases hc1 : tokOf x = []
    · rw [if_pos (by rw [hc1]; rfl)]
      refine wpC_execs_cons ?_
      refine wpC_of ?_
      refine wpAny_Expr ?_
      refine MethodCall_ ?_
      refine ld T3.fr T3.mt ?_
      obtain ⟨kd, hd⟩ := T3.d
      refine getMethod_list_append hd rfl rfl ?_
      refine callWith_method1 ?_
      refine args_cons ?_
      refine List_ ?_
      refine args_nil ?_
      refine wpAny_newList ?_
      refine args_nil ?_
      dsimp only
      have kpn : ∀ b o, h₂'.get? b = some o → (h₂'.push { cls := .type "list", data := .seq [].toArray }).get? b = some o := fun b o e => Heap.get?_push_of_some _ e
      have hrn : (h₂'.push { cls := .type "list", data := .seq [].toArray }).get? h₂'.objs.size = some (lobj #[] 0) := Heap.get?_push_size _ rfl
      have hfn : h₂'.get? h₂'.objs.size = none := Heap.get?_none_of_le (Nat.le_refl _)
      generalize hrr : h₂'.objs.size = rn at *
      refine append_at (kpn _ _ hd) ?_ ?_
      · intro h₄ sb₄ hd₄
        dsimp only
        have rne : ∀ b o, h₂'.get? b = some o → b ≠ rn := fun b o e => neOf e hfn
        have nmem : ∀ b ∈ T :: D :: rl :: rs, b ≠ rn := by
          intro b hb
          simp only [List.mem_cons] at hb
          rcases hb with rfl | rfl | rfl | hb
          · exact rne _ _ T3.tup
          · exact rne _ _ hd
          · obtain ⟨_, _, e, _⟩ := T3.l; exact rne _ _ e
          · obtain ⟨j, hj⟩ := List.getElem?_of_mem hb
            obtain ⟨_, _, _, _, e, _⟩ := T3.ls.get j b hj
            exact rne _ _ e
        have hDw := T3.nw D (by simp)
        have T4 : TxS s.heap L D T I X tv _ (rs ++ [rl]) rn (init ++ [last]) [] h₄ :=
          { fr := (T3.fr.keeps kpn).change sb₄ hDw.2.1 hDw.1
            mt := T3.mt
            mo := T3.mo
            tup := (sb₄.2 T hDw.2.2.1.symm).trans (kpn _ _ T3.tup)
            d := ⟨kd + 1, by rw [hd₄]; simp⟩
            ls := (T3.ls.snoc T3.l).at fun r hr o e => (sb₄.2 r (fun q => by
              simp only [List.mem_append, List.mem_singleton] at hr
              rcases hr with hr | hr
              · exact T3.nd.2.1 (q ▸ hr)
              · exact T3.nd.2.2 (q.symm.trans hr))).trans (kpn _ _ e)
            l := ⟨#[], 0, (sb₄.2 rn (nmem D (by simp)).symm).trans hrn, .nil⟩
            nd := ⟨fun hm => by
                simp only [List.mem_append, List.mem_singleton] at hm
                rcases hm with hm | hm
                · exact nmem rn (by simp [hm]) rfl
                · exact nmem rl (by simp) hm.symm,
              fun hm => by
                simp only [List.mem_append, List.mem_singleton] at hm
                rcases hm with hm | hm
                · exact T3.nd.2.1 hm
                · exact T3.nd.2.2 hm, nmem D (by simp)⟩
            nw := by
              intro b hb
              simp only [List.mem_cons, List.mem_append, List.not_mem_nil, or_false] at hb
              rcases hb with hb | hb | hb | hb
              · exact T3.nw _ (by simp [hb])
              · rw [hb]
                refine ⟨?_, ?_, (nmem T (by simp)).symm, ?_, ?_⟩
                · cases q : s.heap.get? rn with
                  | none => rfl
                  | some o => have := T3.fr.keep _ _ q; rw [hfn] at this; cases this
                · obtain ⟨o, _, _, e, _⟩ := T3.fr.ns; exact (rne _ _ e).symm
                · obtain ⟨o, e, _⟩ := hst'.1; exact (rne _ _ (k3 I (.inl rfl) _ e)).symm
                · exact (rne _ _ (T3.fr.keep _ _ hoX0)).symm
              · exact T3.nw _ (by simp [hb])
              · exact T3.nw _ (by simp [hb]) }
        refine wpC_execs_nil ?_
        refine wpC_execs_nil ?_
        refine fin _ _ _ _ _ _ _ T4 (fun b hb o e => (sb₄.2 b ?_).trans (kpn _ _ (k3 b hb o e))) ?_ ?_ (Nat.zero_le _)
        · rcases hb with rfl | rfl
          · exact hDw.2.2.2.1.symm
          · exact hDw.2.2.2.2.symm
        · rw [← hgo]; simp only [textsGo, hc1, if_true]
        · simp; omega
      · simp; exact Nat.le_trans (show rs.length + 1 ≤ 101 by omega) (by decide)
    · rw [if_neg (by simpa using hc1)]
      refine wpC_execs_cons ?_
      refine wpC_If ?_
      refine wpAny_isTrue_Compare1 ?_
      have T3' : TxS s.heap L D T I X tv _ rs rl init last h₂' := T3
      refine ld T3.fr (by rfl) ?_
      refine Constant_str ?_
      refine P.eq_str ?_
      refine wpAny_truthy_bool ?_
      rw [S_list, show (Str.ofString "/").cps.toList = [47] from by decide +kernel]
      obtain ⟨kd, hd⟩ := T3.d
      obtain ⟨lv, lk, hl3, hls⟩ := T3.l
      have hrlen : ((rs ++ [rl]).map Value.ref).toArray.size = rs.length + 1 := by simp
      have hlast : ((rs ++ [rl]).map Value.ref).toArray[((-1 : Int) + (((rs ++ [rl]).map Value.ref).toArray.size : Int)).toNat]? = some (.ref rl) := by
        rw [hrlen, show ((-1 : Int) + ((rs.length + 1 : Nat) : Int)).toNat = rs.length by omega]; simp
      have hlvl : lv.size ≤ 100 := by rw [← Array.length_toList, strsAre_len hls]; simp; omega
      have close : ∀ y ty h₄ k₄, Heap.SameBut rl h₂' h₄ → h₄.get? rl = some (lobj (lv.push (.str (S y) ty)) (lk + 1)) → textsGo init (last ++ [y]) (xs.drop (i + 1)) = textsL xs →
          (h₄.IsListIter I X (i + 1) ∧ h₄.IsList X vals.toArray) ∧ ∃ h k m rs rl init last, ({ s with heap := h₄, toks := k₄ } : Shared) = { s with heap := h, toks := k } ∧ TxS s.heap L D T I X tv m rs rl init last h ∧ textsGo init last (xs.drop (i + 1)) = textsL xs ∧ rs.length ≤ i + 1 ∧ last.length ≤ i + 1 := by
        intro y ty h₄ k₄ sb e hg
        have hw := T3.nw rl (by simp)
        refine fin _ _ _ _ _ _ _ (T3.app sb (StrL.snoc hls e)) (fun b hb o eb => (sb.2 b ?_).trans (k3 b hb o eb)) hg (by omega) (by simp; omega)
        rcases hb with rfl | rfl
        · exact hw.2.2.2.1.symm
        · exact hw.2.2.2.2.symm
      by_cases hc2 : tokOf x = [47]
      · rw [if_pos (by rw [hc2]; rfl)]
        refine wpC_execs_cons ?_
        refine wpC_of ?_
        refine wpAny_Expr ?_
        refine MethodCall_ ?_
        refine Subscript_UnaryOp ?_
        refine ld T3.fr T3.mt ?_
        refine wpAny_UnaryOp ?_
        refine wpAny_Constant_int ?_
        refine P.neg_int ?_
        refine ⟨"list", _, slot_list_getitem.lookup, ⟨_, hd, rfl⟩, ?_⟩
        refine wpAny_getItem_list_neg (items := ((rs ++ [rl]).map Value.ref).toArray) ⟨_, hd, rfl, _, rfl⟩ (by decide) (by rw [hrlen]; omega) (by decide) hlast ?_
        refine getMethod_list_append hl3 rfl rfl ?_
        refine callWith_method1 ?_
        refine args_cons ?_
        refine PyProof.Rows.Subscript_ ?_
        refine Constant_str ?_
        refine wpAny_BinOp ?_
        refine wpAny_BinOp ?_
        refine ld T3.fr (by rfl) ?_
        refine wpAny_Constant_int ?_
        refine AutoIntOps.floordiv_1 (by decide) (by rw [goby]; decide) ?_
        refine wpAny_Constant_int ?_
        refine mod_int' (by decide) ?_
        rw [show Str.ofString "/\\:;\"()" = S specs from by decide +kernel]
        have hb7 := fmod_lt (x.fdiv 16) 7 (by decide)
        have hb71 : 0 ≤ (x.fdiv 16).fmod 7 := hb7.1
        have hb72 : (x.fdiv 16).fmod 7 < 7 := hb7.2
        refine subscriptTail_builtin (T := "str") (typeIs_str _ _ _) PySem.F.slot_str_getitem.lookup ?_
        refine P.getItem_str (c := specOf x) ?_ (spec_at x) ?_
        · simp; omega
        refine args_nil ?_
        refine append_at hl3 ?_ ?_
        · intro h₄ sb₄ hd₄
          dsimp only
          refine wpC_execs_nil ?_
          refine wpC_execs_nil ?_
          refine wpC_execs_nil ?_
          refine close [specOf x] _ h₄ _ sb₄ hd₄ ?_
          rw [← hgo]
          simp [textsGo, hc2]
        · exact Nat.le_trans hlvl (by decide)
      · rw [if_neg (by simpa using hc2)]
        refine wpC_execs_cons ?_
        refine wpC_of ?_
        refine wpAny_Expr ?_
        refine MethodCall_ ?_
        refine Subscript_UnaryOp ?_
        refine ld T3.fr T3.mt ?_
        refine wpAny_UnaryOp ?_
        refine wpAny_Constant_int ?_
        refine P.neg_int ?_
        refine ⟨"list", _, slot_list_getitem.lookup, ⟨_, hd, rfl⟩, ?_⟩
        refine wpAny_getItem_list_neg (items := ((rs ++ [rl]).map Value.ref).toArray) ⟨_, hd, rfl, _, rfl⟩ (by decide) (by rw [hrlen]; omega) (by decide) hlast ?_
        refine getMethod_list_append hl3 rfl rfl ?_
        refine callWith_method1 ?_
        refine args_cons ?_
        refine ld T3.fr (by rfl) ?_
        refine args_nil ?_
        refine append_at hl3 ?_ ?_
        · intro h₄ sb₄ hd₄
          dsimp only
          refine wpC_execs_nil ?_
          refine wpC_execs_nil ?_
          refine wpC_execs_nil ?_
          refine close (tokOf x) _ h₄ _ sb₄ hd₄ ?_
          rw [← hgo]
          simp [textsGo, hc1, hc2]
        · exact Nat.le_trans hlvl (by decide)
  · intro st h' tk' hJ hk'
    obtain ⟨hh', k, m, rs, rl, init, last, rfl, TJ, hgo, hrl, hll⟩ := hJ
    have nI : ∀ b ∈ T :: D :: rl :: rs, b ∉ [I] := by
      intro b hb
      simp only [List.mem_cons] at hb
      simp only [List.mem_cons, List.not_mem_nil, or_false]
      rcases hb with rfl | hb
      · exact hTI
      · exact (TJ.nw b (by simpa using hb)).2.2.2.1
    have F' : Fr s.heap L h' m := ⟨TJ.fr.ns.at fun o e => hk' _ o (by simpa using hLI) e, fun b o e => hk' b o (by simp; exact neOf e hsI) (TJ.fr.keep b o e), TJ.fr.above⟩
    have T' := TJ.move F' TJ.mt TJ.mo fun b hb o e => hk' b o (nI b hb) e
    dsimp only
    refine wpC_execs_cons ?_
    refine wpC_of ?_
    refine wpAny_Return_some ?_
    refine ld T'.fr T'.mt ?_
    dsimp only
    rw [hlen, List.drop_length] at hgo
    obtain ⟨kd, hd⟩ := T'.d
    refine h _ _ _ T'.fr.keep ⟨rs ++ [rl], kd, hd, ?_⟩
    rw [← hgo]
    exact T'.ls.snoc T'.l
end Mine
end

section
set_option autoImplicit false
set_option maxRecDepth 100000
set_option maxHeartbeats 1000000
namespace Mine
open PySem PySem.W PySem.Calls PyProof.Rows

section
variable {w : World} {A : Around} {E : Value → Shared → Prop} {s : Shared}
theorem call_cellC {p : Program} {loose : List Str} {mg mb : Str → Option Value} {f : Addr} {v : Value} {cx name : Str} {params : Arguments} {body : List Stmt} {scope : Scope}
    {pm cd doc : Value} {Q : Value → Shared → Prop} (G : Gd w p loose mg mb s.heap) (ho : (KF w).lookup f = some ⟨.type "function", none, .func (docDef name params body scope pm cd doc), #[]⟩) (hcd : codeIn (KF w) cd name = true)
    (hroom : A.depth < recursionLimit) (hbind : bindArgs (docDef name params body scope pm cd doc) ⟨[v], []⟩ = pure [(cx, v)])
    (hcells : ∀ n, cellsFrom n scope.names [] = [(cx, n)]) (hcell : scope.names.lookup cx = some .cell)
    (hco : scope.isCoroutine = false) (hgen : scope.isGenerator = false) (hk : scope.kind = .function)
    (h : ∀ L h₁ tk, L = s.heap.objs.size → Fr s.heap L h₁ (fun _ => none) → h₁.IsCell (L + 1) (some v) →
      wpC (model Pr w) (A.deeper (envX name scope L f cd [(cx, L + 1)])) (execs body (envX name scope L f cd [(cx, L + 1)])) (fun fl s' => Q (match fl with | .ret v => v | _ => .none) s') (fun _ _ => False) { s with heap := h₁, toks := tk }) :
    wpC (model Pr w) A (call (.ref f) [v]) Q E s := by
  refine wpC_call (codeC_of_tree ?_)
  show wpC _ A.in1 (callAny (.ref f) ⟨[v], []⟩) _ _ s
  simp only [callAny]
  refine wpC_first (wpAny_load (G.K _ _ ho) ?_)
  obtain ⟨c, oc, vs, tq, hc, hoc, hdc, hq⟩ := codeRec_of G.K hcd
  subst hc
  have e1 : (docDef name params body scope pm (.ref c) doc).scope.isCoroutine = false := hco
  have e2 : (docDef name params body scope pm (.ref c) doc).scope.isGenerator = false := hgen
  simp only [callFunction, e1, e2]
  refine wpC_first (m := field (.ref c) 1) (wpAny_field hoc hdc hq (wpC_first (wpAny_pure ?_)))
  rw [hbind]
  refine wpC_first (wpAny_pure (wpC_first ?_))
  refine wpAny_newFunctionEnv_cells hk (fun x hx => ?_) fun env he s' x => ?_
  · simp at hx; rw [hx]; exact .inr ⟨hcell, by show ((cellsFrom (s.heap.objs.size + 1) scope.names []).lookup cx).isSome = true; rw [hcells]; simp⟩
  · subst he
    obtain ⟨h₁, tk, rfl, kp⟩ := x.done
    refine wpC_first (wpAny_enterFrame ((G.T.nolimit).keeps kp) hroom (wpC_pure ⟨rfl, ?_⟩))
    have he : newEnv scope s.heap.objs.size mainGlobals (cellsFrom (s.heap.objs.size + 1) scope.names []) (name ++ ".<locals>.") (some f) (.ref c) none builtinsNs = envX name scope s.heap.objs.size f (.ref c) [(cx, s.heap.objs.size + 1)] := by
      rw [hcells]; rfl
    have hx := x
    show codeC _ _ (.func body (newEnv scope s.heap.objs.size mainGlobals (cellsFrom (s.heap.objs.size + 1) scope.names []) (name ++ ".<locals>.") (some f) (.ref c) none builtinsNs)) _ _
    rw [he]
    have hkx : (newEnv scope s.heap.objs.size mainGlobals (cellsFrom (s.heap.objs.size + 1) scope.names []) (name ++ ".<locals>.") (some f) (.ref c) none builtinsNs).kindOf cx = some .cell := hcell
    have hns := x.toInCall.ns
    have hce := x.cell cx (s.heap.objs.size + 1) (by show (cellsFrom (s.heap.objs.size + 1) scope.names []).lookup cx = _; rw [hcells]; simp)
    refine codeC_func (h _ h₁ tk rfl ⟨?_, kp, Nat.le_refl _⟩ ?_)
    · have e : (bindL (newEnv scope s.heap.objs.size mainGlobals (cellsFrom (s.heap.objs.size + 1) scope.names []) (name ++ ".<locals>.") (some f) (.ref c) none builtinsNs).kindOf [(cx, v)] fun _ => none) = fun _ => none := by
        unfold bindL bindL; rw [hkx, if_neg (by decide)]
      exact e ▸ hns
    · have e : (bindC (newEnv scope s.heap.objs.size mainGlobals (cellsFrom (s.heap.objs.size + 1) scope.names []) (name ++ ".<locals>.") (some f) (.ref c) none builtinsNs).kindOf [(cx, v)] fun _ => none) cx = some v := by
        unfold bindC bindC; rw [hkx, if_neg (by decide)]; simp
      exact e ▸ hce
end
section
variable {M : Model} {A : Around} {E : Value → Shared → Prop} {s : Shared} {name : Str} {scope : Scope} {L a : Addr} {cd : Value} {g : Heap} {m : Str → Option Value} {cl : List (Str × Addr)}
theorem stX {x : Str} {v : Value} {Q : Unit → Shared → Prop} (F : Fr g L s.heap m)
    (h : ∀ h', Fr g L h' (fun y => if y = x then some v else m y) → Heap.SameBut L s.heap h' → Q () { s with heap := h', toks := s.toks + 1 })
    (hk : scope.kind = .function := by rfl) (hl : (envX name scope L a cd cl).kindOf x = some .local := by rfl) :
    wpAny M A (storeName (envX name scope L a cd cl) x v) Q E s :=
  wpAny_storeName_local hl F.ns (fun h' hn hs => h h' (F.set hn hs) hs)
    (by show (scope.kind == .class || (scope.kind == .module && L != mainGlobals)) = false; rw [hk]; rfl)
theorem ldC {x : Str} {pos : Pos} {v : Value} {c : Addr} {Q : Value → Shared → Prop} (hc : cl.lookup x = some c) (hv : s.heap.IsCell c (some v)) (h : Q v s)
    (hk : scope.kind = .function := by rfl) (hx : (envX name scope L a cd cl).kindOf x = some .cell := by rfl) (hb : (x == ("__debug__" : Str)) = false := by decide) :
    wpAny M A (eval (.Name x pos) (envX name scope L a cd cl)) Q E s := wpAny_Name (wpAny_loadName_cell hk hx hc hv h) hb
end
end Mine
end

section
set_option autoImplicit false
set_option maxRecDepth 100000
set_option maxHeartbeats 1000000
namespace Mine
open PySem PySem.W PySem.Calls PyProof.Rows

noncomputable def white (t : Tk) : Bool := [[32], [10], [13]].any (· == t)
noncomputable def blackIdx (ts : List Tk) : List Nat := (List.range ts.length).filter fun k => !white (ts.getD k [])
noncomputable def innerAt (ts : List Tk) (k : Nat) : Tk × Tk := (ts.getD k [], if k > 0 then ts.getD (k - 1) [] else [])
noncomputable def innerL (ts : List Tk) : List (Tk × Tk) := match blackIdx ts with
  | [] => []
  | b :: r => (List.range' b ((b :: r).getLastD 0 + 1 - b)).map (innerAt ts)
noncomputable def PairO (h : Heap) (r : Addr) (p : Tk × Tk) : Prop := ∃ t1 t2, h.get? r = some { cls := .type "tuple", data := .seq #[.str (S p.1) t1, .str (S p.2) t2] }
inductive PAre (h : Heap) : List Addr → List (Tk × Tk) → Prop
  | nil : PAre h [] []
  | cons {r : Addr} {p : Tk × Tk} {rs : List Addr} {ps : List (Tk × Tk)} : PairO h r p → PAre h rs ps → PAre h (r :: rs) (p :: ps)
theorem PAre.at {h h' : Heap} {rs : List Addr} {ps : List (Tk × Tk)} (x : PAre h rs ps) (k : ∀ r ∈ rs, ∀ o, h.get? r = some o → h'.get? r = some o) : PAre h' rs ps := by
  induction x with
  | nil => exact .nil
  | cons hr _ ih => obtain ⟨t1, t2, e⟩ := hr; exact .cons ⟨t1, t2, k _ (by simp) _ e⟩ (ih fun r hr o e => k r (by simp [hr]) o e)
theorem PAre.snoc {h : Heap} {rs : List Addr} {ps : List (Tk × Tk)} (x : PAre h rs ps) {r : Addr} {p : Tk × Tk} (hr : PairO h r p) : PAre h (rs ++ [r]) (ps ++ [p]) := by
  induction x with
  | nil => exact .cons hr .nil
  | cons a _ ih => exact .cons a ih
theorem PAre.get {h : Heap} {rs : List Addr} {ps : List (Tk × Tk)} (x : PAre h rs ps) : ∀ (i : Nat) (r : Addr), rs[i]? = some r → ∃ p, ps[i]? = some p ∧ PairO h r p := by
  induction x with
  | nil => intro i r e; cases e
  | cons a _ ih =>
    intro i r e
    cases i with
    | zero => injection e with e; subst e; exact ⟨_, rfl, a⟩
    | succ i => exact ih i r (by simpa using e)
theorem PAre.len {h : Heap} {rs : List Addr} {ps : List (Tk × Tk)} (x : PAre h rs ps) : rs.length = ps.length := by
  induction x with
  | nil => rfl
  | cons _ _ ih => simp [ih]
noncomputable def PL (h : Heap) (D : Addr) (ps : List (Tk × Tk)) : Prop := ∃ rs k, h.get? D = some (lobj (rs.map Value.ref).toArray k) ∧ PAre h rs ps

theorem S_inj {a b : List Nat} (h : S a = S b) : a = b := by
  have := congrArg (fun x => x.cps.toList) h
  simpa using this
theorem S_beq (a b : List Nat) : (S a == S b) = (a == b) := by
  rw [Bool.eq_iff_iff, beq_iff_eq, beq_iff_eq]
  exact ⟨S_inj, fun h => h ▸ rfl⟩
theorem any_S (l : List Tk) (x : Tk) : (l.map S).any (· == S x) = l.any (· == x) := by
  induction l with
  | nil => rfl
  | cons a r ih => simp only [List.map_cons, List.any_cons, ih, S_beq]
noncomputable def blackV (ts : List Tk) : Value → Bool
  | .int n _ => !white (ts.getD n.toNat [])
  | _ => false
theorem intsAre_idx : ∀ (vs : List Value) (ns : List Int), vs.length = ns.length → (∀ (i : Nat) (v : Value), vs[i]? = some v → ∃ n t, ns[i]? = some n ∧ v = Value.int n t) → IntsAre vs ns
  | [], [], _, _ => .nil
  | [], _ :: _, h, _ => by cases h
  | _ :: _, [], h, _ => by cases h
  | v :: vs, n :: ns, h, k => by
    obtain ⟨n', t, h1, h2⟩ := k 0 v rfl
    injection h1 with h1
    subst h1; subst h2
    exact .cons _ _ (intsAre_idx vs ns (by simpa using h) fun i w e => k (i + 1) w (by simpa using e))
theorem intsAre_filter {p : Value → Bool} {q : Int → Bool} (hpq : ∀ n t, p (.int n t) = q n) {vs : List Value} {ns : List Int} (h : IntsAre vs ns) : IntsAre (vs.filter p) (ns.filter q) := by
  induction h with
  | nil => exact .nil
  | cons n t _ ih =>
    simp only [List.filter_cons, hpq]
    split
    · exact .cons _ _ ih
    · exact ih
theorem paired_eq {l1 l2 : List Value} (h : Paired (fun v y => y = v) l1 l2) : l2 = l1 := by
  induction h with
  | nil => rfl
  | cons a _ ih => rw [a, ih]
theorem black_ints {ts : List Tk} {vs : List Value} {ys : List Value} (hl : vs.length = ts.length) (hP : ∀ (j : Nat) (v : Value), vs[j]? = some v → j < ts.length ∧ ∃ t, v = Value.int (0 + (j : Int) * 1) t) (hp : Paired (fun v y => y = v) (vs.filter (blackV ts)) ys) :
    IntsAre ys ((blackIdx ts).map Int.ofNat) := by
  rw [paired_eq hp]
  have h1 : IntsAre vs ((List.range ts.length).map Int.ofNat) := by
    refine intsAre_idx _ _ (by simpa using hl) fun i v e => ?_
    obtain ⟨hi, t, rfl⟩ := hP i v e
    refine ⟨(i : Int), t, by simp [hi], ?_⟩
    congr 1; omega
  have h2 := intsAre_filter (p := blackV ts) (q := fun n => !white (ts.getD n.toNat [])) (fun n t => rfl) h1
  have e : ((List.range ts.length).map Int.ofNat).filter (fun n => !white (ts.getD n.toNat [])) = (blackIdx ts).map Int.ofNat := by
    rw [List.filter_map]; rfl
  rw [e] at h2; exact h2
theorem last_idx : ∀ (br : List Nat) (b0 : Nat), (b0 :: br)[br.length]? = some ((b0 :: br).getLastD 0)
  | [], b0 => rfl
  | c :: r, b0 => by
    have := last_idx r c
    simp only [List.length_cons, List.getElem?_cons_succ]
    rw [this]
    simp [List.getLastD]
theorem last_int {br : List Nat} {b0 : Nat} {n1 : Int} (h : ((b0 :: br).map Int.ofNat)[br.length]? = some n1) : n1 = (((b0 :: br).getLastD 0 : Nat) : Int) := by
  rw [List.getElem?_map, last_idx] at h
  injection h with h
  exact h.symm
/-- the state ahead of a turn of _law_inner's loop -/
structure InS (s0 : Heap) (L D I : Addr) (X : Addr) (m : Str → Option Value) (rs : List Addr) (ps : List (Tk × Tk)) (h : Heap) : Prop where
  fr : Fr s0 L h m
  mi : m (Str.ofString "inner") = some (.ref D)
  cell : h.IsCell (L + 1) (some (.ref X))
  d : ∃ k, h.get? D = some (lobj (rs.map Value.ref).toArray k)
  ps : PAre h rs ps
  nw : ∀ r ∈ rs, r ≠ L ∧ r ≠ I ∧ r ≠ D
  nd : s0.get? D = none ∧ D ≠ L ∧ D ≠ I ∧ D ≠ L + 1
theorem InS.move {s0 h h' : Heap} {L D I X : Addr} {m m' : Str → Option Value} {rs : List Addr} {ps : List (Tk × Tk)} (x : InS s0 L D I X m rs ps h) (F : Fr s0 L h' m') (mi : m' (Str.ofString "inner") = some (.ref D))
    (k : ∀ b, b ≠ L → b ≠ I → ∀ o, h.get? b = some o → h'.get? b = some o) (hc : L + 1 ≠ I) : InS s0 L D I X m' rs ps h' where
  fr := F
  mi := mi
  cell := let ⟨o, e, d⟩ := x.cell; ⟨o, k _ (Nat.succ_ne_self _) hc _ e, d⟩
  d := let ⟨kk, e⟩ := x.d; ⟨kk, k D x.nd.2.1 x.nd.2.2.1 _ e⟩
  ps := x.ps.at fun r hr o e => k r (x.nw r hr).1 (x.nw r hr).2.1 o e
  nw := x.nw
  nd := x.nd
theorem inner_call {w : World} {A : Around} {E : Value → Shared → Prop} {s : Shared} {p : Program} {loose : List Str} {mg mb : Str → Option Value} {X : Addr} {ts : List Tk} {Q : Value → Shared → Prop}
    (G : Gd w p loose mg mb s.heap) (hX : StrL s.heap X ts) (hn : ts.length ≤ 100) (hh : A.handled = none) (hroom : A.depth < recursionLimit) (hu : A.units ≤ 1000)
    (h : ∀ h' k D, (∀ b o, s.heap.get? b = some o → h'.get? b = some o) → PL h' D (innerL ts) → Q (.ref D) { s with heap := h', toks := k }) : wpC (model Pr w) A (call (.ref 80) [.ref X]) Q E s := by
  refine call_cellC G (f := 80) (cx := Str.ofString "tokens") (by rfl) (by rfl) hroom (by rfl) (fun n => by rfl) (by rfl) (by rfl) (by rfl) (by rfl) ?_
  intro L h₁ tk₁ hL F₁ hcl
  obtain ⟨vs, kx, hXo, hvs⟩ := hX
  have hX1 := F₁.keep _ _ hXo
  have hsz : vs.size = ts.length := by rw [← Array.length_toList, strsAre_len hvs]; simp
  refine wpC_execs_cons ?_
  refine wpC_of ?_
  refine wpAny_Assign_ListComp_free (cl := [(Str.ofString "tokens", L + 1)]) (blackV ts) (fun v y => y = v) ?_ ?_ ?_ ?_ ?_ ?_ ?_ ?_ ?_
  · rfl
  · rfl
  · decide
  · rfl
  · decide
  · rfl
  · rfl
  · rfl
  · refine Call_ ?_
    refine nameX_B F₁ G.K G.T (v := .type "range") (by rfl) (by kernel_rfl) (by decide) ?_
    refine PyProof.Rows.callWith_type1 ?_
    refine args_cons ?_
    refine Call_ ?_
    refine nameX_B F₁ G.K G.T (v := .builtin "len") (by rfl) (by kernel_rfl) (by decide) ?_
    refine callWith_method1 (first := []) ?_
    refine args_cons ?_
    refine ldC (by rfl) hcl ?_
    refine args_nil ?_
    refine call_len_list (items := vs) ⟨_, hX1, rfl, _, rfl⟩ (by omega) ?_
    refine args_nil ?_
    refine call_range_1 ?_
    refine wpAny_pyIter_range (IsRange.new _ _ _ _ _ _ _) (small_one (by decide) (by decide) (by omega) (by omega)) ?_
    dsimp only
    generalize hrng : h₁.push _ = h₂
    have kp2 : ∀ b o, h₁.get? b = some o → h₂.get? b = some o := fun b o e => hrng ▸ Heap.get?_push_of_some _ e
    have h2sz : h₂.objs.size = h₁.objs.size + 1 := by rw [← hrng, Heap.size_push]
    rw [rangeSize_one]
    have hrs : (if (0 : Int) < (vs.size : Int) then (vs.size : Int) - 0 else 0) = (ts.length : Int) := by rw [hsz]; split <;> omega
    rw [hrs]
    generalize hI : h₂.objs.size = I
    generalize hh3 : h₂.push _ = h₃
    have kp3 : ∀ b o, h₂.get? b = some o → h₃.get? b = some o := fun b o e => hh3 ▸ Heap.get?_push_of_some _ e
    have hI3 : h₃.get? I = some { cls := .type "range_iterator", data := .fields #[rawInt 0, rawInt ts.length, rawInt 1] } := hh3 ▸ hI ▸ Heap.get?_push_size _ rfl
    have h3sz : h₃.objs.size = I + 1 := by rw [← hh3, Heap.size_push, hI]
    have F₃ : Fr s.heap L h₃ (fun _ => none) := ⟨(F₁.ns.keeps kp2).keeps kp3, fun b o e => kp3 _ _ (kp2 _ _ (F₁.keep b o e)), F₁.above⟩
    have h2I : h₂.get? I = none := hI ▸ Heap.get?_none_of_le (Nat.le_refl _)
    obtain ⟨oL, _, _, hoL, _⟩ := F₁.ns
    have hLI : L ≠ I := neOf (kp2 _ _ hoL) h2I
    obtain ⟨oc, hoc, hocd⟩ := id hcl
    have hcI : L + 1 ≠ I := neOf (kp2 _ _ hoc) h2I
    have hXI : X ≠ I := neOf (kp2 _ _ hX1) h2I
    refine ⟨I, [I], [I], ts.length, _, _, _, rfl, (Walks.range (by exact hh) I 0 1 ts.length).bound, Nat.le_trans hn (by decide), ?_, ?_, ?_, F₃.ns, ⟨?_, ?_⟩, ?_⟩
    · show h₃.get? I = _
      rw [hI3]; simp
    · intro b hb; simp at hb; rw [hb]; show I < h₃.objs.size; rw [h3sz]; exact Nat.lt_succ_self _
    · simp; exact hLI
    · intro C i v s₃ m₃ E' hC hP hns hmk hk' htk
      obtain ⟨hi, t, rfl⟩ := hP
      rw [List.forIn_cons]
      rw [if_pos rfl]
      refine wpAny_bind ?_
      refine wpAny_bind ?_
      refine wpAny_isTrue_Compare1 ?_
      refine Subscript_Name ?_
      have hcs : s₃.heap.IsCell (L + 1) (some (.ref X)) := ⟨oc, hk' _ _ (by simpa using hcI) (kp3 _ _ (kp2 _ _ hoc)), hocd⟩
      refine wpAny_Name (wpAny_loadName_cell rfl rfl (by rfl) hcs ?_)
      refine wpAny_Name (wpAny_loadName_local rfl rfl hns hmk ?_)
      have hXs : s₃.heap.IsList X vs := ⟨_, hk' _ _ (by simpa using hXI) (kp3 _ _ (kp2 _ _ hX1)), rfl, _, rfl⟩
      obtain ⟨x, tx, hx, hvx⟩ := strsAre_get hvs ts rfl i (vs[i]'(by omega)) (by simp)
      refine ⟨"list", _, slot_list_getitem.lookup, hXs.typeIs, ?_⟩
      refine wpAny_getItem_list (items := vs) (x := .str (S x) tx) hXs (by omega) (by omega) ?_ ?_
      · rw [show ((0 : Int) + (i : Int) * 1).toNat = i by omega, Array.getElem?_eq_getElem (by omega), hvx]
      refine Tuple_strs (ys := [[32], [10], [13]].map S) ?_ ?_ ?_
      · kernel_rfl
      · decide
      intro tv tk₂ htv
      refine notin_tuple_strs ⟨_, Heap.get?_push_size _ rfl, rfl, _, rfl⟩ (by simpa using htv) ?_
      refine wpAny_truthy_bool ?_
      refine wpAny_pure ?_
      refine wpAny_pure ?_
      refine ⟨?_, _, _, rfl, fun b o e => Heap.get?_push_of_some _ e⟩
      have ea := any_S [[32], [10], [13]] x
      show (!(List.map S [[32], [10], [13]]).any fun y => y == S x) = _
      rw [ea]
      show _ = !white (ts.getD ((0 : Int) + (i : Int) * 1).toNat [])
      rw [show ((0 : Int) + (i : Int) * 1).toNat = i by omega, List.getD_eq_getElem?_getD, hx]
      rfl
    · intro C i v s₃ m₃ E' hC hP hp hns hmk hk' htk
      refine wpAny_Name (wpAny_loadName_local rfl rfl hns hmk ⟨rfl, _, _, rfl, fun _ _ e => e⟩)
    · intro D h₄ tk₄ ys vs' hD hDl hpl hlen' hPv hpair hns₄ hk₄
      have hys := black_ints hlen' hPv hpair
      have hys' := intsAre_len hys
      have hsI : s.heap.get? I = none := by
        cases q : s.heap.get? I with
        | none => rfl
        | some o => have := kp2 _ _ (F₁.keep _ _ q); rw [h2I] at this; cases this
      have hsL : s.heap.get? L = none := hL ▸ Heap.get?_none_of_le (Nat.le_refl _)
      have F₄ : Fr s.heap L h₄ (fun z => if z = Str.ofString "black" then some (.ref D) else none) := ⟨hns₄, fun b o e => hk₄ b o (neOf e hsL) (by simp; exact neOf e hsI) (F₃.keep b o e), F₁.above⟩
      have hcl₄ : h₄.IsCell (L + 1) (some (.ref X)) := ⟨oc, hk₄ _ _ (Nat.succ_ne_self _) (by simpa using hcI) (kp3 _ _ (kp2 _ _ hoc)), hocd⟩
      have hu' : A.units + 3 < cLine := Nat.lt_of_le_of_lt (Nat.add_le_add_right hu 3) (by decide)
      refine wpC_execs_cons ?_
      refine wpC_If ?_
      refine wpAny_isTrue_Compare1 ?_
      refine nameX_L F₄ (by rfl) ?_
      refine List_ ?_
      refine args_nil ?_
      refine wpAny_newList ?_
      have hDl' : (h₄.push { cls := .type "list", data := .seq [].toArray }).IsList D ys := hDl.at fun o e => Heap.get?_push_of_some _ e
      have hel : (h₄.push { cls := .type "list", data := .seq [].toArray }).IsList h₄.objs.size #[] := ⟨_, Heap.get?_push_size _ rfl, rfl, _, rfl⟩
      cases hb : blackIdx ts with
      | nil =>
        rw [hb] at hys'
        have hy0 : ys.size = 0 := by simpa using hys'
        refine PySem.SeqAt.eq_listAt (e := fun _ => true) hDl' hel (by simpa using hy0) hu' ?_ ?_
        · intro j h1 h2; simp at h2
        refine wpAny_truthy_bool ?_
        rw [if_pos (by simp)]
        refine wpC_execs_cons ?_
        refine wpC_of ?_
        refine wpAny_Return_some ?_
        refine List_ ?_
        refine args_nil ?_
        refine wpAny_newList ?_
        dsimp only
        refine h _ _ _ (fun b o e => Heap.get?_push_of_some _ (Heap.get?_push_of_some _ (F₄.keep b o e))) ⟨[], 0, Heap.get?_push_size _ rfl, ?_⟩
        unfold innerL; rw [hb]; exact .nil
      | cons b0 br =>
        rw [hb] at hys'
        have hy0 : ys.size = br.length + 1 := by simpa using hys'
        refine PySem.SeqAt.eq_list_lengthsAt hDl' hel (by rw [hy0]; simp) hu' ?_
        refine wpAny_truthy_bool ?_
        rw [if_neg (by simp)]
        refine wpC_execs_nil ?_
        have F₅ : Fr s.heap L (h₄.push { cls := .type "list", data := .seq [].toArray }) _ := F₄.push _
        have hcl₅ : (h₄.push { cls := .type "list", data := .seq [].toArray }).IsCell (L + 1) (some (.ref X)) := hcl₄.keeps fun b o e => Heap.get?_push_of_some _ e
        dsimp only at F₅ hcl₅ hDl' ⊢
        generalize h₄.push { cls := .type "list", data := .seq [].toArray } = h₅ at *
        refine wpC_execs_cons ?_
        refine wpC_of ?_
        refine wpAny_Assign_Name ?_
        refine List_ ?_
        refine args_nil ?_
        refine wpAny_newList ?_
        have hDn : (h₅.push { cls := .type "list", data := .seq [].toArray }).get? h₅.objs.size = some (lobj #[] 0) := Heap.get?_push_size _ rfl
        have kp5 : ∀ b o, h₅.get? b = some o → (h₅.push { cls := .type "list", data := .seq [].toArray }).get? b = some o := fun b o e => Heap.get?_push_of_some _ e
        have hDf : h₅.get? h₅.objs.size = none := Heap.get?_none_of_le (Nat.le_refl _)
        refine stX (F₅.push _) ?_
        intro h₆ F₆ sb₆
        generalize h₅.objs.size = Din at *
        obtain ⟨oL5, _, _, hoL5, _⟩ := F₅.ns
        obtain ⟨oc5, hoc5, hocd5⟩ := hcl₅
        obtain ⟨oD5, hoD5, hD5⟩ := hDl'
        have hLDin : Din ≠ L := (neOf hoL5 hDf).symm
        have hcDin : Din ≠ L + 1 := (neOf hoc5 hDf).symm
        have hDinS : s.heap.get? Din = none := by
          cases q : s.heap.get? Din with
          | none => rfl
          | some o => have := F₅.keep _ _ q; rw [hDf] at this; cases this
        have hcl₆ : h₆.IsCell (L + 1) (some (.ref X)) := ⟨oc5, (sb₆.2 _ (Nat.succ_ne_self _)).trans (kp5 _ _ hoc5), hocd5⟩
        have hblk : D ≠ L := fun q => by
          obtain ⟨o, _, _, e, hd, _⟩ := F₅.ns
          rw [← q, hoD5] at e; cases e
          obtain ⟨_, kk, hd'⟩ := hD5
          rw [hd] at hd'; cases hd'
        have hD6 : h₆.IsList D ys := ⟨oD5, (sb₆.2 _ hblk).trans (kp5 _ _ hoD5), hD5⟩
        have hDin6 : h₆.get? Din = some (lobj #[] 0) := (sb₆.2 _ hLDin).trans hDn
        have hblt : ∀ x ∈ blackIdx ts, x < ts.length := fun x hx => by
          unfold blackIdx at hx
          exact List.mem_range.mp (List.mem_filter.mp hx).1
        have hb0 : b0 < ts.length := hblt b0 (by rw [hb]; simp)
        generalize hbl : (b0 :: br).getLastD 0 = bl
        have hblm : bl ∈ b0 :: br := by rw [← hbl]; simp [List.getLastD]
        have hbll : bl < ts.length := hblt bl (by rw [hb]; exact hblm)
        rw [hb] at hys
        obtain ⟨n0, t0, hn0, hv0⟩ := intsAre_get hys 0 (ys[0]'(by omega)) (by simp)
        obtain ⟨n1, t1, hn1, hv1⟩ := intsAre_get hys br.length (ys[br.length]'(by omega)) (by simp)
        have en0 : n0 = (b0 : Int) := by simp at hn0; exact hn0.symm
        have en1 : n1 = (bl : Int) := by
          rw [← hbl]; exact last_int hn1
        have hy1 : ys[br.length]? = some (.int n1 t1) := by rw [Array.getElem?_eq_getElem (by omega), hv1]
        subst en0; subst en1
        dsimp only
        refine wpC_execs_cons ?_
        refine wpC_For ?_
        refine wpC_of ?_
        refine Call_ ?_
        refine nameX_B F₆ G.K G.T (v := .type "range") (by rfl) (by kernel_rfl) (by decide) ?_
        refine PyProof.Rows.callWith_type1 ?_
        refine args_cons ?_
        refine Subscript_Constant ?_
        refine nameX_L F₆ (by rfl) ?_
        refine wpAny_Constant_int ?_
        refine ⟨"list", _, slot_list_getitem.lookup, hD6.typeIs, ?_⟩
        refine wpAny_getItem_list (items := ys) (x := .int b0 t0) hD6 (by decide) (by decide) ?_ ?_
        · rw [← hv0]; simp
        refine args_cons ?_
        refine wpAny_BinOp ?_
        refine Subscript_UnaryOp ?_
        refine nameX_L F₆ (by rfl) ?_
        refine wpAny_UnaryOp ?_
        refine wpAny_Constant_int ?_
        refine P.neg_int ?_
        refine ⟨"list", _, slot_list_getitem.lookup, hD6.typeIs, ?_⟩
        refine wpAny_getItem_list_neg (items := ys) (x := .int bl t1) hD6 (by decide) (by rw [hy0]; omega) (by decide) ?_ ?_
        · rw [show ((-1 : Int) + (ys.size : Int)).toNat = br.length by omega]; exact hy1
        refine wpAny_Constant_int ?_
        refine P.add_int ?_
        refine args_nil ?_
        refine call_range_2 ?_
        refine wpAny_pyIter_range (IsRange.new _ _ _ _ _ _ _) (small_one (by omega) (by omega) (by omega) (by omega)) ?_
        dsimp only
        rw [rangeSize_one]
        have hrs2 : (if (b0 : Int) < (bl : Int) + 1 then (bl : Int) + 1 - (b0 : Int) else 0) = ((bl + 1 - b0 : Nat) : Int) := by split <;> omega
        rw [hrs2]
        generalize hr7 : h₆.push _ = h₇
        have kp7 : ∀ b o, h₆.get? b = some o → h₇.get? b = some o := fun b o e => hr7 ▸ Heap.get?_push_of_some _ e
        generalize hI2 : h₇.objs.size = I2
        generalize hr8 : h₇.push _ = h₈
        have kp8 : ∀ b o, h₇.get? b = some o → h₈.get? b = some o := fun b o e => hr8 ▸ Heap.get?_push_of_some _ e
        have h7I : h₇.get? I2 = none := hI2 ▸ Heap.get?_none_of_le (Nat.le_refl _)
        obtain ⟨oL6, _, _, hoL6, _⟩ := F₆.ns
        obtain ⟨oc6, hoc6, hocd6⟩ := hcl₆
        have hLI2 : L ≠ I2 := neOf (kp7 _ _ hoL6) h7I
        have hcI2 : L + 1 ≠ I2 := neOf (kp7 _ _ hoc6) h7I
        have hDI2 : Din ≠ I2 := neOf (kp7 _ _ hDin6) h7I
        have hsI2 : s.heap.get? I2 = none := by
          cases q : s.heap.get? I2 with
          | none => rfl
          | some o => have := kp7 _ _ (F₆.keep _ _ q); rw [h7I] at this; cases this
        have I8 : InS s.heap L Din I2 X _ [] [] h₈ :=
          { fr := ⟨(F₆.ns.keeps kp7).keeps kp8, fun b o e => kp8 _ _ (kp7 _ _ (F₆.keep b o e)), F₁.above⟩
            mi := by rfl
            cell := ⟨oc6, kp8 _ _ (kp7 _ _ hoc6), hocd6⟩
            d := ⟨0, kp8 _ _ (kp7 _ _ hDin6)⟩
            ps := .nil
            nw := by simp
            nd := ⟨hDinS, hLDin, hDI2, hcDin⟩ }
        refine ⟨I2, [I2], [I2], bl + 1 - b0, _, _, fun i st => ∃ h k m rs, st = { s with heap := h, toks := k } ∧ InS s.heap L Din I2 X m rs ((List.range' b0 i).map (innerAt ts)) h ∧ rs.length = i,
          rfl, (Walks.range (by exact hh) I2 b0 1 (bl + 1 - b0)).bound, ?_, ⟨_, _, _, _, rfl, I8, rfl⟩, ?_, ?_⟩
        · show h₈.get? I2 = _
          rw [← hr8, ← hI2, Heap.get?_push_size _ rfl]; simp
        · intro i v st h' tk' hi hP hJ hst' hk'
          obtain ⟨_, tv, rfl⟩ := hP
          obtain ⟨hc, k, m, rs, rfl, IJ, hrl⟩ := hJ
          have F' : Fr s.heap L h' m := ⟨IJ.fr.ns.at fun o e => hk' _ o (by simpa using hLI2) e, fun b o e => hk' b o (by simp; exact neOf e hsI2) (IJ.fr.keep b o e), IJ.fr.above⟩
          have I1 := IJ.move F' IJ.mi (fun b _ hb o e => hk' b o (by simpa using hb) e) hcI2
          refine wpC_of ?_
          refine wpAny_of_eq rfl ?_
          refine wpC_of ?_
          refine wpAny_assign_Name ?_
          refine stX I1.fr ?_
          intro h₁' F₁' sb₁'
          have I2' := I1.move F₁' (mne I1.mi (by decide)) (fun b hb _ o e => (sb₁'.2 b hb).trans e) hcI2
          have hst2 : IsRangeIter h₁' I2 ((b0 : Int) + ((i + 1 : Nat) : Int) * 1) (((bl + 1 - b0 : Nat) : Int) - ((i + 1 : Nat) : Int)) 1 := (sb₁'.2 I2 hLI2.symm).trans hst'
          have hX2 : h₁'.IsList X vs := ⟨_, F₁'.keep _ _ hXo, rfl, _, rfl⟩
          have hki : b0 + i < ts.length := by omega
          obtain ⟨x, tx, hx, hvx⟩ := strsAre_get hvs ts rfl (b0 + i) (vs[b0 + i]'(by omega)) (by simp)
          have hvx' : vs[b0 + i]? = some (.str (S x) tx) := by rw [Array.getElem?_eq_getElem (by omega), hvx]
          dsimp only
          refine wpC_execs_cons ?_
          refine wpC_of ?_
          refine wpAny_Expr ?_
          refine MethodCall_ ?_
          refine nameX_L I2'.fr I2'.mi ?_
          obtain ⟨kd, hd⟩ := I2'.d
          refine getMethod_list_append hd rfl rfl ?_
          refine callWith_method1 ?_
          refine args_cons ?_
          refine PyProof.Rows.Tuple_ ?_
          refine args_cons ?_
          refine Subscript_Name ?_
          refine ldC (by rfl) I2'.cell ?_
          refine nameX_L I2'.fr (by rfl) ?_
          refine ⟨"list", _, slot_list_getitem.lookup, hX2.typeIs, ?_⟩
          refine wpAny_getItem_list (items := vs) (x := .str (S x) tx) hX2 (by omega) (by omega) ?_ ?_
          · rw [show ((b0 : Int) + (i : Int) * 1).toNat = b0 + i by omega]; exact hvx'
          refine args_cons ?_
          refine wpAny_mono (Q := fun v st' => ∃ k' tt, st' = { s with heap := h₁', toks := k' } ∧ v = .str (S (innerAt ts (b0 + i)).2) tt) (E := No) ?_ ?_ (fun _ _ x => x.elim)
          · refine wpAny_IfExp ?_
            refine wpAny_isTrue_Compare1 ?_
            refine nameX_L I2'.fr (by rfl) ?_
            refine wpAny_Constant_int ?_
            refine P.gt_int ?_
            refine wpAny_truthy_bool ?_
            by_cases hz : b0 + i > 0
            · rw [if_pos (by simp; omega)]
              refine Subscript_BinOp ?_
              refine ldC (by rfl) I2'.cell ?_
              refine wpAny_BinOp ?_
              refine nameX_L I2'.fr (by rfl) ?_
              refine wpAny_Constant_int ?_
              refine P.sub_int ?_
              obtain ⟨x', tx', hx', hvx2⟩ := strsAre_get hvs ts rfl (b0 + i - 1) (vs[b0 + i - 1]'(by omega)) (by simp)
              refine ⟨"list", _, slot_list_getitem.lookup, hX2.typeIs, ?_⟩
              refine wpAny_getItem_list (items := vs) (x := .str (S x') tx') hX2 (by omega) (by omega) ?_ ?_
              · rw [show ((b0 : Int) + (i : Int) * 1 - 1).toNat = b0 + i - 1 by omega, Array.getElem?_eq_getElem (by omega), hvx2]
              refine ⟨_, tx', rfl, ?_⟩
              simp only [innerAt, hz, if_true]
              rw [List.getD_eq_getElem?_getD, hx']; rfl
            · rw [if_neg (by simp; omega)]
              refine Constant_str ?_
              have e0 : S (innerAt ts (b0 + i)).2 = Str.ofString "" := by
                simp only [innerAt, hz, if_false]; decide +kernel
              rw [e0]
              exact ⟨_, _, rfl, rfl⟩
          · intro v st' hv
            obtain ⟨k', tt, rfl, rfl⟩ := hv
            refine args_nil ?_
            refine wpAny_newTuple ?_ (by show 2 ≤ sizeLine; decide)
            refine args_nil ?_
            dsimp only
            have kpn : ∀ b o, h₁'.get? b = some o → (h₁'.push { cls := .type "tuple", data := .seq [.str (S x) tx, .str (S (innerAt ts (b0 + i)).2) tt].toArray }).get? b = some o := fun b o e => Heap.get?_push_of_some _ e
            have hrn : (h₁'.push { cls := .type "tuple", data := .seq [.str (S x) tx, .str (S (innerAt ts (b0 + i)).2) tt].toArray }).get? h₁'.objs.size = some _ := Heap.get?_push_size _ rfl
            have hfn : h₁'.get? h₁'.objs.size = none := Heap.get?_none_of_le (Nat.le_refl _)
            generalize h₁'.objs.size = rn at *
            refine append_at (kpn _ _ hd) ?_ ?_
            · intro h₄' sb₄' hd₄'
              dsimp only
              have rne : ∀ b o, h₁'.get? b = some o → b ≠ rn := fun b o e => neOf e hfn
              obtain ⟨oLz, _, _, hoLz, _⟩ := I2'.fr.ns
              have hx1 : (innerAt ts (b0 + i)).1 = x := by simp only [innerAt]; rw [List.getD_eq_getElem?_getD, hx]; rfl
              refine wpC_execs_nil ?_
              have hps : PAre h₄' (rs ++ [rn]) ((List.range' b0 (i + 1)).map (innerAt ts)) := by
                rw [List.range'_concat, List.map_append]
                refine (I2'.ps.at fun r hr o e => (sb₄'.2 r (I2'.nw r hr).2.2).trans (kpn _ _ e)).snoc ?_
                refine ⟨tx, tt, (sb₄'.2 rn (rne _ _ hd).symm).trans ?_⟩
                rw [hrn]
                simp [hx1]
              have IZ : InS s.heap L Din I2 X _ (rs ++ [rn]) ((List.range' b0 (i + 1)).map (innerAt ts)) h₄' :=
                { fr := (I2'.fr.keeps kpn).change sb₄' hLDin hDinS
                  mi := I2'.mi
                  cell := let ⟨o, e, d⟩ := I2'.cell; ⟨o, (sb₄'.2 _ hcDin.symm).trans (kpn _ _ e), d⟩
                  d := ⟨kd + 1, by rw [hd₄']; simp⟩
                  ps := hps
                  nw := by
                    intro r hr
                    simp only [List.mem_append, List.mem_singleton] at hr
                    rcases hr with hr | hr
                    · exact I2'.nw r hr
                    · rw [hr]; exact ⟨(rne _ _ hoLz).symm, (rne _ _ hst2).symm, (rne _ _ hd).symm⟩
                  nd := I2'.nd }
              exact ⟨(sb₄'.2 I2 hDI2.symm).trans (kpn _ _ hst2), _, _, _, rs ++ [rn], rfl, IZ, by simp [hrl]⟩
            · simp; exact Nat.le_trans (show rs.length ≤ 101 by omega) (by decide)
        · intro st h' tk' hJ hk'
          obtain ⟨hc, k, m, rs, rfl, IJ, hrl⟩ := hJ
          have F' : Fr s.heap L h' m := ⟨IJ.fr.ns.at fun o e => hk' _ o (by simpa using hLI2) e, fun b o e => hk' b o (by simp; exact neOf e hsI2) (IJ.fr.keep b o e), IJ.fr.above⟩
          have I1 := IJ.move F' IJ.mi (fun b _ hb o e => hk' b o (by simpa using hb) e) hcI2
          dsimp only
          refine wpC_execs_cons ?_
          refine wpC_of ?_
          refine wpAny_Return_some ?_
          refine nameX_L I1.fr I1.mi ?_
          obtain ⟨kd, hd⟩ := I1.d
          dsimp only
          refine h _ _ _ I1.fr.keep ⟨rs, kd, hd, ?_⟩
          unfold innerL
          rw [hb]
          dsimp only
          rw [hbl]
          exact I1.ps
end Mine
end

section
set_option autoImplicit false
set_option maxRecDepth 100000
set_option maxHeartbeats 1000000
namespace Mine
open PySem PySem.W PySem.Calls PyProof.Rows

noncomputable def lastL (l : List Nat) : List Nat := l.drop (l.length - 1)
noncomputable def dashT : List Tk := [[45], [47], [92], [58], [59], [34], [40], [41]]
noncomputable def addDash (nm : List Nat) : List Nat := if lastL nm = [45] then nm else nm ++ [45]
noncomputable def stepN (nm ahead tok : List Nat) : List Nat :=
  if tok = [13] ∨ (tok = [10] ∧ ahead ≠ [13]) then nm ++ [13, 10]
  else if tok = [46] ∧ [[], [13], [10]].any (· == ahead) = true then nm ++ [46, 46]
  else if tok = [32] then nm ++ [95]
  else if dashT.any (· == tok) = true then addDash nm
  else if tok = [10] then nm else nm ++ tok
noncomputable def walkTok (bn : Bool) (st : List Nat × List Nat) (p : Tk × Tk) : List Nat × List Nat :=
  if p.1 = unkL then st else (stepN st.1 (if bn = true then st.2 else p.2) p.1, p.1)
noncomputable def walkText (bn : Bool) (st : List Nat × List Nat × Bool) (ts : List Tk) : List Nat × List Nat × Bool :=
  if ts = [] then st else
    let a := if st.2.2 = true then (addDash st.1, [45]) else (st.1, st.2.1)
    let b := (innerL ts).foldl (walkTok bn) a
    (b.1, b.2, true)
noncomputable def walkL (bn : Bool) (tss : List (List Tk)) : List Nat :=
  let nm := (tss.foldl (walkText bn) ([], [], false)).1
  if lastL nm = [45] then nm.dropLast else nm

section
variable {w : World} {A : Around} {E : Value → Shared → Prop} {s : Shared}
theorem add_S {a b : List Nat} {t u : Tok} {Q : Value → Shared → Prop} (hl : a.length + b.length ≤ 100000) (h : ∀ t' k, Q (.str (S (a ++ b)) t') { s with toks := k }) :
    wpAny (model Pr w) A (binaryOp .Add (.str (S a) t) (.str (S b) u)) Q E s := by
  refine P.add_str ?_
  by_cases ha : a = []
  · subst ha
    rw [if_pos (by rw [S_len]; rfl)]
    exact h u s.toks
  · rw [if_neg (by rw [S_len]; simpa using ha)]
    by_cases hb : b = []
    · subst hb
      rw [if_pos (by rw [S_len]; rfl)]
      have := h t s.toks
      rw [List.append_nil] at this
      exact this
    · rw [if_neg (by rw [S_len]; simpa using hb), S_app]
      refine ⟨?_, h _ _⟩
      rw [S_len, List.length_append]
      exact Nat.le_trans hl (by decide)
end
end Mine
end

section
set_option autoImplicit false
set_option maxRecDepth 100000
set_option maxHeartbeats 1000000
namespace Mine
open PySem PySem.W PySem.Calls PyProof.Rows

/-- where _law_walk stands: everything but the frame is as at h0 -/
structure WS (s0 h0 : Heap) (L D : Addr) (bn : Bool) (nm lf : List Nat) (bg : Bool) (m : Str → Option Value) (h : Heap) : Prop where
  fr : Fr s0 L h m
  kp : ∀ b o, b ≠ L → h0.get? b = some o → h.get? b = some o
  mn : ∃ t, m (Str.ofString "name") = some (.str (S nm) t)
  ml : ∃ t, m (Str.ofString "left") = some (.str (S lf) t)
  mb : m (Str.ofString "by_the_name") = some (.bool bn)
  mg : m (Str.ofString "begun") = some (.bool bg)
  mt : m (Str.ofString "texts") = some (.ref D)
section
variable {s0 h0 h h' : Heap} {L D : Addr} {bn bg bg' : Bool} {nm lf nm' lf' : List Nat} {m m' : Str → Option Value}
theorem WS.grow (x : WS s0 h0 L D bn nm lf bg m h) (k : ∀ b o, h.get? b = some o → h'.get? b = some o) : WS s0 h0 L D bn nm lf bg m h' where
  fr := ⟨x.fr.ns.keeps k, fun b o e => k b o (x.fr.keep b o e), x.fr.above⟩
  kp := fun b o hb e => k b o (x.kp b o hb e)
  mn := x.mn
  ml := x.ml
  mb := x.mb
  mg := x.mg
  mt := x.mt
theorem WS.put {y : Str} {v : Value} (x : WS s0 h0 L D bn nm lf bg m h) (F : Fr s0 L h' (fun z => if z = y then some v else m z)) (sb : Heap.SameBut L h h')
    (hy : y ≠ Str.ofString "name" ∧ y ≠ Str.ofString "left" ∧ y ≠ Str.ofString "by_the_name" ∧ y ≠ Str.ofString "begun" ∧ y ≠ Str.ofString "texts") : WS s0 h0 L D bn nm lf bg (fun z => if z = y then some v else m z) h' where
  fr := F
  kp := fun b o hb e => (sb.2 b hb).trans (x.kp b o hb e)
  mn := let ⟨t, e⟩ := x.mn; ⟨t, mne e hy.1.symm⟩
  ml := let ⟨t, e⟩ := x.ml; ⟨t, mne e hy.2.1.symm⟩
  mb := mne x.mb hy.2.2.1.symm
  mg := mne x.mg hy.2.2.2.1.symm
  mt := mne x.mt hy.2.2.2.2.symm
theorem WS.name {t : Tok} (x : WS s0 h0 L D bn nm lf bg m h) (F : Fr s0 L h' (fun z => if z = Str.ofString "name" then some (.str (S nm') t) else m z)) (sb : Heap.SameBut L h h') :
    WS s0 h0 L D bn nm' lf bg (fun z => if z = Str.ofString "name" then some (.str (S nm') t) else m z) h' where
  fr := F
  kp := fun b o hb e => (sb.2 b hb).trans (x.kp b o hb e)
  mn := ⟨t, by rfl⟩
  ml := let ⟨t, e⟩ := x.ml; ⟨t, mne e (by decide)⟩
  mb := mne x.mb (by decide)
  mg := mne x.mg (by decide)
  mt := mne x.mt (by decide)
theorem WS.left {t : Tok} (x : WS s0 h0 L D bn nm lf bg m h) (F : Fr s0 L h' (fun z => if z = Str.ofString "left" then some (.str (S lf') t) else m z)) (sb : Heap.SameBut L h h') :
    WS s0 h0 L D bn nm lf' bg (fun z => if z = Str.ofString "left" then some (.str (S lf') t) else m z) h' where
  fr := F
  kp := fun b o hb e => (sb.2 b hb).trans (x.kp b o hb e)
  mn := let ⟨t, e⟩ := x.mn; ⟨t, mne e (by decide)⟩
  ml := ⟨t, by rfl⟩
  mb := mne x.mb (by decide)
  mg := mne x.mg (by decide)
  mt := mne x.mt (by decide)
theorem WS.begun (x : WS s0 h0 L D bn nm lf bg m h) (F : Fr s0 L h' (fun z => if z = Str.ofString "begun" then some (.bool bg') else m z)) (sb : Heap.SameBut L h h') :
    WS s0 h0 L D bn nm lf bg' (fun z => if z = Str.ofString "begun" then some (.bool bg') else m z) h' where
  fr := F
  kp := fun b o hb e => (sb.2 b hb).trans (x.kp b o hb e)
  mn := let ⟨t, e⟩ := x.mn; ⟨t, mne e (by decide)⟩
  ml := let ⟨t, e⟩ := x.ml; ⟨t, mne e (by decide)⟩
  mb := mne x.mb (by decide)
  mg := by rfl
  mt := mne x.mt (by decide)
theorem WS.base {h1 : Heap} (x : WS s0 h1 L D bn nm lf bg m h) (k : ∀ b o, b ≠ L → h0.get? b = some o → h1.get? b = some o) : WS s0 h0 L D bn nm lf bg m h :=
  { x with kp := fun b o hb e => x.kp b o hb (k b o hb e) }
end
end Mine
end

section
set_option autoImplicit false
set_option maxRecDepth 100000
set_option maxHeartbeats 2000000
namespace Mine
open PySem PySem.W PySem.Calls PyProof.Rows

section
variable {w : World} {A : Around} {E : Value → Shared → Prop} {s : Shared} {s0 h0 : Heap} {L D a : Addr} {bn bg : Bool} {nm lf : List Nat} {m : Str → Option Value} {cn : Str} {cs : Scope} {cd : Value}
theorem wl_add {p1 p2 p3 p4 p5 : Pos} {k1 : Nat} {c : String} {cl : List Nat} {Q : Flow → Shared → Prop} (W : WS s0 h0 L D bn nm lf bg m s.heap) (hc : Str.ofString c = S cl) (hl : nm.length + cl.length ≤ 100000)
    (hk : cs.kind = .function) (hn : (envOf cn cs L a cd).kindOf (Str.ofString "name") = some .local)
    (h : ∀ m' h' k, WS s0 h0 L D bn (nm ++ cl) lf bg m' h' → (∀ y, y ≠ Str.ofString "name" → m' y = m y) → (∀ b o, b ≠ L → s.heap.get? b = some o → h'.get? b = some o) → Q .next { s with heap := h', toks := k }) :
    wpAny (model Pr w) A (exec (.Assign [.Name (Str.ofString "name") p1] (.BinOp (.Name (Str.ofString "name") p2) .Add (.Constant (.str c) k1 p3) p4) p5) (envOf cn cs L a cd)) Q E s := by
  obtain ⟨t, hm⟩ := W.mn
  refine wpAny_Assign_Name ?_
  refine wpAny_BinOp ?_
  refine ld W.fr hm ?_ hk hn
  refine Constant_str ?_
  rw [hc]
  refine add_S hl ?_
  intro t' k
  refine stB W.fr ?_ hk hn
  intro h' F' sb
  exact h _ _ _ (W.name F' sb) (fun y hy => if_neg hy) fun b o hb e => (sb.2 b hb).trans e
theorem wl_last {p1 p2 p3 p4 p5 : Pos} {k1 : Nat} {Q : Value → Shared → Prop} (W : WS s0 h0 L D bn nm lf bg m s.heap) (hl : nm.length ≤ 100000)
    (hk : cs.kind = .function) (hn : (envOf cn cs L a cd).kindOf (Str.ofString "name") = some .local)
    (h : ∀ h' k t, WS s0 h0 L D bn nm lf bg m h' → (∀ b o, s.heap.get? b = some o → h'.get? b = some o) → Q (.str (S (lastL nm)) t) { s with heap := h', toks := k }) :
    wpAny (model Pr w) A (eval (.Subscript (.Name (Str.ofString "name") p1) (.Slice (some (.UnaryOp .USub (.Constant (.int 1) k1 p2) p3)) none none p4) p5) (envOf cn cs L a cd)) Q E s := by
  obtain ⟨t, hm⟩ := W.mn
  refine wpAny_Subscript_str_slice ?_
  refine ld W.fr hm ?_ hk hn
  refine evalPart_some_step ?_
  refine wpAny_UnaryOp ?_
  refine wpAny_Constant_int ?_
  refine P.neg_int ?_
  refine evalPart_none_step ?_
  refine ⟨S nm, t, some (-1, _), none, rfl, rfl, rfl, ?_⟩
  refine post_val_or_str ⟨?_, fun t' k => ?_⟩
  · exact Nat.le_trans (Txt.slice_le (S nm) (some (-1)) none) (by rw [S_len]; exact Nat.le_trans hl (by decide))
  · show Q (.str (Txt.slice (S nm) (some (-1)) none) t') _
    rw [slice_last]
    exact h _ _ t' (W.grow fun b o e => Heap.get?_push_of_some _ e) fun b o e => Heap.get?_push_of_some _ e
theorem wl_dash {p1 p2 p3 p4 p5 p6 p7 q1 q2 q3 q4 q5 p8 : Pos} {k1 k2 k3 : Nat} {Q : Flow → Shared → Prop} (W : WS s0 h0 L D bn nm lf bg m s.heap) (hl : nm.length ≤ 99999)
    (hk : cs.kind = .function) (hn : (envOf cn cs L a cd).kindOf (Str.ofString "name") = some .local)
    (h : ∀ m' h' k, WS s0 h0 L D bn (addDash nm) lf bg m' h' → (∀ y, y ≠ Str.ofString "name" → m' y = m y) → (∀ b o, b ≠ L → s.heap.get? b = some o → h'.get? b = some o) → Q .next { s with heap := h', toks := k }) :
    wpAny (model Pr w) A (exec (.If (.Compare (.Subscript (.Name (Str.ofString "name") p1) (.Slice (some (.UnaryOp .USub (.Constant (.int 1) k1 p2) p3)) none none p4) p5) [.NotEq] [.Constant (.str "-") k2 p6] p7)
      [.Assign [.Name (Str.ofString "name") q1] (.BinOp (.Name (Str.ofString "name") q2) .Add (.Constant (.str "-") k3 q3) q4) q5] [] p8) (envOf cn cs L a cd)) Q E s := by
  refine wpAny_If ?_
  refine wpAny_isTrue_Compare1 ?_
  refine wl_last W (by omega) hk hn ?_
  intro h₁ k₁ t₁ W₁ kp
  refine Constant_str ?_
  refine P.ne_str ?_
  refine wpAny_truthy_bool ?_
  rw [S_list, show (Str.ofString "-").cps.toList = [45] from by decide +kernel]
  by_cases hc : lastL nm = [45]
  · rw [if_neg (by rw [hc]; decide)]
    refine wpAny_execs_nil ?_
    refine h m h₁ _ ?_ (fun _ _ => rfl) fun b o _ e => kp b o e
    unfold addDash; rw [if_pos hc]; exact W₁
  · rw [if_pos (by simpa using hc)]
    refine wpAny_execs_cons ?_
    refine wl_add W₁ (cl := [45]) (by decide +kernel) (by simp; omega) hk hn ?_
    intro m' h' k W' hm' kp'
    refine wpAny_execs_nil ?_
    refine h m' h' k ?_ hm' fun b o hb e => kp' b o hb (kp b o e)
    unfold addDash; rw [if_neg hc]; exact W'
end
end Mine
end

section
set_option autoImplicit false
set_option maxRecDepth 100000
set_option maxHeartbeats 2000000
namespace Mine
open PySem PySem.W PySem.Calls PyProof.Rows

theorem WS.next {s0 h0 h h' : Heap} {L D I : Addr} {bn bg : Bool} {nm lf : List Nat} {m : Str → Option Value} (x : WS s0 h0 L D bn nm lf bg m h) (k : ∀ b o, b ∉ [I] → h.get? b = some o → h'.get? b = some o) (h0n : h0.get? I = none) (s0n : s0.get? I = none) (hL : L ≠ I) : WS s0 h0 L D bn nm lf bg m h' where
  fr := ⟨x.fr.ns.at fun o e => k _ o (by simpa using hL) e, fun b o e => k b o (by simp; exact neOf e s0n) (x.fr.keep b o e), x.fr.above⟩
  kp := fun b o hb e => k b o (by simp; exact neOf e h0n) (x.kp b o hb e)
  mn := x.mn
  ml := x.ml
  mb := x.mb
  mg := x.mg
  mt := x.mt
theorem stepN_len (nm ahead tok : List Nat) (h : tok.length ≤ 10) : (stepN nm ahead tok).length ≤ nm.length + 10 := by
  unfold stepN addDash
  repeat' split
  all_goals simp <;> omega
theorem walkTok_len (bn : Bool) (st : List Nat × List Nat) (p : Tk × Tk) (h : p.1.length ≤ 10) : (walkTok bn st p).1.length ≤ st.1.length + 10 := by
  unfold walkTok
  split
  · omega
  · exact stepN_len _ _ _ h
theorem walkToks_len (bn : Bool) : ∀ (ps : List (Tk × Tk)) (st : List Nat × List Nat), (∀ p ∈ ps, p.1.length ≤ 10) → (ps.foldl (walkTok bn) st).1.length ≤ st.1.length + 10 * ps.length
  | [], _, _ => by simp
  | p :: ps, st, h => by
    have h1 := walkToks_len bn ps (walkTok bn st p) fun q hq => h q (by simp [hq])
    have h2 := walkTok_len bn st p (h p (by simp))
    simp only [List.foldl_cons, List.length_cons]
    omega
theorem getD_len {ts : List Tk} (h : ∀ t ∈ ts, t.length ≤ 10) (k : Nat) : (ts.getD k []).length ≤ 10 := by
  rw [List.getD_eq_getElem?_getD]
  cases e : ts[k]? with
  | none => simp
  | some x => exact h x (List.mem_of_getElem? e)
theorem innerL_tok {ts : List Tk} (h : ∀ t ∈ ts, t.length ≤ 10) : ∀ p ∈ innerL ts, p.1.length ≤ 10 := by
  intro p hp
  unfold innerL at hp
  split at hp
  · cases hp
  · obtain ⟨k, _, rfl⟩ := List.mem_map.mp hp
    exact getD_len h k
theorem innerL_len (ts : List Tk) : (innerL ts).length ≤ ts.length := by
  unfold innerL
  split
  · simp
  · rename_i b r hb
    have hblt : ∀ x ∈ blackIdx ts, x < ts.length := fun x hx => by
      unfold blackIdx at hx
      exact List.mem_range.mp (List.mem_filter.mp hx).1
    have := hblt ((b :: r).getLastD 0) (by rw [hb]; simp [List.getLastD])
    simp only [List.length_map, List.length_range']
    omega
theorem walkText_len (bn : Bool) (st : List Nat × List Nat × Bool) (ts : List Tk) (hn : ts.length ≤ 50) (h : ∀ t ∈ ts, t.length ≤ 10) : (walkText bn st ts).1.length ≤ st.1.length + 600 := by
  unfold walkText
  split
  · omega
  · have h2 := innerL_len ts
    have h1 := walkToks_len bn (innerL ts) (if st.2.2 = true then (addDash st.1, [45]) else (st.1, st.2.1)) (innerL_tok h)
    have h3 : (if st.2.2 = true then (addDash st.1, [45]) else (st.1, st.2.1)).1.length ≤ st.1.length + 1 := by
      split
      · unfold addDash; split <;> simp
      · simp
    dsimp only
    omega
theorem strsAre_nil {vs : List Value} {ts : List Tk} (h : StrsAre vs (ts.map S)) : vs.length = ts.length := by have := strsAre_len h; simpa using this
theorem take_foldl {α β : Type} (f : β → α → β) (l : List α) (b : β) {i : Nat} {x : α} (h : l[i]? = some x) : (l.take (i + 1)).foldl f b = f ((l.take i).foldl f b) x := by
  rw [List.take_add_one, h]; simp
end Mine
end

section
set_option autoImplicit false
set_option maxRecDepth 100000
set_option maxHeartbeats 4000000
namespace Mine
open PySem PySem.W PySem.Calls PyProof.Rows

theorem WS.rebase {s0 h0 h : Heap} {L D : Addr} {bn bg : Bool} {nm lf : List Nat} {m : Str → Option Value} (x : WS s0 h0 L D bn nm lf bg m h) : WS s0 h L D bn nm lf bg m h := { x with kp := fun _ _ _ e => e }
theorem walk_call {w : World} {A : Around} {E : Value → Shared → Prop} {s : Shared} {p : Program} {loose : List Str} {mg mb : Str → Option Value} {D : Addr} {tss : List (List Tk)} {bn : Bool} {Q : Value → Shared → Prop}
    (G : Gd w p loose mg mb s.heap) (hD : LL s.heap D tss) (hn : tss.length ≤ 50) (hm : ∀ ts ∈ tss, ts.length ≤ 50) (htl : ∀ ts ∈ tss, ∀ t ∈ ts, t.length ≤ 10)
    (hh : A.handled = none) (hroom : A.depth + 1 < recursionLimit) (hu : A.units ≤ 900)
    (h : ∀ h' k t, (∀ b o, s.heap.get? b = some o → h'.get? b = some o) → Q (.str (S (walkL bn tss)) t) { s with heap := h', toks := k }) : wpC (model Pr w) A (call (.ref 87) [.ref D, .bool bn]) Q E s := by
  refine call_fnC G (f := 87) (binds := [(Str.ofString "texts", .ref D), (Str.ofString "by_the_name", .bool bn)]) (by rfl) (by rfl) (Nat.lt_of_succ_lt hroom) (by rfl) (by rfl) (by rfl) (by rfl) (by rfl) (by decide) ?_
  intro L h₁ hL F₁
  obtain ⟨rs, kD, hDo, hrs⟩ := hD
  have hrl := hrs.len
  refine wpC_execs_cons ?_
  refine wpC_of ?_
  refine wpAny_Assign_Name ?_
  refine Constant_str ?_
  refine stB F₁ ?_
  intro h₂ F₂ sb₂
  dsimp only
  refine wpC_execs_cons ?_
  refine wpC_of ?_
  refine wpAny_Assign_Name ?_
  refine Constant_str ?_
  refine stB F₂ ?_
  intro h₃ F₃ sb₃
  dsimp only
  refine wpC_execs_cons ?_
  refine wpC_of ?_
  refine wpAny_Assign_Name ?_
  refine Constant_bool ?_
  refine stB F₃ ?_
  intro h₄ F₄ sb₄
  dsimp only
  have W4 : WS s.heap s.heap L D bn [] [] false _ h₄ := ⟨F₄, fun b o _ e => F₄.keep b o e, ⟨_, by rfl⟩, ⟨_, by rfl⟩, by rfl, by rfl, by rfl⟩
  refine wpC_execs_cons ?_
  refine wpC_For ?_
  refine wpC_of ?_
  refine ld F₄ (by rfl) ?_
  have hD4 := F₄.keep _ _ hDo
  refine wpAny_pyIter_list (items := (rs.map Value.ref).toArray) ⟨_, hD4, rfl, _, rfl⟩ ?_
  dsimp only
  generalize hI : h₄.objs.size = I
  generalize hh₅ : h₄.push _ = h₅
  have kp5 : ∀ b o, h₄.get? b = some o → h₅.get? b = some o := fun b o e => hh₅ ▸ Heap.get?_push_of_some _ e
  have h4I : h₄.get? I = none := hI ▸ Heap.get?_none_of_le (Nat.le_refl _)
  have hI5 : h₅.get? I = some _ := hh₅ ▸ hI ▸ Heap.get?_push_size _ rfl
  obtain ⟨oL, _, _, hoL, _⟩ := F₄.ns
  have hLI : L ≠ I := neOf hoL h4I
  have hDI : D ≠ I := neOf hD4 h4I
  have hsI : s.heap.get? I = none := by
    cases q : s.heap.get? I with
    | none => rfl
    | some o => have := F₄.keep _ _ q; rw [h4I] at this; cases this
  have hLD : D ≠ L := by
    have : s.heap.get? L = none := hL ▸ Heap.get?_none_of_le (Nat.le_refl _)
    exact neOf hDo this
  have hsz : (rs.map Value.ref).toArray.size = tss.length := by simp [hrl]
  have W5 := W4.grow kp5
  refine ⟨I, [I, D], [I], _, _, _, fun i st => ∃ h k m, st = { s with heap := h, toks := k } ∧
      WS s.heap s.heap L D bn ((tss.take i).foldl (walkText bn) ([], [], false)).1 ((tss.take i).foldl (walkText bn) ([], [], false)).2.1 ((tss.take i).foldl (walkText bn) ([], [], false)).2.2 m h ∧
      ((tss.take i).foldl (walkText bn) ([], [], false)).1.length ≤ 600 * i,
    rfl, Walks.list (by exact hh) I D hDI (rs.map Value.ref).toArray, ⟨⟨_, hI5, rfl, rfl⟩, ⟨_, kp5 _ _ hD4, rfl, _, rfl⟩⟩, ⟨_, _, _, rfl, W5, Nat.le_refl _⟩, ?_, ?_⟩
  · intro i v st h' tk' hi hP hJ hst' hk'
    obtain ⟨hc, k, m, rfl, WJ, hlen⟩ := hJ
    have hi' : i < tss.length := by rw [← hsz]; exact hi
    obtain ⟨r, hr, rfl⟩ : ∃ r, rs[i]? = some r ∧ v = .ref r := by
      have : (rs.map Value.ref)[i]? = some v := by simpa using hP
      rw [List.getElem?_map] at this
      obtain ⟨r, e, e2⟩ := Option.map_eq_some_iff.mp this
      exact ⟨r, e, e2.symm⟩
    obtain ⟨ts, hts, hTs⟩ := hrs.get i r hr
    have htm : ts ∈ tss := List.mem_of_getElem? hts
    have htf := take_foldl (walkText bn) tss ([], [], false) hts
    generalize hst0 : (tss.take i).foldl (walkText bn) ([], [], false) = st0 at *
    obtain ⟨nm, lf, bg⟩ := st0
    dsimp only at WJ hlen
    have hts50 := hm ts htm
    have hwl := walkText_len bn (nm, lf, bg) ts hts50 (htl ts htm)
    dsimp only at hwl
    have W1 := (WJ.next hk' hsI hsI hLI).rebase
    have fin : ∀ h'' k'' m'' nm' lf' bg', WS s.heap h' L D bn nm' lf' bg' m'' h'' → (nm', lf', bg') = walkText bn (nm, lf, bg) ts →
        (h''.IsListIter I D (i + 1) ∧ h''.IsList D (rs.map Value.ref).toArray) ∧ ∃ h k m, ({ s with heap := h'', toks := k'' } : Shared) = { s with heap := h, toks := k } ∧
          WS s.heap s.heap L D bn ((tss.take (i + 1)).foldl (walkText bn) ([], [], false)).1 ((tss.take (i + 1)).foldl (walkText bn) ([], [], false)).2.1 ((tss.take (i + 1)).foldl (walkText bn) ([], [], false)).2.2 m h ∧
          ((tss.take (i + 1)).foldl (walkText bn) ([], [], false)).1.length ≤ 600 * (i + 1) := by
      intro h'' k'' m'' nm' lf' bg' W' e
      rw [htf, ← e]
      refine ⟨⟨hst'.1.at fun o eo => W'.kp _ _ hLI.symm eo, hst'.2.at fun o eo => W'.kp _ _ hLD eo⟩, _, _, _, rfl, W'.base fun b o _ eb => ?_, ?_⟩
      · exact W1.fr.keep b o eb
      · rw [← e] at hwl; dsimp only at hwl ⊢; omega
    obtain ⟨vs, kx, hrv, hvs⟩ := hTs
    have hrL : r ≠ L := neOf hrv (hL ▸ Heap.get?_none_of_le (Nat.le_refl _))
    refine wpC_of ?_
    refine wpAny_of_eq rfl ?_
    refine wpC_of ?_
    refine wpAny_assign_Name ?_
    refine stB W1.fr ?_
    intro h₁' F₁' sb₁'
    have W2 := W1.put F₁' sb₁' (by decide)
    dsimp only
    have hu' : A.units + 3 < cLine := Nat.lt_of_le_of_lt (Nat.add_le_add_right hu 3) (by decide)
    refine wpC_execs_cons ?_
    refine wpC_If ?_
    refine wpAny_isTrue_Compare1 ?_
    refine ld W2.fr (by rfl) ?_
    refine List_ ?_
    refine args_nil ?_
    refine wpAny_newList ?_
    have hrl2 : (h₁'.push { cls := .type "list", data := .seq [].toArray }).IsList r vs := ⟨_, Heap.get?_push_of_some _ (W2.fr.keep _ _ hrv), rfl, _, rfl⟩
    have hel : (h₁'.push { cls := .type "list", data := .seq [].toArray }).IsList h₁'.objs.size #[] := ⟨_, Heap.get?_push_size _ rfl, rfl, _, rfl⟩
    have W3 := W2.grow (h' := h₁'.push { cls := .type "list", data := .seq [].toArray }) fun b o e => Heap.get?_push_of_some _ e
    have hvl : vs.size = ts.length := by rw [← Array.length_toList, strsAre_len hvs]; simp
    dsimp only at W3 hrl2 hel ⊢
    by_cases hte : ts = []
    · have hv0 : vs.size = 0 := by rw [hvl, hte]; rfl
      refine PySem.SeqAt.eq_listAt (e := fun _ => true) hrl2 hel (by simpa using hv0) hu' ?_ ?_
      · intro j h1 h2; simp at h2
      refine wpAny_truthy_bool ?_
      rw [if_pos (by simp)]
      refine wpC_execs_cons ?_
      refine wpC_of ?_
      refine wpAny_Continue ?_
      dsimp only
      refine fin _ _ _ nm lf bg W3 ?_
      unfold walkText
      rw [if_pos hte]
    · have hv0 : vs.size ≠ 0 := by rw [hvl]; intro q; exact hte (List.eq_nil_of_length_eq_zero q)
      refine PySem.SeqAt.eq_list_lengthsAt hrl2 hel (by simpa using hv0) hu' ?_
      refine wpAny_truthy_bool ?_
      rw [if_neg (by simp)]
      refine wpC_execs_nil ?_
      dsimp only
      have hl5 : nm.length ≤ 30000 := by omega
      generalize h₁'.push { cls := .type "list", data := .seq [].toArray } = h₂' at *
      refine wpC_execs_cons ?_
      refine wpC_mono (Q := fun f st' => f = .next ∧ ∃ h₂ k₂ m₂, st' = { s with heap := h₂, toks := k₂ } ∧ WS s.heap h' L D bn (if bg = true then addDash nm else nm) (if bg = true then [45] else lf) bg m₂ h₂ ∧ m₂ (Str.ofString "tokens") = some (.ref r)) (E := fun _ _ => False) ?_ ?_ (fun _ _ x => x.elim)
      · refine wpC_If ?_
        refine isTrue_plain ?_
        refine ld W3.fr W3.mg ?_
        refine wpAny_truthy_bool ?_
        cases bg with
        | false =>
          rw [if_neg (by decide)]
          refine wpC_execs_nil ?_
          exact ⟨rfl, _, _, _, rfl, W3, by rfl⟩
        | true =>
          rw [if_pos rfl]
          refine wpC_execs_cons ?_
          refine wpC_of ?_
          refine wpAny_Assign_Name ?_
          refine Constant_str ?_
          rw [show Str.ofString "-" = S [45] from by decide +kernel]
          refine stB W3.fr ?_
          intro h₃' F₃' sb₃'
          have W4' := W3.left F₃' sb₃'
          dsimp only
          refine wpC_execs_cons ?_
          refine wpC_of ?_
          refine wl_dash W4' (by omega) (by rfl) (by rfl) ?_
          intro m₅ h₅' k₅ W5' hm5 kp5'
          dsimp only
          refine wpC_execs_nil ?_
          refine ⟨rfl, _, _, _, rfl, W5', ?_⟩
          rw [hm5 _ (by decide)]
          rfl
      · intro f st' hq
        obtain ⟨rfl, h₃', k₃, m₃, rfl, W4', hm3⟩ := hq
        dsimp only
        have hl6 : (if bg = true then addDash nm else nm).length ≤ 30001 := by
          split
          · unfold addDash
            split
            · omega
            · simp; omega
          · omega
        have hwt : ∀ nm' lf' bg', (nm', lf') = (innerL ts).foldl (walkTok bn) (if bg = true then addDash nm else nm, if bg = true then [45] else lf) → bg' = true → (nm', lf', bg') = walkText bn (nm, lf, bg) ts := by
          intro nm' lf' bg' e e2
          unfold walkText
          rw [if_neg hte]
          dsimp only
          rw [e2]
          have e3 : (if bg = true then (addDash nm, [45]) else (nm, lf)) = (if bg = true then addDash nm else nm, if bg = true then [45] else lf) := by split <;> rfl
          rw [e3, ← e]
        generalize hnm2 : (if bg = true then addDash nm else nm) = nm2 at *
        generalize hlf2 : (if bg = true then [45] else lf) = lf2 at *
        refine wpC_execs_cons ?_
        refine wpC_of ?_
        refine wpAny_Assign_Name ?_
        refine Constant_bool ?_
        refine stB W4'.fr ?_
        intro h₄' F₄' sb₄'
        have W5' := W4'.begun F₄' sb₄'
        have hm4 := mne (y := Str.ofString "begun") (v := .bool true) hm3 (by decide)
        dsimp only
        generalize (fun z => if z = Str.ofString "begun" then some (Value.bool true) else m₃ z) = m₄ at *
        refine wpC_execs_cons ?_
        refine wpC_For ?_
        refine wpC_Call ?_
        refine name_K W5'.fr G.K G.T (v := .ref 80) (by rfl) ?_
        refine callWithC (K := KF w) (by rfl) ?_
        refine args_cons ?_
        refine ld W5'.fr hm4 ?_
        refine args_nil ?_
        refine ⟨G.K.keeps W5'.fr.keep, ?_⟩
        refine inner_call (G.keeps W5'.fr.keep) (X := r) (ts := ts) ⟨vs, kx, W5'.fr.keep _ _ hrv, hvs⟩ (by omega) (by exact hh) (by exact hroom) (by show A.units + 3 ≤ 1000; omega) ?_
        intro h₅' k₅' PD kp5' hPL
        dsimp only
        obtain ⟨qs, kP, hPo, hps⟩ := hPL
        have hql := hps.len
        have W6 := W5'.grow kp5'
        refine wpAny_pyIter_list (items := (qs.map Value.ref).toArray) ⟨_, hPo, rfl, _, rfl⟩ ?_
        dsimp only
        generalize hI2 : h₅'.objs.size = I2
        generalize hh6 : h₅'.push _ = h₆'
        have kp6 : ∀ b o, h₅'.get? b = some o → h₆'.get? b = some o := fun b o e => hh6 ▸ Heap.get?_push_of_some _ e
        have h5I : h₅'.get? I2 = none := hI2 ▸ Heap.get?_none_of_le (Nat.le_refl _)
        have hI6 : h₆'.get? I2 = some _ := hh6 ▸ hI2 ▸ Heap.get?_push_size _ rfl
        obtain ⟨oL6, _, _, hoL6, _⟩ := W6.fr.ns
        have hLI2 : L ≠ I2 := neOf hoL6 h5I
        have hPI2 : PD ≠ I2 := neOf hPo h5I
        have hsI2 : s.heap.get? I2 = none := by
          cases q : s.heap.get? I2 with
          | none => rfl
          | some o => have := W6.fr.keep _ _ q; rw [h5I] at this; cases this
        have hPL2 : PD ≠ L := fun q => by
          obtain ⟨o, _, _, e, hd, _⟩ := W6.fr.ns
          rw [← q, hPo] at e; cases e
          cases hd
        have W7 := (W6.rebase).grow kp6
        have hsz2 : (qs.map Value.ref).toArray.size = (innerL ts).length := by simp [hql]
        have hin := innerL_tok (htl ts htm)
        have hlen2 := walkToks_len bn
        refine ⟨I2, [I2, PD], [I2], _, _, _, fun j st => ∃ h k m, st = { s with heap := h, toks := k } ∧
            WS s.heap h₅' L D bn (((innerL ts).take j).foldl (walkTok bn) (nm2, lf2)).1 (((innerL ts).take j).foldl (walkTok bn) (nm2, lf2)).2 true m h,
          rfl, Walks.list (by exact hh) I2 PD hPI2 (qs.map Value.ref).toArray, ⟨⟨_, hI6, rfl, rfl⟩, ⟨_, kp6 _ _ hPo, rfl, _, rfl⟩⟩, ⟨_, _, _, rfl, W7⟩, ?_, ?_⟩
        · intro j v st h₇ tk₇ hj hP2 hJ2 hst2 hk2
          obtain ⟨hc2, k2, m2, rfl, WJ2⟩ := hJ2
          obtain ⟨q, hq, rfl⟩ : ∃ q, qs[j]? = some q ∧ v = .ref q := by
            have : (qs.map Value.ref)[j]? = some v := by simpa using hP2
            rw [List.getElem?_map] at this
            obtain ⟨q, e, e2⟩ := Option.map_eq_some_iff.mp this
            exact ⟨q, e, e2.symm⟩
          obtain ⟨⟨tok, bf⟩, hpp, hqo⟩ := hps.get j q hq
          have htf2 := take_foldl (walkTok bn) (innerL ts) (nm2, lf2) hpp
          have hlt := walkToks_len bn ((innerL ts).take j) (nm2, lf2) (fun p hp => hin p (List.mem_of_mem_take hp))
          have hlj : ((innerL ts).take j).length ≤ 50 := by rw [List.length_take]; have := innerL_len ts; omega
          generalize hst1 : ((innerL ts).take j).foldl (walkTok bn) (nm2, lf2) = st1 at *
          obtain ⟨nm3, lf3⟩ := st1
          dsimp only at WJ2 hlt
          have hl3 : nm3.length ≤ 40000 := by omega
          have htok : tok.length ≤ 10 := hin _ (List.mem_of_getElem? hpp)
          have Wn := WJ2.next hk2 h5I hsI2 hLI2
          have Wr := Wn.rebase
          have fin2 : ∀ h'' k'' m'' nm' lf', WS s.heap h₇ L D bn nm' lf' true m'' h'' → (nm', lf') = walkTok bn (nm3, lf3) (tok, bf) →
              (h''.IsListIter I2 PD (j + 1) ∧ h''.IsList PD (qs.map Value.ref).toArray) ∧ ∃ h k m, ({ s with heap := h'', toks := k'' } : Shared) = { s with heap := h, toks := k } ∧
                WS s.heap h₅' L D bn (((innerL ts).take (j + 1)).foldl (walkTok bn) (nm2, lf2)).1 (((innerL ts).take (j + 1)).foldl (walkTok bn) (nm2, lf2)).2 true m h := by
            intro h'' k'' m'' nm' lf' W' e
            rw [htf2, ← e]
            exact ⟨⟨hst2.1.at fun o eo => W'.kp _ _ hLI2.symm eo, hst2.2.at fun o eo => W'.kp _ _ hPL2 eo⟩, _, _, _, rfl, W'.base Wn.kp⟩
          obtain ⟨t1, t2, hqo⟩ := hqo
          have hqL : q ≠ L := fun qq => by
            obtain ⟨o, _, _, e, hd, _⟩ := W6.fr.ns
            rw [← qq, hqo] at e; cases e
            cases hd
          have hq7 := Wn.kp _ _ hqL hqo
          refine wpC_of ?_
          refine wpAny_letOwnedTupleGo_listiter hst2.1 ?_
          refine wpC_of ?_
          refine assign_Tuple_tuple (by exact hh) ⟨_, hq7, rfl, _, rfl⟩ rfl rfl ?_
          intro h₈ hx8
          have W8 := Wr.grow (h' := h₈) fun b o e => hx8 b o (Nat.ne_of_lt (Heap.lt_size e)) e
          refine assignInOrder_cons ?_
          refine wpAny_assign_Name ?_
          refine stB W8.fr ?_
          intro h₉ F₉ sb₉
          have W9 := W8.put F₉ sb₉ (by decide)
          refine assignInOrder_cons ?_
          refine wpAny_assign_Name ?_
          refine stB W9.fr ?_
          intro h₁₀ F₁₀ sb₁₀
          have W10 := W9.put F₁₀ sb₁₀ (by decide)
          refine assignInOrder_nil ?_
          dsimp only
          have htk : (fun z => if z = Str.ofString "before" then some (Value.str (S bf) t2) else (fun z => if z = Str.ofString "token" then some (Value.str (S tok) t1) else m2 z) z) (Str.ofString "token") = some (.str (S tok) t1) := mne (m := fun z => if z = Str.ofString "token" then some (Value.str (S tok) t1) else m2 z) (x := Str.ofString "token") (y := Str.ofString "before") (by rfl) (by decide)
          have hbf : (fun z => if z = Str.ofString "before" then some (Value.str (S bf) t2) else (fun z => if z = Str.ofString "token" then some (Value.str (S tok) t1) else m2 z) z) (Str.ofString "before") = some (.str (S bf) t2) := by rfl
          generalize (fun z => if z = Str.ofString "before" then some (Value.str (S bf) t2) else (fun z => if z = Str.ofString "token" then some (Value.str (S tok) t1) else m2 z) z) = m₁₀ at *
          refine wpC_execs_cons ?_
          refine wpC_mono (Q := fun f st' => f = .next ∧ ∃ h₂ k₂ m₂ ta, st' = { s with heap := h₂, toks := k₂ } ∧ WS s.heap h₇ L D bn nm3 lf3 true m₂ h₂ ∧ m₂ (Str.ofString "token") = some (.str (S tok) t1) ∧ m₂ (Str.ofString "ahead") = some (.str (S (if bn = true then lf3 else bf)) ta)) (E := fun _ _ => False) ?_ ?_ (fun _ _ x => x.elim)
          · refine wpC_of ?_
            refine wpAny_Assign_Name ?_
            refine wpAny_IfExp ?_
            refine isTrue_plain ?_
            refine ld W10.fr W10.mb ?_
            refine wpAny_truthy_bool ?_
            cases bn with
            | true =>
              rw [if_pos rfl]
              obtain ⟨t0, hm0⟩ := W10.ml
              refine ld W10.fr hm0 ?_
              refine stB W10.fr ?_
              intro h₁₁ F₁₁ sb₁₁
              exact ⟨rfl, _, _, _, t0, rfl, W10.put F₁₁ sb₁₁ (by decide), mne (y := Str.ofString "ahead") htk (by decide), by rfl⟩
            | false =>
              rw [if_neg (by decide)]
              refine ld W10.fr hbf ?_
              refine stB W10.fr ?_
              intro h₁₁ F₁₁ sb₁₁
              exact ⟨rfl, _, _, _, t2, rfl, W10.put F₁₁ sb₁₁ (by decide), mne (y := Str.ofString "ahead") htk (by decide), by rfl⟩
          intro f st' hq'
          obtain ⟨rfl, h₁₁, k₁₁, m₁₁, ta, rfl, W11, htk1, hah⟩ := hq'
          dsimp only
          have hwk : ∀ nm' lf', (nm', lf') = (if tok = unkL then (nm3, lf3) else (stepN nm3 (if bn = true then lf3 else bf) tok, tok)) → (nm', lf') = walkTok bn (nm3, lf3) (tok, bf) := fun nm' lf' e => e
          generalize (if bn = true then lf3 else bf) = ah at *
          refine wpC_execs_cons ?_
          refine wpC_If ?_
          refine wpAny_isTrue_Compare1 ?_
          refine ld W11.fr htk1 ?_
          refine Constant_str ?_
          refine P.eq_str ?_
          refine wpAny_truthy_bool ?_
          rw [S_list, show (Str.ofString "unknown").cps.toList = unkL from by decide +kernel]
          by_cases hun : tok = unkL
          · rw [if_pos (by rw [hun]; rfl)]
            refine wpC_execs_cons ?_
            refine wpC_of ?_
            refine wpAny_Continue ?_
            dsimp only
            refine fin2 _ _ _ nm3 lf3 W11 (hwk _ _ ?_)
            rw [if_pos hun]
          · rw [if_neg (by simpa using hun)]
            refine wpC_execs_nil ?_
            dsimp only
            rw [if_neg hun] at hwk
            refine wpC_execs_cons ?_
            refine wpC_of ?_
            refine wpAny_Assign_Name ?_
            refine ld W11.fr htk1 ?_
            refine stB W11.fr ?_
            intro h₁₂ F₁₂ sb₁₂
            have W12 := W11.left F₁₂ sb₁₂
            have htk2 := mne (y := Str.ofString "left") (v := Value.str (S tok) t1) htk1 (by decide)
            have hah2 := mne (y := Str.ofString "left") (v := Value.str (S tok) t1) hah (by decide)
            dsimp only
            generalize (fun z => if z = Str.ofString "left" then some (Value.str (S tok) t1) else m₁₁ z) = m₁₂ at *
            have fin3 : ∀ h'' k'' m'', WS s.heap h₇ L D bn (stepN nm3 ah tok) tok true m'' h'' → 
              (h''.IsListIter I2 PD (j + 1) ∧ h''.IsList PD (qs.map Value.ref).toArray) ∧ ∃ h k m, ({ s with heap := h'', toks := k'' } : Shared) = { s with heap := h, toks := k } ∧
                WS s.heap h₅' L D bn (((innerL ts).take (j + 1)).foldl (walkTok bn) (nm2, lf2)).1 (((innerL ts).take (j + 1)).foldl (walkTok bn) (nm2, lf2)).2 true m h :=
              fun h'' k'' m'' W => fin2 h'' k'' m'' _ _ W (hwk _ _ rfl)
            clear hwk fin2
            unfold stepN at fin3
            refine wpC_execs_cons ?_
            refine wpC_If ?_
            refine wpAny_mono (Q := fun b st' => (b = true ↔ (tok = [13] ∨ (tok = [10] ∧ ah ≠ [13]))) ∧ ∃ k, st' = { s with heap := h₁₂, toks := k }) (E := No) ?_ ?_ (fun _ _ x => x.elim)
            · refine isTrue_or ?_
              refine wpAny_isTrue_Compare1 ?_
              refine ld W12.fr htk2 ?_
              refine Constant_str ?_
              refine P.eq_str ?_
              refine wpAny_truthy_bool ?_
              rw [S_list, show (Str.ofString "\r").cps.toList = [13] from by decide +kernel]
              by_cases h13 : tok = [13]
              · rw [if_pos (by rw [h13]; rfl)]
                exact ⟨⟨fun _ => .inl h13, fun _ => rfl⟩, _, rfl⟩
              · rw [if_neg (by simpa using h13)]
                refine isTrue_or ?_
                refine isTrue_and ?_
                refine wpAny_isTrue_Compare1 ?_
                refine ld W12.fr htk2 ?_
                refine Constant_str ?_
                refine P.eq_str ?_
                refine wpAny_truthy_bool ?_
                rw [S_list, show (Str.ofString "\n").cps.toList = [10] from by decide +kernel]
                by_cases h10 : tok = [10]
                · rw [if_pos (by rw [h10]; rfl)]
                  refine isTrue_and ?_
                  refine wpAny_isTrue_Compare1 ?_
                  refine ld W12.fr hah2 ?_
                  refine Constant_str ?_
                  refine P.ne_str ?_
                  refine wpAny_truthy_bool ?_
                  rw [S_list, show (Str.ofString "\r").cps.toList = [13] from by decide +kernel]
                  by_cases ha : ah = [13]
                  · rw [if_neg (by rw [ha]; decide)]
                    rw [if_neg (by decide)]
                    refine isTrue_or_nil ?_
                    exact ⟨⟨fun x => (by cases x), fun x => x.elim (fun x => absurd x h13) fun x => absurd ha x.2⟩, _, rfl⟩
                  · rw [if_pos (by simpa using ha)]
                    refine isTrue_and_nil ?_
                    rw [if_pos rfl]
                    exact ⟨⟨fun _ => .inr ⟨h10, ha⟩, fun _ => rfl⟩, _, rfl⟩
                · rw [if_neg (by simpa using h10)]
                  rw [if_neg (by decide)]
                  refine isTrue_or_nil ?_
                  exact ⟨⟨fun x => (by cases x), fun x => x.elim (fun x => absurd x h13) fun x => absurd x.1 h10⟩, _, rfl⟩
            intro b st' hb
            obtain ⟨hb, k₁₂, rfl⟩ := hb
            by_cases c1 : tok = [13] ∨ (tok = [10] ∧ ah ≠ [13])
            · rw [if_pos (hb.mpr c1)]
              rw [if_pos c1] at fin3
              refine wpC_execs_cons ?_
              refine wpC_of ?_
              refine wl_add W12 (cl := [13, 10]) (by decide +kernel) (by simp; omega) (by rfl) (by rfl) ?_
              intro m₁₃ h₁₃ k₁₃ W13 hm13 kp13
              dsimp only
              refine wpC_execs_nil ?_
              refine wpC_execs_nil ?_
              dsimp only
              exact fin3 _ _ _ W13
            · rw [if_neg (fun x => c1 (hb.mp x))]
              rw [if_neg c1] at fin3
              clear hb
              refine wpC_execs_cons ?_
              refine wpC_If ?_
              refine wpAny_mono (Q := fun b st' => (b = true ↔ (tok = [46] ∧ [[], [13], [10]].any (· == ah) = true)) ∧ ∃ h k, st' = { s with heap := h, toks := k } ∧ WS s.heap h₇ L D bn nm3 tok true m₁₂ h) (E := No) ?_ ?_ (fun _ _ x => x.elim)
              · refine isTrue_and ?_
                refine wpAny_isTrue_Compare1 ?_
                refine ld W12.fr htk2 ?_
                refine Constant_str ?_
                refine P.eq_str ?_
                refine wpAny_truthy_bool ?_
                rw [S_list, show (Str.ofString ".").cps.toList = [46] from by decide +kernel]
                by_cases h46 : tok = [46]
                · rw [if_pos (by rw [h46]; rfl)]
                  refine isTrue_and ?_
                  refine wpAny_isTrue_Compare1 ?_
                  refine ld W12.fr hah2 ?_
                  refine Tuple_strs (ys := [[], [13], [10]].map S) ?_ ?_ ?_
                  · kernel_rfl
                  · decide
                  intro tv tk₂ htv
                  refine in_tuple_strs (ys := [[], [13], [10]].map S) ⟨_, Heap.get?_push_size _ rfl, rfl, _, rfl⟩ htv ?_
                  refine wpAny_truthy_bool ?_
                  rw [any_S]
                  have Wp := W12.grow (h' := h₁₂.push { cls := .type "tuple", data := .seq tv.toArray }) fun b o e => Heap.get?_push_of_some _ e
                  cases ha : [[], [13], [10]].any (· == ah) with
                  | true =>
                    rw [if_pos rfl]
                    refine isTrue_and_nil ?_
                    exact ⟨⟨fun _ => ⟨h46, rfl⟩, fun _ => rfl⟩, _, _, rfl, Wp⟩
                  | false =>
                    rw [if_neg (by decide)]
                    exact ⟨⟨fun x => (by cases x), fun x => (by cases x.2)⟩, _, _, rfl, Wp⟩
                · rw [if_neg (by simpa using h46)]
                  exact ⟨⟨fun x => (by cases x), fun x => absurd x.1 h46⟩, _, _, rfl, W12⟩
              intro b st' hb
              obtain ⟨hb, h₁₃, k₁₃, rfl, W13⟩ := hb
              by_cases c2 : tok = [46] ∧ [[], [13], [10]].any (· == ah) = true
              · rw [if_pos (hb.mpr c2)]
                rw [if_pos c2] at fin3
                refine wpC_execs_cons ?_
                refine wpC_of ?_
                refine wl_add W13 (cl := [46, 46]) (by decide +kernel) (by simp; omega) (by rfl) (by rfl) ?_
                intro m₁₄ h₁₄ k₁₄ W14 hm14 kp14
                dsimp only
                refine wpC_execs_nil ?_
                refine wpC_execs_nil ?_
                refine wpC_execs_nil ?_
                dsimp only
                exact fin3 _ _ _ W14
              · rw [if_neg (fun x => c2 (hb.mp x))]
                rw [if_neg c2] at fin3
                clear hb
                refine wpC_execs_cons ?_
                refine wpC_If ?_
                refine wpAny_isTrue_Compare1 ?_
                refine ld W13.fr htk2 ?_
                refine Constant_str ?_
                refine P.eq_str ?_
                refine wpAny_truthy_bool ?_
                rw [S_list, show (Str.ofString " ").cps.toList = [32] from by decide +kernel]
                by_cases c3 : tok = [32]
                · rw [if_pos (by rw [c3]; rfl)]
                  rw [if_pos c3] at fin3
                  refine wpC_execs_cons ?_
                  refine wpC_of ?_
                  refine wl_add W13 (cl := [95]) (by decide +kernel) (by simp; omega) (by rfl) (by rfl) ?_
                  intro m₁₄ h₁₄ k₁₄ W14 hm14 kp14
                  dsimp only
                  refine wpC_execs_nil ?_
                  refine wpC_execs_nil ?_
                  refine wpC_execs_nil ?_
                  refine wpC_execs_nil ?_
                  dsimp only
                  exact fin3 _ _ _ W14
                · rw [if_neg (by simpa using c3)]
                  rw [if_neg c3] at fin3
                  refine wpC_execs_cons ?_
                  refine wpC_If ?_
                  refine wpAny_isTrue_Compare1 ?_
                  refine ld W13.fr htk2 ?_
                  refine Tuple_strs (ys := dashT.map S) ?_ ?_ ?_
                  · kernel_rfl
                  · decide
                  intro tv tk₂ htv
                  refine in_tuple_strs (ys := dashT.map S) ⟨_, Heap.get?_push_size _ rfl, rfl, _, rfl⟩ htv ?_
                  refine wpAny_truthy_bool ?_
                  rw [any_S]
                  have W14 := W13.grow (h' := h₁₃.push { cls := .type "tuple", data := .seq tv.toArray }) fun b o e => Heap.get?_push_of_some _ e
                  dsimp only at W14 ⊢
                  generalize h₁₃.push { cls := .type "tuple", data := .seq tv.toArray } = h₁₄ at *
                  by_cases c4 : dashT.any (· == tok) = true
                  · rw [if_pos c4]
                    rw [if_pos c4] at fin3
                    refine wpC_execs_cons ?_
                    refine wpC_of ?_
                    refine wl_dash W14 (by omega) (by rfl) (by rfl) ?_
                    intro m₁₅ h₁₅ k₁₅ W15 hm15 kp15
                    dsimp only
                    refine wpC_execs_nil ?_
                    refine wpC_execs_nil ?_
                    refine wpC_execs_nil ?_
                    refine wpC_execs_nil ?_
                    refine wpC_execs_nil ?_
                    dsimp only
                    exact fin3 _ _ _ W15
                  · rw [if_neg c4]
                    rw [if_neg c4] at fin3
                    refine wpC_execs_cons ?_
                    refine wpC_If ?_
                    refine wpAny_isTrue_Compare1 ?_
                    refine ld W14.fr htk2 ?_
                    refine Constant_str ?_
                    refine P.ne_str ?_
                    refine wpAny_truthy_bool ?_
                    rw [S_list, show (Str.ofString "\n").cps.toList = [10] from by decide +kernel]
                    by_cases c5 : tok = [10]
                    · rw [if_neg (by rw [c5]; decide)]
                      rw [if_pos c5] at fin3
                      refine wpC_execs_nil ?_
                      refine wpC_execs_nil ?_
                      refine wpC_execs_nil ?_
                      refine wpC_execs_nil ?_
                      refine wpC_execs_nil ?_
                      refine wpC_execs_nil ?_
                      dsimp only
                      exact fin3 _ _ _ W14
                    · rw [if_pos (by simpa using c5)]
                      rw [if_neg c5] at fin3
                      refine wpC_execs_cons ?_
                      refine wpC_of ?_
                      obtain ⟨t0, hm0⟩ := W14.mn
                      refine wpAny_Assign_Name ?_
                      refine wpAny_BinOp ?_
                      refine ld W14.fr hm0 ?_
                      refine ld W14.fr htk2 ?_
                      refine add_S (by omega) ?_
                      intro t' k'
                      refine stB W14.fr ?_
                      intro h₁₅ F₁₅ sb₁₅
                      dsimp only
                      refine wpC_execs_nil ?_
                      refine wpC_execs_nil ?_
                      refine wpC_execs_nil ?_
                      refine wpC_execs_nil ?_
                      refine wpC_execs_nil ?_
                      refine wpC_execs_nil ?_
                      dsimp only
                      exact fin3 _ _ _ (W14.name F₁₅ sb₁₅)
        · intro st h₇ tk₇ hJ2 hk2
          obtain ⟨hc2, k2, m2, rfl, WJ2⟩ := hJ2
          have Wn := WJ2.next hk2 h5I hsI2 hLI2
          rw [hsz2, List.take_length] at Wn
          dsimp only
          refine wpC_execs_nil ?_
          dsimp only
          refine fin _ _ _ _ _ _ (Wn.base fun b o hb e => kp5' _ _ (W5'.kp b o hb e)) ?_
          exact hwt _ _ _ rfl rfl
  · intro st h' tk' hJ hk'
    obtain ⟨hc, k, m, rfl, WJ, hlen⟩ := hJ
    have W' := WJ.next hk' hsI hsI hLI
    rw [hsz, List.take_length] at W' hlen
    dsimp only
    refine wpC_execs_cons ?_
    refine wpC_of ?_
    refine wpAny_Return_some ?_
    refine wpAny_IfExp ?_
    refine wpAny_isTrue_Compare1 ?_
    have hl6 : (tss.foldl (walkText bn) ([], [], false)).1.length ≤ 30000 := by omega
    refine wl_last W' (by omega) (by rfl) (by rfl) ?_
    intro h₆ k₆ t₆ W₆ kp6
    refine Constant_str ?_
    refine P.eq_str ?_
    refine wpAny_truthy_bool ?_
    rw [S_list, show (Str.ofString "-").cps.toList = [45] from by decide +kernel]
    have hend : ∀ h' k t, (∀ b o, s.heap.get? b = some o → h'.get? b = some o) → Q (.str (S (walkL bn tss)) t) { s with heap := h', toks := k } := h
    unfold walkL at hend
    generalize (tss.foldl (walkText bn) ([], [], false)).1 = nm at *
    dsimp only at hend
    by_cases hc : lastL nm = [45]
    · rw [if_pos (by rw [hc]; rfl)]
      rw [if_pos hc] at hend
      obtain ⟨t0, hm0⟩ := W₆.mn
      refine wpAny_Subscript_str_slice ?_
      refine ld W₆.fr hm0 ?_
      refine evalPart_none_step ?_
      refine evalPart_some_step ?_
      refine wpAny_UnaryOp ?_
      refine wpAny_Constant_int ?_
      refine P.neg_int ?_
      refine ⟨S nm, t0, none, some (-1, _), rfl, rfl, rfl, ?_⟩
      refine post_val_or_str ⟨?_, fun t' k => ?_⟩
      · exact Nat.le_trans (Txt.slice_le (S nm) none (some (-1))) (by rw [S_len]; exact Nat.le_trans hl6 (by decide))
      · show Q (.str (Txt.slice (S nm) none (some (-1))) t') _
        rw [slice_init]
        exact hend _ _ _ fun b o e => Heap.get?_push_of_some _ (W₆.fr.keep b o e)
    · rw [if_neg (by simpa using hc)]
      rw [if_neg hc] at hend
      obtain ⟨t0, hm0⟩ := W₆.mn
      refine ld W₆.fr hm0 ?_
      exact hend _ _ _ W₆.fr.keep
end Mine
end

section
set_option autoImplicit false
set_option maxRecDepth 100000
set_option maxHeartbeats 2000000
namespace Mine
open PySem PySem.W PySem.Calls PyProof.Rows

section
variable {h h' : Heap} {L : Addr} {m : Str → Option Value}
/-- a list is neither the frame nor the code table -/
theorem list_apart {r : Addr} {vs : Array Value} {k : Nat} (hn : h.Ns L m) (tb : TabP h) (hr : h.get? r = some (lobj vs k)) : r ≠ L ∧ r ≠ 63 := by
  refine ⟨fun q => ?_, fun q => ?_⟩
  · obtain ⟨o, _, _, e, hd, _⟩ := hn
    rw [← q, hr] at e; cases e; cases hd
  · obtain ⟨ps, _, _, e⟩ := tb
    rw [← q, hr] at e; cases e
theorem StrL.ex {r : Addr} {ts : List Tk} (x : StrL h r ts) (hn : h.Ns L m) (tb : TabP h) (k : ∀ b o, b ≠ L → b ≠ 63 → h.get? b = some o → h'.get? b = some o) : StrL h' r ts := by
  obtain ⟨vs, kk, a, b⟩ := x
  have := list_apart hn tb a
  exact ⟨vs, kk, k _ _ this.1 this.2 a, b⟩
theorem LAre.ex {rs : List Addr} {tss : List (List Tk)} (x : LAre h rs tss) (hn : h.Ns L m) (tb : TabP h) (k : ∀ b o, b ≠ L → b ≠ 63 → h.get? b = some o → h'.get? b = some o) : LAre h' rs tss := by
  induction x with
  | nil => exact .nil
  | cons hr _ ih => exact .cons (hr.ex hn tb k) ih
theorem LL.ex {D : Addr} {tss : List (List Tk)} (x : LL h D tss) (hn : h.Ns L m) (tb : TabP h) (k : ∀ b o, b ≠ L → b ≠ 63 → h.get? b = some o → h'.get? b = some o) : LL h' D tss := by
  obtain ⟨rs, kk, a, b⟩ := x
  have := list_apart hn tb a
  exact ⟨rs, kk, k _ _ this.1 this.2 a, b.ex hn tb k⟩
end
/-- where the walk of law stands -/
structure LW (s0 : Shared) (g : Heap) (L : Addr) (m : Str → Option Value) (s : Shared) : Prop where
  fr : Fr g L s.heap m
  tab : TabP s.heap
  bare : AllBare s.gens
  os : s.os = s0.os
section
variable {s0 s s' : Shared} {g h' : Heap} {L : Addr} {m m' : Str → Option Value}
theorem LW.grow (x : LW s0 g L m s) (k : ∀ b o, s.heap.get? b = some o → h'.get? b = some o) (t : Nat) : LW s0 g L m { s with heap := h', toks := t } where
  fr := ⟨x.fr.ns.keeps k, fun b o e => k _ _ (x.fr.keep b o e), x.fr.above⟩
  tab := x.tab.at (fun o e => k _ _ e) fun o e => k _ _ e
  bare := x.bare
  os := x.os
theorem LW.st (x : LW s0 g L m s) (h67 : 67 ≠ L) (h63 : 63 ≠ L) (F : Fr g L h' m') (sb : Heap.SameBut L s.heap h') (t : Nat) : LW s0 g L m' { s with heap := h', toks := t } where
  fr := F
  tab := x.tab.at (fun o e => (sb.2 _ h67).trans e) fun o e => (sb.2 _ h63).trans e
  bare := x.bare
  os := x.os
theorem LW.tk (x : LW s0 g L m s) (t : Nat) : LW s0 g L m { s with toks := t } := ⟨x.fr, x.tab, x.bare, x.os⟩
end

theorem strsAre_fun {vs : List Value} {xs ys : List Str} (h : StrsAre vs xs) : StrsAre vs ys → xs = ys := by
  induction h generalizing ys with
  | nil => intro h'; cases h'; rfl
  | cons y t _ ih =>
    intro h'
    cases h' with
    | cons y' t' r => rw [ih r]
theorem map_S_inj {a b : List Tk} (h : a.map S = b.map S) : a = b := by
  induction a generalizing b with
  | nil => cases b with | nil => rfl | cons _ _ => cases h
  | cons x r ih =>
    cases b with
    | nil => cases h
    | cons y q =>
      injection h with h1 h2
      rw [S_inj h1, ih h2]
theorem StrL.inj {h : Heap} {r : Addr} {a b : List Tk} (x : StrL h r a) (y : StrL h r b) : a = b := by
  obtain ⟨vs, k, e, p⟩ := x
  obtain ⟨vs', k', e', p'⟩ := y
  rw [e] at e'
  injection e' with e'
  injection e' with _ _ e'
  injection e' with e1 _
  subst e1
  exact map_S_inj (strsAre_fun p p')
theorem joinL_nil : ∀ ts : List Tk, joinL [] ts = ts.flatten
  | [] => rfl
  | [x] => by simp [joinL]
  | x :: y :: r => by
    have := joinL_nil (y :: r)
    simp only [joinL, List.append_nil, this, List.flatten_cons]
section
variable {w : World} {A : Around} {E : Value → Shared → Prop} {s : Shared}
theorem join_strs {r : Addr} {ts : List Tk} {t : Tok} {Q : Value → Shared → Prop} (hr : StrL s.heap r ts) (hn : ts.length ≤ 100) (hl : ∀ x ∈ ts, x.length ≤ 10) (h : ∀ t' k, Q (.str (S ts.flatten) t') { s with toks := k }) :
    wpAny (model Pr w) A (call (.builtin "str.join") [.str (Str.ofString "") t, .ref r]) Q E s := by
  obtain ⟨vs, k, e, p⟩ := hr
  obtain ⟨l, h1, h2⟩ := strsAre_values p
  refine SC.join (l := l) (texts := ts.map S) ⟨_, e, rfl, _, by rw [← h1]⟩ h2 ?_ ?_
  · refine joinOk_of ?_
    have e1 : (Str.ofString "").length = 0 := by decide +kernel
    rw [e1]
    have key : ∀ l : List Tk, (∀ x ∈ l, x.length ≤ 10) → ((l.map S).map (·.length)).sum ≤ 10 * l.length := by
      intro l
      induction l with
      | nil => intro _; simp
      | cons x r ih =>
        intro hx
        have h1 := hx x (by simp)
        have h2 := ih fun y hy => hx y (by simp [hy])
        simp only [List.map_cons, List.sum_cons, List.length_cons, S_len] at h2 ⊢
        omega
    have := key ts hl
    simp only [List.length_map]
    omega
  · intro t' k
    rw [show Str.ofString "" = S [] from by decide +kernel, join_eq, joinL_nil]
    exact h t' k
theorem occ_count (c : Nat) : ∀ (l : List Nat) (i : Nat), (occGo [c] 0 i l).length = l.count c
  | [], _ => rfl
  | x :: r, i => by
    simp only [occGo, List.isPrefixOf, Bool.and_true, List.length_singleton, Nat.sub_self]
    by_cases hx : c = x
    · subst hx
      simp [occ_count c r]
    · have hx' : ¬ x = c := fun q => hx q.symm
      simp [hx, hx', occ_count c r, List.count_cons]
theorem count_eq (l : List Nat) (c : Nat) : Txt.count (S l) (S [c]) = ((l.count c : Nat) : Int) := by
  unfold Txt.count
  rw [occ_list l [c] (by simp), occ_count]
end
theorem strs_of_pair {F : Value → Value → Prop} {vs ys : List Value} (h : Paired F vs ys) : ∀ (zs : List (List Nat)), vs.length = zs.length → (∀ (j : Nat) (v y : Value), vs[j]? = some v → F v y → ∃ z t, zs[j]? = some z ∧ y = .str (S z) t) → StrsAre ys (zs.map S) := by
  induction h with
  | nil =>
    intro zs hl _
    cases zs with
    | nil => exact .nil
    | cons _ _ => cases hl
  | cons hF _ ih =>
    intro zs hl hk
    cases zs with
    | nil => cases hl
    | cons z zs =>
      obtain ⟨z', t, e, rfl⟩ := hk 0 _ _ rfl hF
      injection e with e
      subst e
      exact .cons _ _ (ih zs (by simpa using hl) fun j v y hv hf => by simpa using hk (j + 1) v y (by simpa using hv) hf)
theorem filter_all (vs : List Value) : vs.filter (fun _ => true) = vs := by simp
theorem tok_len (x : Int) : (tokOf x).length ≤ 7 := by
  unfold tokOf
  rw [List.getD_eq_getElem?_getD]
  cases e : toks16[(x.fmod 16).toNat]? with
  | none => simp
  | some y =>
    have : ∀ y ∈ toks16, y.length ≤ 7 := by decide
    exact this y (List.mem_of_getElem? e)
theorem textsGo_bnd : ∀ (xs : List Int) (init : List (List Tk)) (last : List Tk) (n : Nat), (∀ ts ∈ init ++ [last], ts.length + xs.length ≤ n ∧ ∀ t ∈ ts, t.length ≤ 7) →
    (textsGo init last xs).length ≤ init.length + 1 + xs.length ∧ ∀ ts ∈ textsGo init last xs, ts.length ≤ n ∧ ∀ t ∈ ts, t.length ≤ 7
  | [], init, last, n, h => by
    simp only [textsGo]
    exact ⟨by simp, fun ts ht => ⟨by have := (h ts ht).1; simp at this; omega, (h ts ht).2⟩⟩
  | x :: r, init, last, n, h => by
    have h' : ∀ ts ∈ init ++ [last], ts.length + 1 + r.length ≤ n ∧ ∀ t ∈ ts, t.length ≤ 7 := fun ts ht => ⟨by have := (h ts ht).1; simp at this; omega, (h ts ht).2⟩
    have hl := h' last (by simp)
    have tl := tok_len x
    have more : ∀ y : Tk, y.length ≤ 7 → ∀ ts ∈ init ++ [last ++ [y]], ts.length + r.length ≤ n ∧ ∀ t ∈ ts, t.length ≤ 7 := by
      intro y hy ts ht
      rcases List.mem_append.mp ht with ht | ht
      · have := h' ts (by simp [ht])
        exact ⟨by omega, this.2⟩
      · rw [List.mem_singleton.mp ht]
        refine ⟨by simp; omega, fun t ht => ?_⟩
        rcases List.mem_append.mp ht with ht | ht
        · exact hl.2 t ht
        · rw [List.mem_singleton.mp ht]; exact hy
    simp only [textsGo]
    split
    · have := textsGo_bnd r (init ++ [last]) [] n (by
        intro ts ht
        rcases List.mem_append.mp ht with ht | ht
        · have := h' ts ht
          exact ⟨by omega, this.2⟩
        · rw [List.mem_singleton.mp ht]
          exact ⟨by simp; omega, by simp⟩)
      refine ⟨by have := this.1; simp at this ⊢; omega, this.2⟩
    · split
      · have := textsGo_bnd r init (last ++ [[specOf x]]) n (more _ (by simp))
        refine ⟨by have := this.1; simp at this ⊢; omega, this.2⟩
      · have := textsGo_bnd r init (last ++ [tokOf x]) n (more _ tl)
        refine ⟨by have := this.1; simp at this ⊢; omega, this.2⟩
theorem textsL_bnd (xs : List Int) : (textsL xs).length ≤ 1 + xs.length ∧ ∀ ts ∈ textsL xs, ts.length ≤ xs.length ∧ ∀ t ∈ ts, t.length ≤ 7 := by
  have := textsGo_bnd xs [] [] xs.length (by simp)
  exact ⟨by have := this.1; simp at this; unfold textsL; omega, this.2⟩
theorem flat_len : ∀ (ts : List Tk), (∀ t ∈ ts, t.length ≤ 7) → ts.flatten.length ≤ 7 * ts.length
  | [], _ => by simp
  | t :: r, h => by
    have h1 := h t (by simp)
    have h2 := flat_len r fun x hx => h x (by simp [hx])
    simp only [List.flatten_cons, List.length_append, List.length_cons] at h2 ⊢
    omega
theorem sqGo_len : ∀ (l : List Nat) (b : Bool), (sqGo b l).length ≤ l.length
  | [], b => by simp [sqGo]
  | c :: r, b => by
    simp only [sqGo]
    have h1 := sqGo_len r true
    have h2 := sqGo_len r false
    split
    · split
      · simp; omega
      · simp; omega
    · simp; omega
theorem dropT_len (l : List Nat) : (dropT l).length ≤ l.length := by
  unfold dropT
  have := (List.dropWhile_sublist (fun x => x == 45) (l := l.reverse)).length_le
  simpa using this
theorem platL_len (xs : List (List Nat)) (n : Nat) (h : ∀ x ∈ xs, x.length ≤ n) : (platL xs).length ≤ (n + 1) * xs.length := by
  unfold platL
  have h1 := joinL_len [45] n ((xs.filter nonE).map stripL) (fun x hx => by
    obtain ⟨y, hy, rfl⟩ := List.mem_map.mp hx
    exact Nat.le_trans (strip_len y) (h y (List.mem_filter.mp hy).1))
  have h2 : ((xs.filter nonE).map stripL).length ≤ xs.length := by
    rw [List.length_map]; exact List.length_filter_le _ _
  have h3 := Nat.mul_le_mul_left (n + 1) h2
  refine Nat.le_trans (dropT_len _) (Nat.le_trans (sqGo_len _ _) (Nat.le_trans (rmU_len _) ?_))
  rw [mapsL_len]
  exact Nat.le_trans h1 h3
theorem quoteL_len (l : List Nat) : (quoteL l).length ≤ 4 * l.length := by
  unfold quoteL
  have h1 := dots_len (crlf false l) true
  have h2 := crlf_len l false
  omega
section
variable {w : World} {A : Around} {E : Value → Shared → Prop} {s : Shared}
theorem star_strs {P : Addr} {xs : List (List Nat)} {Q : List Value → Shared → Prop} (hP : StrL s.heap P xs) (hn : xs.length ≤ 1000) (h : ∀ h' vs, StrsAre vs (xs.map S) → (∀ b o, s.heap.get? b = some o → h'.get? b = some o) → Q vs { s with heap := h' }) :
    StarOf (model Pr w) A E (.ref P) Q s := by
  obtain ⟨vs, k, e, hv⟩ := hP
  have hl : vs.size = xs.length := by rw [← Array.length_toList, strsAre_len hv]; simp
  have z : wpAny (model Pr w) A (collect (.ref P)) Q E s :=
    wpAny_collect_seq P (.inl rfl) e rfl rfl (fun h' hk => h h' _ hv hk) (by rw [hl]; exact Nat.le_trans hn (by decide))
  unfold StarOf notIterableAtAll
  exact wpAny_bind (wpAny_specialOf ⟨_, e, rfl⟩ PySem.F.slot_list_iter.lookup (wpAny_pure ⟨rfl, z⟩))
end
theorem LW.after {s0 s s' : Shared} {g : Heap} {L : Addr} {m : Str → Option Value} (x : LW s0 g L m s) (h63 : 63 ≠ L) (g63 : g.get? 63 = none) (k : ∀ b o, b ≠ 63 → s.heap.get? b = some o → s'.heap.get? b = some o) (tb : TabP s'.heap) (hb : AllBare s'.gens) (ho : s'.os = s.os) : LW s0 g L m s' where
  fr := ⟨x.fr.ns.at fun o e => k _ _ (Ne.symm h63) e, fun b o e => k _ _ (neOf e g63) (x.fr.keep b o e), x.fr.above⟩
  tab := tb
  bare := hb
  os := ho.trans x.os
theorem VAre.get {vs : List Value} {xs : List VI} (h : VAre vs xs) : ∀ (i : Nat) (v : Value), vs[i]? = some v → ∃ x, xs[i]? = some x ∧ x.is v := by
  induction h with
  | nil => intro i v e; cases e
  | cons a _ ih =>
    intro i v e
    cases i with
    | zero => injection e with e; subst e; exact ⟨_, rfl, a⟩
    | succ i => simpa using ih i v (by simpa using e)
section
variable {w : World} {A : Around} {E : Value → Shared → Prop} {s : Shared}
theorem eq_vers {D1 D2 : Addr} {v1 v2 : Array Value} {k1 k2 : Nat} {x1 x2 : List VI} {Q : Value → Shared → Prop} (h1 : s.heap.get? D1 = some (lobj v1 k1)) (h2 : s.heap.get? D2 = some (lobj v2 k2)) (a1 : VAre v1.toList x1) (a2 : VAre v2.toList x2)
    (hu : A.units < cLine) (h : Q (.bool (decide (x1 = x2))) s) : wpAny (model Pr w) A (compareOp .Eq (.ref D1) (.ref D2)) Q E s := by
  have l1 : v1.size = x1.length := by rw [← Array.length_toList, a1.length]
  have l2 : v2.size = x2.length := by rw [← Array.length_toList, a2.length]
  by_cases hl : v1.size = v2.size
  · refine SeqAt.eq_listAt (e := fun j => decide (x1[j]? = x2[j]?)) ⟨_, h1, rfl, _, rfl⟩ ⟨_, h2, rfl, _, rfl⟩ hl hu ?_ ?_
    · intro j hj1 hj2
      obtain ⟨y1, e1, i1⟩ := a1.get j v1[j] (by simp)
      obtain ⟨y2, e2, i2⟩ := a2.get j v2[j] (by simp)
      rw [e1, e2]
      have es : decide (some y1 = some y2) = decide (y1 = y2) := by simp
      rw [es]
      cases y1 with
      | inl n1 =>
        obtain ⟨t1, i1⟩ := i1
        cases y2 with
        | inl n2 =>
          obtain ⟨t2, i2⟩ := i2
          rw [i1, i2]
          have : decide ((Sum.inl n1 : VI) = Sum.inl n2) = (n1 == n2) := by rw [Bool.eq_iff_iff]; simp
          rw [this]
          exact SeqAt.EqAt.int_int _ _ _ _
        | inr n2 =>
          obtain ⟨t2, i2⟩ := i2
          rw [i1, i2]
          have : decide ((Sum.inl n1 : VI) = Sum.inr n2) = false := by simp
          rw [this]
          exact SeqAt.EqAt.int_str _ _ _ _
      | inr n1 =>
        obtain ⟨t1, i1⟩ := i1
        cases y2 with
        | inl n2 =>
          obtain ⟨t2, i2⟩ := i2
          rw [i1, i2]
          have : decide ((Sum.inr n1 : VI) = Sum.inl n2) = false := by simp
          rw [this]
          exact SeqAt.EqAt.str_int _ _ _ _
        | inr n2 =>
          obtain ⟨t2, i2⟩ := i2
          rw [i1, i2]
          have : decide ((Sum.inr n1 : VI) = Sum.inr n2) = (S n1 == S n2) := by rw [S_beq, Bool.eq_iff_iff]; simp
          rw [this]
          exact SeqAt.EqAt.str_str _ _ _ _
    · have : (List.range v1.size).all (fun j => decide (x1[j]? = x2[j]?)) = decide (x1 = x2) := by
        rw [Bool.eq_iff_iff]
        simp only [List.all_eq_true, List.mem_range, decide_eq_true_eq]
        constructor
        · intro hk
          refine List.ext_getElem? fun i => ?_
          by_cases hi : i < v1.size
          · exact hk i hi
          · rw [List.getElem?_eq_none (by omega), List.getElem?_eq_none (by omega)]
        · intro e i _; rw [e]
      rw [this]; exact h
  · refine SeqAt.eq_list_lengthsAt ⟨_, h1, rfl, _, rfl⟩ ⟨_, h2, rfl, _, rfl⟩ (by simpa using hl) hu ?_
    have : decide (x1 = x2) = false := by
      refine decide_eq_false fun e => hl ?_
      rw [l1, l2, e]
    rw [this] at h; exact h
end
end Mine
end

section
set_option autoImplicit false
set_option maxRecDepth 100000
set_option maxHeartbeats 4000000
namespace Mine
open PySem PySem.W PySem.Calls PyProof.Rows

noncomputable def drawnL (xs : List Int) : List Int := if xs.take 14 = [] then [9, 3, 5, 2, 5, 0, 10] else xs.take 14
theorem drawnL_len (xs : List Int) : (drawnL xs).length ≤ 14 := by
  unfold drawnL
  split
  · simp
  · rw [List.length_take]; omega
theorem intsAre_take {vs : List Value} {ns : List Int} (h : IntsAre vs ns) : ∀ n, IntsAre (vs.take n) (ns.take n) := by
  induction h with
  | nil => intro n; simp; exact .nil
  | cons n t _ ih =>
    intro k
    cases k with
    | zero => exact .nil
    | succ k => exact .cons n t (ih k)

theorem law_call {w : World} {s : Shared} {p p' : Program} {loose loose' : List Str} {mg mb mg1 mb1 mg' : Str → Option Value} {bm : Addr} {ob : Obj} {g : Heap} {X : Addr} {vals : List Value} {xs : List Int} {E Q : Value → Shared → Prop}
    (G1 : Gd w p' loose' mg1 mb1 s.heap) (G : Gd w p loose mg mb g) (B : BMod g mainGlobals mg' bm ob) (g63 : g.get? 63 = none) (hg : ∀ b o, g.get? b = some o → s.heap.get? b = some o) (hgs : g.objs.size = s.heap.objs.size) (hP : TabP s.heap)
    (hX : s.heap.IsList X vals.toArray) (hv : IntsAre vals xs) (hn : xs.length ≤ 63) (hgen : s.gens = #[])
    (hlaw : ∀ (P : Params) (ys : List Int), ys.length ≤ 14 → quoteL (platL ((textsL ys).map List.flatten)) = walkL true (textsL ys) ∧ platL (((textsL ys).map List.flatten).map quoteL) = walkL false (textsL ys) ∧
      (verL P (walkL true (textsL ys)) = verL P (walkL false (textsL ys)) ↔ (walkL true (textsL ys)).count 13 = (walkL false (textsL ys)).count 13) ∧
      ∀ bn, (walkL bn (textsL ys)).length ≤ 500 ∧ ∀ c ∈ walkL bn (textsL ys), okCh c)
    (h : ∀ s', (∀ b o, g.get? b = some o → s'.heap.get? b = some o) → TabP s'.heap → AllBare s'.gens → s'.os = s.os → Q (.bool true) s') :
    wpC (model Pr w) callerA (call (.ref 92) [.ref X]) Q E s := by
  refine call_fnC G1 (f := 92) (binds := [(Str.ofString "script", .ref X)]) (by rfl) (by rfl) (by decide) (by rfl) (by rfl) (by rfl) (by rfl) (by rfl) (by decide) ?_
  intro L h₁ hL F₁
  have hPl := hP.lt
  have h67 : 67 ≠ L := by rw [hL]; exact Nat.ne_of_lt hPl.1
  have h63 : 63 ≠ L := by rw [hL]; exact Nat.ne_of_lt hPl.2
  have Fg : Fr g L h₁ (fun x => List.lookup x [(Str.ofString "script", Value.ref X)].reverse) := ⟨F₁.ns, fun b o e => F₁.keep _ _ (hg _ _ e), by rw [hgs]; exact F₁.above⟩
  have W0 : LW s g L _ { s with heap := h₁, toks := s.toks + 1 } := ⟨Fg, hP.at (fun o e => F₁.keep _ _ e) (fun o e => F₁.keep _ _ e), by rw [hgen]; exact AllBare.of_eq rfl, rfl⟩
  have hX1 : h₁.IsList X vals.toArray := hX.at fun o e => F₁.keep _ _ e
  have hvl := intsAre_len hv
  clear F₁
  refine wpC_execs_cons ?_
  refine wpC_mono (Q := fun f s' => f = .next ∧ ∃ m D, LW s g L m s' ∧ m (Str.ofString "texts") = some (.ref D) ∧ LL s'.heap D (textsL (drawnL xs))) (E := fun _ _ => False) ?_ ?_ (fun _ _ x => x.elim)
  · refine wpC_Assign_Name ?_
    refine wpC_Call ?_
    refine name_K W0.fr G.K G.T (v := .ref 75) (by rfl) ?_
    refine callWithC (K := KF w) (by rfl) ?_
    refine args_cons ?_
    refine wpAny_mono (Q := fun v s' => ∃ h' k X' vt, v = .ref X' ∧ s' = { s with heap := h', toks := k } ∧ (∀ b o, h₁.get? b = some o → h'.get? b = some o) ∧ h'.IsList X' vt.toArray ∧ IntsAre vt (drawnL xs)) (E := fun _ _ => False) ?_ ?_ (fun _ _ x => x.elim)
    · refine BoolOp_or ?_
      refine wpAny_Subscript_list_slice ?_
      refine ld W0.fr (by rfl) ?_
      refine evalPart_none_step ?_
      refine evalPart_some_step ?_
      refine wpAny_Constant_int ?_
      refine ⟨X, vals.toArray, none, some 14, rfl, hX1, ?_, .none, .int _ _, ?_⟩
      · rw [List.size_toArray, hvl]; exact Nat.le_trans hn (by decide)
      rw [show (some (14 : Int)) = some (((14 : Nat)) : Int) from rfl, slicePick_upto']
      rw [List.toList_toArray]
      have hIt := intsAre_take hv 14
      generalize vals.take 14 = vt at *
      have kp1 : ∀ b o, h₁.get? b = some o → ((h₁.push { cls := .type "slice", data := .fields #[.none, .int 14 (s.toks + 1), .none] }).push { cls := .type "list", data := .seq vt.toArray }).get? b = some o := fun b o e => Heap.get?_push_of_some _ (Heap.get?_push_of_some _ e)
      have hli : ((h₁.push { cls := .type "slice", data := .fields #[.none, .int 14 (s.toks + 1), .none] }).push { cls := .type "list", data := .seq vt.toArray }).IsList (h₁.objs.size + 1) vt.toArray := by
        have e : (h₁.push { cls := .type "slice", data := .fields #[.none, .int 14 (s.toks + 1), .none] }).objs.size = h₁.objs.size + 1 := Heap.size_push ..
        have gg : ((h₁.push { cls := .type "slice", data := .fields #[.none, .int 14 (s.toks + 1), .none] }).push { cls := .type "list", data := .seq vt.toArray }).get? (h₁.push { cls := .type "slice", data := .fields #[.none, .int 14 (s.toks + 1), .none] }).objs.size = some _ := Heap.get?_push_size _ rfl
        rw [e] at gg
        exact ⟨_, gg, rfl, _, rfl⟩
      have hvt := intsAre_len hIt
      have hvt2 : vt.length ≤ 14 := by rw [hvt, List.length_take]; omega
      dsimp only
      generalize (h₁.push { cls := .type "slice", data := .fields #[.none, .int 14 (s.toks + 1), .none] }).push { cls := .type "list", data := .seq vt.toArray } = h₂ at *
      refine wpAny_truthy_list hli ?_ ?_
      · rw [List.size_toArray]; omega
      by_cases he : xs.take 14 = []
      · have hv0 : vt = [] := by rw [he] at hvt; exact List.eq_nil_of_length_eq_zero hvt
        rw [if_neg (by rw [hv0]; decide)]
        refine BoolOp_one ?_
        refine List_ ?_
        refine args_cons ?_
        refine wpAny_Constant_int ?_
        refine args_cons ?_
        refine wpAny_Constant_int ?_
        refine args_cons ?_
        refine wpAny_Constant_int ?_
        refine args_cons ?_
        refine wpAny_Constant_int ?_
        refine args_cons ?_
        refine wpAny_Constant_int ?_
        refine args_cons ?_
        refine wpAny_Constant_int ?_
        refine args_cons ?_
        refine wpAny_Constant_int ?_
        refine args_nil ?_
        refine wpAny_newList ?_
        refine ⟨_, _, _, _, rfl, rfl, fun b o e => Heap.get?_push_of_some _ (kp1 _ _ e), ⟨_, Heap.get?_push_size _ rfl, rfl, _, rfl⟩, ?_⟩
        unfold drawnL
        rw [if_pos he]
        exact .cons _ _ (.cons _ _ (.cons _ _ (.cons _ _ (.cons _ _ (.cons _ _ (.cons _ _ .nil))))))
      · have hv0 : vt ≠ [] := fun q => he (List.eq_nil_of_length_eq_zero (by rw [← hvt, q]; rfl))
        rw [if_pos (by simpa using hv0)]
        refine ⟨_, _, _, vt, rfl, rfl, kp1, hli, ?_⟩
        unfold drawnL
        rw [if_neg he]
        exact hIt
    · intro v s' hq
      obtain ⟨h₂, k₂, X', vt, rfl, rfl, kp, hli, hI⟩ := hq
      refine args_nil ?_
      have W1 := W0.grow kp k₂
      have GK := G.keeps W1.fr.keep
      refine ⟨GK.K, ?_⟩
      refine texts_call GK hli hI (Nat.le_trans (drawnL_len xs) (by decide)) (by rfl) (by show callerA.depth + 1 < recursionLimit; decide) ?_
      intro h₃ k₃ D kp3 hLL
      have W2 := W1.grow kp3 k₃
      refine stB W2.fr ?_
      intro h₄ F₄ sb₄
      have W3 := W2.st h67 h63 F₄ sb₄ (k₃ + 1)
      refine ⟨rfl, _, D, W3, by rfl, ?_⟩
      exact hLL.ex W2.fr.ns W2.tab fun b o hb _ e => (sb₄.2 b hb).trans e
  · intro f s1 hq
    obtain ⟨rfl, m1, D, W1, hm1, hLL⟩ := hq
    dsimp only
    clear hX1 hX Fg W0
    have hdl := drawnL_len xs
    obtain ⟨hl1, hl2, hl3, hl4⟩ := hlaw w.params _ hdl
    have hbnd := textsL_bnd (drawnL xs)
    have htn : (textsL (drawnL xs)).length ≤ 15 := by omega
    have htl : ∀ ts ∈ textsL (drawnL xs), ts.length ≤ 14 ∧ ∀ t ∈ ts, t.length ≤ 7 := fun ts ht => ⟨Nat.le_trans (hbnd.2 ts ht).1 hdl, (hbnd.2 ts ht).2⟩
    clear hbnd hlaw
    generalize textsL (drawnL xs) = tss at *
    refine wpC_execs_cons ?_
    refine wpC_mono (Q := fun f s' => f = .next ∧ ∃ m P, LW s g L m s' ∧ m (Str.ofString "texts") = some (.ref D) ∧ LL s'.heap D tss ∧ m (Str.ofString "plain") = some (.ref P) ∧ StrL s'.heap P (tss.map List.flatten)) (E := fun _ _ => False) ?_ ?_ (fun _ _ x => x.elim)
    · obtain ⟨rs, kD, hDo, hrs⟩ := id hLL
      have hrl := hrs.len
      refine wpC_of ?_
      refine wpAny_Assign_ListComp_free (cl := []) (fun _ => true) (fun v y => ∀ ts, (∃ r, v = .ref r ∧ StrL s1.heap r ts) → ∃ t, y = .str (S ts.flatten) t) ?_ ?_ ?_ ?_ ?_ ?_ ?_ ?_ ?_
      · rfl
      · rfl
      · decide
      · rfl
      · decide
      · rfl
      · rfl
      · rfl
      · refine ld W1.fr hm1 ?_
        refine wpAny_pyIter_list (items := (rs.map Value.ref).toArray) ⟨_, hDo, rfl, _, rfl⟩ ?_
        dsimp only
        generalize hI : s1.heap.objs.size = I
        generalize hh₅ : s1.heap.push _ = h₅
        have kp5 : ∀ b o, s1.heap.get? b = some o → h₅.get? b = some o := fun b o e => hh₅ ▸ Heap.get?_push_of_some _ e
        have h4I : s1.heap.get? I = none := hI ▸ Heap.get?_none_of_le (Nat.le_refl _)
        have hI5 : h₅.get? I = some _ := hh₅ ▸ hI ▸ Heap.get?_push_size _ rfl
        obtain ⟨oL, _, _, hoL, _⟩ := W1.fr.ns
        have hLI : L ≠ I := neOf hoL h4I
        have hDI : D ≠ I := neOf hDo h4I
        have hsz : (rs.map Value.ref).toArray.size = tss.length := by simp [hrl]
        have item : ∀ (i : Nat) (v : Value), (rs.map Value.ref).toArray[i]? = some v → ∃ r ts, v = .ref r ∧ tss[i]? = some ts ∧ StrL s1.heap r ts := by
          intro i v hP
          obtain ⟨r, hr, rfl⟩ : ∃ r, rs[i]? = some r ∧ v = .ref r := by
            have : (rs.map Value.ref)[i]? = some v := by simpa using hP
            rw [List.getElem?_map] at this
            obtain ⟨r, e, e2⟩ := Option.map_eq_some_iff.mp this
            exact ⟨r, e, e2.symm⟩
          obtain ⟨ts, hts, hTs⟩ := hrs.get i r hr
          exact ⟨r, ts, rfl, hts, hTs⟩
        refine ⟨I, [I, D], [I], _, _, _, m1, rfl, Walks.list (by rfl) I D hDI (rs.map Value.ref).toArray, ?_, ⟨⟨_, hI5, rfl, rfl⟩, ⟨_, kp5 _ _ hDo, rfl, _, rfl⟩⟩, ?_, ?_, W1.fr.ns.keeps kp5, ⟨?_, ?_⟩, ?_⟩
        · rw [hsz]; exact Nat.le_trans htn (by decide)
        · intro b hb
          show b < h₅.objs.size
          have : h₅.objs.size = I + 1 := by rw [← hh₅, Heap.size_push, hI]
          simp only [List.mem_cons, List.not_mem_nil, or_false] at hb
          rcases hb with rfl | rfl
          · rw [this]; exact Nat.lt_succ_self _
          · exact Heap.lt_size (kp5 _ _ hDo)
        · simp; exact hLI
        · intro C i v s₃ m₃ E' hC hP hns hmk hk' htk
          exact wpAny_pure ⟨rfl, _, _, rfl, fun _ _ e => e⟩
        · intro C i v s₃ m₃ E' hC hP hp hns hmk hk' htk
          obtain ⟨r, ts, rfl, hts, hTs⟩ := item i v hP
          have hTs3 : StrL s₃.heap r ts := by
            obtain ⟨vs, kk, e, hvs⟩ := hTs
            exact ⟨vs, kk, hk' _ _ (by simpa using neOf e h4I) (kp5 _ _ e), hvs⟩
          have htm := htl ts (List.mem_of_getElem? hts)
          refine MethodCall_ ?_
          refine Constant_str ?_
          refine GM.join ?_
          refine callWith_method1 ?_
          refine args_cons ?_
          refine wpAny_Name (wpAny_loadName_local rfl rfl hns hmk ?_)
          refine args_nil ?_
          refine join_strs hTs3 (by omega) (fun x hx => by have := htm.2 x hx; omega) ?_
          intro t' k
          refine ⟨?_, _, _, rfl, fun _ _ e => e⟩
          intro ts' hr'
          obtain ⟨r', e, hs'⟩ := hr'
          cases e
          rw [hTs.inj hs']
          exact ⟨_, rfl⟩
        · intro P h₆ tk₆ ys vs' hD' hDl hpl hlen' hPv hpair hns₆ hk₆
          rw [filter_all] at hpair
          have hys : StrsAre ys.toList ((tss.map List.flatten).map S) := by
            refine strs_of_pair hpair _ (by rw [hlen', hsz]; simp) ?_
            intro j v y hj hf
            obtain ⟨r, ts, rfl, hts, hTs⟩ := item j v (hPv j v hj)
            obtain ⟨t, rfl⟩ := hf ts ⟨r, rfl, hTs⟩
            exact ⟨ts.flatten, t, by simp [hts], rfl⟩
          have k6 : ∀ b o, b ≠ L → s1.heap.get? b = some o → h₆.get? b = some o := fun b o hb e => hk₆ b o hb (by simpa using neOf e h4I) (kp5 _ _ e)
          have gL : g.get? L = none := Heap.get?_none_of_le W1.fr.above
          have g1 : ∀ b o, g.get? b = some o → h₆.get? b = some o := fun b o e => k6 b o (neOf e gL) (W1.fr.keep b o e)
          obtain ⟨kl, hPl'⟩ := hpl
          refine ⟨rfl, _, P, ⟨⟨hns₆, g1, W1.fr.above⟩, W1.tab.at (fun o e => k6 _ _ h67 e) (fun o e => k6 _ _ h63 e), W1.bare, W1.os⟩, mne (y := Str.ofString "plain") hm1 (by decide), hLL.ex W1.fr.ns W1.tab fun b o hb _ e => k6 b o hb e, by rfl, ys, kl, hPl', hys⟩
    · intro f s2 hq
      obtain ⟨rfl, m2, Pp, W2, hm2, hLL2, hm2p, hP2⟩ := hq
      dsimp only
      clear hm1 hLL W1
      have hfl : ∀ x ∈ tss.map List.flatten, x.length ≤ 98 := by
        intro x hx
        obtain ⟨ts, hts, rfl⟩ := List.mem_map.mp hx
        have h1 := htl ts hts
        have h2 := flat_len ts h1.2
        omega
      have hpn : (tss.map List.flatten).length ≤ 15 := by simpa using htn
      have hplen : (platL (tss.map List.flatten)).length ≤ 50000 := by
        have := platL_len _ 98 hfl
        have h2 := Nat.mul_le_mul_left (98 + 1) hpn
        omega
      refine wpC_execs_cons ?_
      refine wpC_mono (Q := fun f s' => f = .next ∧ ∃ m t, LW s g L m s' ∧ m (Str.ofString "texts") = some (.ref D) ∧ LL s'.heap D tss ∧ m (Str.ofString "plain") = some (.ref Pp) ∧ StrL s'.heap Pp (tss.map List.flatten) ∧ m (Str.ofString "named") = some (.str (S (walkL true tss)) t)) (E := fun _ _ => False) ?_ ?_ (fun _ _ x => x.elim)
      · refine wpC_Assign_Name ?_
        refine wpC_Call ?_
        refine name_K W2.fr G.K G.T (v := .ref 48) (by rfl) ?_
        refine callWithC (K := KF w) (by rfl) ?_
        refine args_cons ?_
        refine Call_ ?_
        refine name_K W2.fr G.K G.T (v := .ref 68) (by rfl) ?_
        refine callWith_S (K := KF w) G.K (by rfl) ?_
        refine ld W2.fr hm2p ?_
        refine star_strs hP2 (by omega) ?_
        intro h₃ vs hvs kp3
        have W3 := W2.grow kp3 s2.toks
        refine ⟨G.K.keeps W3.fr.keep, ?_⟩
        refine plat_call G B g63 W3.fr.keep (Nat.le_trans W3.fr.above (Nat.le_of_lt W3.fr.ns.lt)) W3.tab W3.bare (by rfl) (by show callerA.depth + 1 + 1 < recursionLimit; decide) hvs (by omega) (fun x hx => Nat.le_trans (hfl x hx) (by decide)) ?_
        intro s4 t4 k4 tb4 hb4 ho4
        have W4 := W3.after h63 g63 k4 tb4 hb4 ho4
        refine args_nil ?_
        refine ⟨G.K.keeps W4.fr.keep, ?_⟩
        refine wpC_of ?_
        refine quote_call (G.keeps W4.fr.keep) (by show callerA.depth + 1 < recursionLimit; decide) hplen ?_
        intro s5 t5 k5
        obtain ⟨h₅, k₅, rfl, kp5⟩ := k5
        have W5 := W4.grow kp5 k₅
        rw [hl1]
        refine stB W5.fr ?_
        intro h₆ F₆ sb₆
        have W6 := W5.st h67 h63 F₆ sb₆ (k₅ + 1)
        have k6 : ∀ b o, b ≠ L → b ≠ 63 → s2.heap.get? b = some o → h₆.get? b = some o := fun b o hb hb' e => (sb₆.2 b hb).trans (kp5 _ _ (k4 _ _ hb' (kp3 _ _ e)))
        exact ⟨rfl, _, t5, W6, mne (y := Str.ofString "named") hm2 (by decide), hLL2.ex W2.fr.ns W2.tab k6, mne (y := Str.ofString "named") hm2p (by decide), hP2.ex W2.fr.ns W2.tab k6, by rfl⟩
      · intro f s3 hq
        obtain ⟨rfl, m3, tn, W3, hm3, hLL3, hm3p, hP3, hm3n⟩ := hq
        dsimp only
        clear hm2 hLL2 W2 hm2p hP2
        refine wpC_execs_cons ?_
        refine wpC_mono (Q := fun f s' => f = .next ∧ ∃ m t t2, LW s g L m s' ∧ m (Str.ofString "texts") = some (.ref D) ∧ LL s'.heap D tss ∧ m (Str.ofString "named") = some (.str (S (walkL true tss)) t) ∧ m (Str.ofString "sent") = some (.str (S (walkL false tss)) t2)) (E := fun _ _ => False) ?_ ?_ (fun _ _ x => x.elim)
        · refine wpC_of ?_
          refine wpAny_Assign_Name ?_
          refine Call_ ?_
          refine name_K W3.fr G.K G.T (v := .ref 68) (by rfl) ?_
          refine callWith_S (K := KF w) G.K (by rfl) ?_
          obtain ⟨pv, kP, hPo, hpv⟩ := id hP3
          have hpsz : pv.size = (tss.map List.flatten).length := by rw [← Array.length_toList, strsAre_len hpv]; simp
          refine wpAny_ListComp_free (cl := []) (fun _ => true) (fun v y => ∀ x, (∃ t, v = .str (S x) t) → ∃ t, y = .str (S (quoteL x)) t) ?_ ?_ ?_ ?_ ?_ ?_
          · rfl
          · decide
          · rfl
          · decide
          · rfl
          · refine ld W3.fr hm3p ?_
            refine wpAny_pyIter_list (items := pv) ⟨_, hPo, rfl, _, rfl⟩ ?_
            dsimp only
            generalize hI : s3.heap.objs.size = I
            generalize hh₅ : s3.heap.push _ = h₅
            have kp5 : ∀ b o, s3.heap.get? b = some o → h₅.get? b = some o := fun b o e => hh₅ ▸ Heap.get?_push_of_some _ e
            have h4I : s3.heap.get? I = none := hI ▸ Heap.get?_none_of_le (Nat.le_refl _)
            have hI5 : h₅.get? I = some _ := hh₅ ▸ hI ▸ Heap.get?_push_size _ rfl
            obtain ⟨oL, _, _, hoL, _⟩ := W3.fr.ns
            have hPI : Pp ≠ I := neOf hPo h4I
            refine ⟨I, [I, Pp], [I], _, _, _, rfl, Walks.list (by rfl) I Pp hPI pv, ?_, ⟨⟨_, hI5, rfl, rfl⟩, ⟨_, kp5 _ _ hPo, rfl, _, rfl⟩⟩, ?_, ⟨?_, ?_⟩, ?_⟩
            · rw [hpsz]; exact Nat.le_trans hpn (by decide)
            · intro b hb
              show b < h₅.objs.size
              have : h₅.objs.size = I + 1 := by rw [← hh₅, Heap.size_push, hI]
              simp only [List.mem_cons, List.not_mem_nil, or_false] at hb
              rcases hb with rfl | rfl
              · rw [this]; exact Nat.lt_succ_self _
              · exact Heap.lt_size (kp5 _ _ hPo)
            · intro C i v s₃ m₃ E' hC hP hns hmk hk' htk
              exact wpAny_pure ⟨rfl, _, _, rfl, fun _ _ e => e⟩
            · intro C i v s₃ m₃ E' hC hP hp hns hmk hk' htk
              obtain ⟨x, tx, hx, rfl⟩ := strsAre_get hpv _ rfl i v (by simpa using hP)
              have gk : ∀ b o, g.get? b = some o → s₃.heap.get? b = some o := fun b o e => hk' _ _ (by simpa using neOf (W3.fr.keep _ _ e) h4I) (kp5 _ _ (W3.fr.keep _ _ e))
              have Gk := G.keeps gk
              have hxl := hfl x (List.mem_of_getElem? hx)
              have hfn : FnAt 48 s₃.heap := ⟨_, _, _, _, Gk.K 48 _ (by rfl)⟩
              refine Call_ ?_
              refine Name_function_global (by rfl) (by rfl) (loadGlobal_global (v := .ref 48) (mg := mg) Gk.T.g (mg_of Gk.K Gk.T.g (by rfl)) ?_) (by decide)
              refine callWith_F hfn ?_
              refine args_cons ?_
              refine wpAny_Name (wpAny_loadName_local rfl rfl hns hmk ?_)
              refine args_nil ?_
              refine ⟨hfn, ?_⟩
              refine quote_call Gk (by show callerA.depth + 1 < recursionLimit; decide) (by omega) ?_
              intro s5 t5 k5
              refine ⟨?_, k5⟩
              intro x' hx'
              obtain ⟨t', e⟩ := hx'
              injection e with e1 e2
              rw [← S_inj e1]
              exact ⟨_, rfl⟩
            · intro D6 h₆ tk₆ ys vs' hD' hDl hpl hlen' hPv hpair hk₆
              rw [filter_all] at hpair
              have hys : StrsAre ys.toList (((tss.map List.flatten).map quoteL).map S) := by
                refine strs_of_pair hpair _ (by rw [hlen', hpsz]; simp) ?_
                intro j v y hj hf
                obtain ⟨x, tx, hx, rfl⟩ := strsAre_get hpv _ rfl j v (by simpa using hPv j v hj)
                obtain ⟨t, rfl⟩ := hf x ⟨tx, rfl⟩
                exact ⟨quoteL x, t, by rw [List.getElem?_map, hx]; rfl, rfl⟩
              have k6 : ∀ b o, s3.heap.get? b = some o → h₆.get? b = some o := fun b o e => hk₆ b o (by simpa using neOf e h4I) (kp5 _ _ e)
              have W6 := W3.grow k6 tk₆
              obtain ⟨kl, hPl'⟩ := hpl
              have hD6 : StrL h₆ D6 ((tss.map List.flatten).map quoteL) := ⟨ys, kl, hPl', hys⟩
              have hqn : ((tss.map List.flatten).map quoteL).length ≤ 50 := by rw [List.length_map]; omega
              have hql : ∀ x ∈ (tss.map List.flatten).map quoteL, x.length ≤ 1000 := by
                intro x hx
                obtain ⟨y, hy, rfl⟩ := List.mem_map.mp hx
                have h1 := hfl y hy
                have h2 := quoteL_len y
                omega
              refine star_strs (s := { s3 with heap := h₆, toks := tk₆ }) hD6 (by omega) ?_
              intro h₇ vs hvs kp7
              have W7 := W6.grow kp7 tk₆
              refine ⟨G.K.keeps W7.fr.keep, ?_⟩
              refine plat_call G B g63 W7.fr.keep (Nat.le_trans W7.fr.above (Nat.le_of_lt W7.fr.ns.lt)) W7.tab W7.bare (by rfl) (by show callerA.depth + 1 + 1 < recursionLimit; decide) hvs hqn hql ?_
              intro s8 t8 k8 tb8 hb8 ho8
              have W8 := W7.after h63 g63 k8 tb8 hb8 ho8
              rw [hl2]
              refine stB W8.fr ?_
              intro h₉ F₉ sb₉
              have W9 := W8.st h67 h63 F₉ sb₉ (s8.toks + 1)
              have k9 : ∀ b o, b ≠ L → b ≠ 63 → s3.heap.get? b = some o → h₉.get? b = some o := fun b o hb hb' e => (sb₉.2 b hb).trans (k8 _ _ hb' (kp7 _ _ (k6 _ _ e)))
              exact ⟨rfl, _, tn, t8, W9, mne (y := Str.ofString "sent") hm3 (by decide), hLL3.ex W3.fr.ns W3.tab k9, mne (y := Str.ofString "sent") hm3n (by decide), by rfl⟩
        · intro f s4 hq
          obtain ⟨rfl, m4, tn4, ts4, W4, hm4, hLL4, hm4n, hm4s⟩ := hq
          dsimp only
          clear hm3 hLL3 W3 hm3p hP3 hm3n
          have htl2 : ∀ ts ∈ tss, ts.length ≤ 50 := fun ts ht => Nat.le_trans (htl ts ht).1 (by decide)
          have htl3 : ∀ ts ∈ tss, ∀ t ∈ ts, t.length ≤ 10 := fun ts ht t hx => Nat.le_trans ((htl ts ht).2 t hx) (by decide)
          refine wpC_execs_cons ?_
          refine wpC_mono (Q := fun f s' => f = .next ∧ ∃ m t t2 t3, LW s g L m s' ∧ m (Str.ofString "texts") = some (.ref D) ∧ LL s'.heap D tss ∧ m (Str.ofString "named") = some (.str (S (walkL true tss)) t) ∧ m (Str.ofString "sent") = some (.str (S (walkL false tss)) t2) ∧ m (Str.ofString "first") = some (.str (S (walkL true tss)) t3)) (E := fun _ _ => False) ?_ ?_ (fun _ _ x => x.elim)
          · refine wpC_Assign_Name ?_
            refine wpC_Call ?_
            refine name_K W4.fr G.K G.T (v := .ref 87) (by rfl) ?_
            refine callWithC (K := KF w) (by rfl) ?_
            refine args_cons ?_
            refine ld W4.fr hm4 ?_
            refine args_cons ?_
            refine Constant_bool ?_
            refine args_nil ?_
            refine ⟨G.K.keeps W4.fr.keep, ?_⟩
            refine walk_call (G.keeps W4.fr.keep) hLL4 (by omega) htl2 htl3 (by rfl) (by show callerA.depth + 1 + 1 < recursionLimit; decide) (by show callerA.units + 3 ≤ 900; decide) ?_
            intro h₅ k₅ t5 kp5
            have W5 := W4.grow kp5 k₅
            refine stB W5.fr ?_
            intro h₆ F₆ sb₆
            have W6 := W5.st h67 h63 F₆ sb₆ (k₅ + 1)
            have k6 : ∀ b o, b ≠ L → b ≠ 63 → s4.heap.get? b = some o → h₆.get? b = some o := fun b o hb hb' e => (sb₆.2 b hb).trans (kp5 _ _ e)
            exact ⟨rfl, _, tn4, ts4, t5, W6, mne (y := Str.ofString "first") hm4 (by decide), hLL4.ex W4.fr.ns W4.tab k6, mne (y := Str.ofString "first") hm4n (by decide), mne (y := Str.ofString "first") hm4s (by decide), by rfl⟩
          intro f s5 hq
          obtain ⟨rfl, m5, tn5, ts5, tf5, W5, hm5, hLL5, hm5n, hm5s, hm5f⟩ := hq
          dsimp only
          clear hm4 hLL4 W4 hm4n hm4s
          refine wpC_execs_cons ?_
          refine wpC_mono (Q := fun f s' => f = .next ∧ ∃ m t t2 t3 t4, LW s g L m s' ∧ m (Str.ofString "named") = some (.str (S (walkL true tss)) t) ∧ m (Str.ofString "sent") = some (.str (S (walkL false tss)) t2) ∧ m (Str.ofString "first") = some (.str (S (walkL true tss)) t3) ∧ m (Str.ofString "second") = some (.str (S (walkL false tss)) t4)) (E := fun _ _ => False) ?_ ?_ (fun _ _ x => x.elim)
          · refine wpC_Assign_Name ?_
            refine wpC_Call ?_
            refine name_K W5.fr G.K G.T (v := .ref 87) (by rfl) ?_
            refine callWithC (K := KF w) (by rfl) ?_
            refine args_cons ?_
            refine ld W5.fr hm5 ?_
            refine args_cons ?_
            refine Constant_bool ?_
            refine args_nil ?_
            refine ⟨G.K.keeps W5.fr.keep, ?_⟩
            refine walk_call (G.keeps W5.fr.keep) hLL5 (by omega) htl2 htl3 (by rfl) (by show callerA.depth + 1 + 1 < recursionLimit; decide) (by show callerA.units + 3 ≤ 900; decide) ?_
            intro h₆ k₆ t6 kp6
            have W6 := W5.grow kp6 k₆
            refine stB W6.fr ?_
            intro h₇ F₇ sb₇
            have W7 := W6.st h67 h63 F₇ sb₇ (k₆ + 1)
            exact ⟨rfl, _, tn5, ts5, tf5, t6, W7, mne (y := Str.ofString "second") hm5n (by decide), mne (y := Str.ofString "second") hm5s (by decide), mne (y := Str.ofString "second") hm5f (by decide), by rfl⟩
          intro f s6 hq
          obtain ⟨rfl, m6, tn6, ts6, tf6, tc6, W6, hm6n, hm6s, hm6f, hm6c⟩ := hq
          dsimp only
          clear hm5 hLL5 W5 hm5n hm5s hm5f
          refine wpC_execs_cons ?_
          refine wpC_If ?_
          refine isTrue_or ?_
          refine wpAny_isTrue_Compare1 ?_
          refine ld W6.fr hm6n ?_
          refine ld W6.fr hm6f ?_
          refine P.ne_str ?_
          refine wpAny_truthy_bool ?_
          rw [if_neg (by simp)]
          refine isTrue_or ?_
          refine wpAny_isTrue_Compare1 ?_
          refine ld W6.fr hm6s ?_
          refine ld W6.fr hm6c ?_
          refine P.ne_str ?_
          refine wpAny_truthy_bool ?_
          rw [if_neg (by simp)]
          refine isTrue_or_nil ?_
          rw [if_neg (by decide)]
          refine wpC_execs_nil ?_
          dsimp only
          have hb1 := hl4 true
          have hb2 := hl4 false
          generalize hf : walkL true tss = first at *
          generalize hsd : walkL false tss = second at *
          refine wpC_execs_cons ?_
          refine wpC_mono (Q := fun f s' => f = .next ∧ ∃ m t3 t4, LW s g L m s' ∧ m (Str.ofString "first") = some (.str (S first) t3) ∧ m (Str.ofString "second") = some (.str (S second) t4) ∧ m (Str.ofString "alike") = some (.bool (decide (verL w.params first = verL w.params second)))) (E := fun _ _ => False) ?_ ?_ (fun _ _ x => x.elim)
          · refine wpC_Assign_Name ?_
            refine wpC_Compare1 ?_
            refine wpC_Call ?_
            refine name_K W6.fr G.K G.T (v := .ref 61) (by rfl) ?_
            refine callWithC (K := KF w) (by rfl) ?_
            refine args_cons ?_
            refine ld W6.fr hm6n ?_
            refine args_nil ?_
            refine ⟨G.K.keeps W6.fr.keep, ?_⟩
            refine ver_call G W6.fr (by show callerA.depth + 1 < recursionLimit; decide) (by rfl) (by rfl) (by rfl) (by show ScopeKind.function ≠ ScopeKind.module; decide) hb1.1 hb1.2 ?_
            intro h₇ k₇ D1 v1 kk1 kp7 F₇ hD1n hD1 hva1
            have hs63 := W6.tab
            have W7 : LW s g L m6 { s6 with heap := h₇, toks := k₇ } := ⟨F₇, hs63.at (fun o e => kp7 _ _ h67 e) (fun o e => kp7 _ _ h63 e), W6.bare, W6.os⟩
            refine wpC_Call ?_
            refine name_K W7.fr G.K G.T (v := .ref 61) (by rfl) ?_
            refine callWithC (K := KF w) (by rfl) ?_
            refine args_cons ?_
            refine ld W7.fr hm6s ?_
            refine args_nil ?_
            refine ⟨G.K.keeps W7.fr.keep, ?_⟩
            refine ver_call G W7.fr (by show callerA.depth + 1 < recursionLimit; decide) (by rfl) (by rfl) (by rfl) (by show ScopeKind.function ≠ ScopeKind.module; decide) hb2.1 hb2.2 ?_
            intro h₈ k₈ D2 v2 kk2 kp8 F₈ hD2n hD2 hva2
            have W8 : LW s g L m6 { s6 with heap := h₈, toks := k₈ } := ⟨F₈, W7.tab.at (fun o e => kp8 _ _ h67 e) (fun o e => kp8 _ _ h63 e), W6.bare, W6.os⟩
            have hD1L := (list_apart W7.fr.ns W7.tab hD1).1
            refine wpC_of ?_
            refine eq_vers (kp8 _ _ hD1L hD1) hD2 hva1 hva2 (by show callerA.units + 3 < cLine; decide) ?_
            refine stB W8.fr ?_
            intro h₉ F₉ sb₉
            exact ⟨rfl, _, tf6, tc6, W8.st h67 h63 F₉ sb₉ (k₈ + 1), mne (y := Str.ofString "alike") hm6f (by decide), mne (y := Str.ofString "alike") hm6c (by decide), by rfl⟩
          intro f s7 hq
          obtain ⟨rfl, m7, tf7, tc7, W7, hm7f, hm7c, hm7a⟩ := hq
          dsimp only
          refine wpC_execs_cons ?_
          refine wpC_of ?_
          refine wpAny_Return_some ?_
          refine wpAny_Compare1 ?_
          refine ld W7.fr hm7a ?_
          refine wpAny_Compare1 ?_
          refine MethodCall_ ?_
          refine ld W7.fr hm7f ?_
          refine GM.count ?_
          refine callWith_method1 ?_
          refine args_cons ?_
          refine Constant_str ?_
          refine args_nil ?_
          refine SC.count ?_
          have W8 := W7.tk (s7.toks + 1 + 1)
          refine MethodCall_ ?_
          refine ld W8.fr hm7c ?_
          refine GM.count ?_
          refine callWith_method1 ?_
          refine args_cons ?_
          refine Constant_str ?_
          refine args_nil ?_
          refine SC.count ?_
          refine P.eq_int ?_
          refine eq_bool ?_
          rw [show Str.ofString "\r" = S [13] from by decide +kernel, count_eq, count_eq]
          have hbool : (decide (verL w.params first = verL w.params second) == (((first.count 13 : Nat) : Int) == ((second.count 13 : Nat) : Int))) = true := by
            rw [beq_iff_eq, Bool.eq_iff_iff, decide_eq_true_iff, beq_iff_eq]
            rw [hl3]
            omega
          rw [hbool]
          exact h _ W7.fr.keep W7.tab W7.bare W7.os
end Mine
end

section
set_option autoImplicit false
set_option maxRecDepth 100000
set_option maxHeartbeats 1000000
namespace Mine
open PySem PySem.W PySem.Calls PyProof.Rows

/-- the tokens that a text may hold -/
noncomputable def allT : List Tk := [[46], [10], [13], [32], unkL, [45], [97], [53], [114, 99], [47], [92], [58], [59], [34], [40], [41]]
theorem tok_all (x : Int) (h : tokOf x ≠ []) : tokOf x ∈ allT := by
  unfold tokOf at *
  rw [List.getD_eq_getElem?_getD] at *
  cases e : toks16[(x.fmod 16).toNat]? with
  | none => rw [e] at h; exact absurd rfl h
  | some y =>
    rw [e] at h
    have key : ∀ y ∈ toks16, y ≠ [] → y ∈ allT := by decide
    exact key y (List.mem_of_getElem? e) h
theorem spec_all (x : Int) : [specOf x] ∈ allT := by
  unfold specOf
  rw [List.getD_eq_getElem?_getD]
  have hb := fmod_lt (x.fdiv 16) 7 (by decide)
  have hb1 : 0 ≤ (x.fdiv 16).fmod 7 := hb.1
  have hb2 : (x.fdiv 16).fmod 7 < 7 := hb.2
  cases e : specs[((x.fdiv 16).fmod 7).toNat]? with
  | none =>
    rw [List.getElem?_eq_none_iff] at e
    have : specs.length = 7 := rfl
    omega
  | some y =>
    have key : ∀ y ∈ specs, [y] ∈ allT := by decide
    exact key y (List.mem_of_getElem? e)
noncomputable def okTs (tss : List (List Tk)) : Prop := ∀ ts ∈ tss, ∀ t ∈ ts, t ∈ allT
theorem textsGo_ok : ∀ (xs : List Int) (init : List (List Tk)) (last : List Tk), okTs (init ++ [last]) → okTs (textsGo init last xs)
  | [], init, last, h => h
  | x :: r, init, last, h => by
    have more : ∀ y : Tk, y ∈ allT → okTs (init ++ [last ++ [y]]) := by
      intro y hy ts ht t htt
      rcases List.mem_append.mp ht with ht | ht
      · exact h ts (by simp [ht]) t htt
      · rw [List.mem_singleton.mp ht] at htt
        rcases List.mem_append.mp htt with htt | htt
        · exact h last (by simp) t htt
        · rw [List.mem_singleton.mp htt]; exact hy
    simp only [textsGo]
    split
    · refine textsGo_ok r _ _ ?_
      intro ts ht t htt
      rcases List.mem_append.mp ht with ht | ht
      · exact h ts ht t htt
      · rw [List.mem_singleton.mp ht] at htt; cases htt
    · rename_i hne
      split
      · exact textsGo_ok r _ _ (more _ (spec_all x))
      · exact textsGo_ok r _ _ (more _ (tok_all x hne))
theorem textsL_ok (xs : List Int) : okTs (textsL xs) := textsGo_ok xs [] [] (by intro ts ht t htt; simp at ht; subst ht; cases htt)

/-- join with anything between -/
noncomputable def joinG {α : Type} (sep : List α) : List (List α) → List α
  | [] => []
  | [x] => x
  | x :: y :: r => x ++ sep ++ joinG sep (y :: r)
theorem joinG_flatMap {α : Type} (f : α → List Nat) (sep : List α) : ∀ xs : List (List α), (joinG sep xs).flatMap f = joinL (sep.flatMap f) (xs.map fun x => x.flatMap f)
  | [] => rfl
  | [x] => rfl
  | x :: y :: r => by
    have := joinG_flatMap f sep (y :: r)
    simp only [joinG, List.flatMap_append, this]
    rfl
noncomputable def seamP : Tk × Tk := ([45], [])
noncomputable def seqL (tss : List (List Tk)) : List (Tk × Tk) := joinG [seamP] ((tss.filter fun ts => !ts.isEmpty).map innerL)
theorem walkTok_seam (bn : Bool) (st : List Nat × List Nat) : walkTok bn st seamP = (addDash st.1, [45]) := by
  unfold walkTok seamP
  rw [if_neg (by decide)]
  unfold stepN
  rw [if_neg (by simp), if_neg (by simp), if_neg (by decide), if_pos (by decide)]
theorem walk_begun (bn : Bool) : ∀ (tss : List (List Tk)) (nm lf : List Nat), (tss.foldl (walkText bn) (nm, lf, true)).1 = (((tss.filter fun ts => !ts.isEmpty).map fun ts => seamP :: innerL ts).flatten.foldl (walkTok bn) (nm, lf)).1
  | [], nm, lf => rfl
  | ts :: r, nm, lf => by
    by_cases h : ts = []
    · subst h
      have := walk_begun bn r nm lf
      simpa [walkText] using this
    · have e : (ts.isEmpty) = false := by simpa using h
      rw [List.foldl_cons]
      have e2 : walkText bn (nm, lf, true) ts = (((innerL ts).foldl (walkTok bn) (addDash nm, [45])).1, ((innerL ts).foldl (walkTok bn) (addDash nm, [45])).2, true) := by
        unfold walkText; rw [if_neg h]; rfl
      rw [e2, walk_begun bn r]
      rw [List.filter_cons, e]
      simp only [Bool.not_false, if_true, List.map_cons, List.flatten_cons, List.foldl_append, List.foldl_cons, walkTok_seam]
theorem joinG_seam : ∀ (x : List (Tk × Tk)) (xs : List (List (Tk × Tk))), joinG [seamP] (x :: xs) = x ++ (xs.map fun y => seamP :: y).flatten
  | x, [] => by simp [joinG]
  | x, y :: r => by
    have := joinG_seam y r
    simp only [joinG, this, List.map_cons, List.flatten_cons]
    simp
theorem walk_seq (bn : Bool) : ∀ (tss : List (List Tk)), (tss.foldl (walkText bn) ([], [], false)).1 = ((seqL tss).foldl (walkTok bn) ([], [])).1
  | [] => rfl
  | ts :: r => by
    by_cases h : ts = []
    · subst h
      have := walk_seq bn r
      simpa [walkText, seqL] using this
    · have e : (ts.isEmpty) = false := by simpa using h
      rw [List.foldl_cons]
      have e2 : walkText bn ([], [], false) ts = (((innerL ts).foldl (walkTok bn) ([], [])).1, ((innerL ts).foldl (walkTok bn) ([], [])).2, true) := by
        unfold walkText; rw [if_neg h]; rfl
      rw [e2, walk_begun bn r]
      unfold seqL
      rw [List.filter_cons, e]
      simp only [Bool.not_false, if_true, List.map_cons]
      rw [joinG_seam, List.foldl_append, List.map_map]
      rfl
end Mine
end

section
set_option autoImplicit false
set_option maxRecDepth 100000
set_option maxHeartbeats 1000000
namespace Mine
open PySem PySem.W PySem.Calls PyProof.Rows

theorem snocInd {α : Type} {P : List α → Prop} (h0 : P []) (hs : ∀ l a, P l → P (l ++ [a])) (l : List α) : P l := by
  have : ∀ r : List α, P r.reverse := by
    intro r
    induction r with
    | nil => exact h0
    | cons a r ih => rw [List.reverse_cons]; exact hs _ _ ih
  simpa using this l.reverse
theorem lastL_iff (l : List Nat) (c : Nat) : lastL l = [c] ↔ l.getLast? = some c := by
  rcases List.eq_nil_or_concat l with rfl | ⟨a, b, rfl⟩
  · simp [lastL]
  · simp [lastL]
/-- squeezing, a sign after the other -/
noncomputable def sqA (nm : List Nat) (x : Nat) : List Nat := if x = 45 ∧ nm.getLast? = some 45 then nm else nm ++ [x]
theorem sq_fold : ∀ (l nm : List Nat), l.foldl sqA nm = nm ++ sqGo (decide (nm.getLast? = some 45)) l
  | [], nm => by simp [sqGo]
  | x :: r, nm => by
    rw [List.foldl_cons, sq_fold r]
    unfold sqA
    by_cases hx : x = 45
    · subst hx
      by_cases hl : nm.getLast? = some 45
      · simp [sqGo, hl]
      · simp [sqGo, hl]
    · simp [sqGo, hx]
theorem sq_eq (l : List Nat) : sq l = l.foldl sqA [] := by rw [sq_fold]; simp [sq]
theorem sq_app (a b : List Nat) : sq (a ++ b) = b.foldl sqA (sq a) := by rw [sq_eq, sq_eq, List.foldl_append]
theorem sq_noDD (l : List Nat) : (sq l).getLast? = some 45 → (sq l).dropLast.getLast? ≠ some 45 := by
  induction l using snocInd with
  | h0 => simp [sq, sqGo]
  | hs l a ih =>
    rw [sq_app]
    simp only [List.foldl_cons, List.foldl_nil]
    unfold sqA
    split
    · exact ih
    · rename_i h
      intro h1
      have ha : a = 45 := by simpa using h1
      simp only [List.dropLast_concat]
      intro h2
      exact h ⟨ha, h2⟩
theorem dropT_sq (l : List Nat) : dropT (sq l) = if lastL (sq l) = [45] then (sq l).dropLast else sq l := by
  by_cases h : (sq l).getLast? = some 45
  · rw [if_pos ((lastL_iff _ _).mpr h), ← dropT_more _ h, dropT_end _ (sq_noDD l h)]
  · rw [if_neg (fun q => h ((lastL_iff _ _).mp q)), dropT_end _ h]

theorem crlf_app : ∀ (X Z : List Nat) (b : Bool), crlf b (X ++ Z) = crlf b X ++ crlf (match X.getLast? with | none => b | some d => decide (d = 13)) Z
  | [], Z, b => rfl
  | c :: r, Z, b => by
    have ih := crlf_app r Z (decide (c = 13))
    simp only [List.cons_append, crlf, ih, List.append_assoc]
    congr 2
    rcases List.eq_nil_or_concat r with rfl | ⟨a, d, rfl⟩
    · simp
    · simp [List.getLast?_cons]
theorem dots_app : ∀ (X Z : List Nat) (b : Bool), dots b (X ++ Z) = dots b X ++ dots (match X.getLast? with | none => b | some d => decide (d = 10)) Z
  | [], Z, b => rfl
  | c :: r, Z, b => by
    have ih := dots_app r Z (decide (c = 10))
    simp only [List.cons_append, dots, ih, List.append_assoc]
    congr 2
    rcases List.eq_nil_or_concat r with rfl | ⟨a, d, rfl⟩
    · simp
    · simp [List.getLast?_cons]
noncomputable def endCR (Y : List Nat) : Bool := decide (Y.getLast? = some 13)
noncomputable def endNL (Y : List Nat) : Bool := decide (Y.getLast? = none ∨ Y.getLast? = some 13 ∨ Y.getLast? = some 10)
theorem crlf_app' (Y Z : List Nat) : crlf false (Y ++ Z) = crlf false Y ++ crlf (endCR Y) Z := by
  rw [crlf_app]
  congr 2
  unfold endCR
  cases Y.getLast? <;> simp
theorem crlf_end (Y : List Nat) : (match (crlf false Y).getLast? with | none => true | some d => decide (d = 10)) = endNL Y := by
  induction Y using snocInd with
  | h0 => rfl
  | hs l a ih =>
    rw [crlf_app']
    by_cases h13 : a = 13
    · subst h13
      simp [crlf, endNL]
    · by_cases h10 : a = 10
      · subst h10
        cases he : endCR l with
        | false => simp [crlf, endNL]
        | true =>
          have e : crlf true [10] = [] := by simp [crlf]
          rw [e, List.append_nil, ih]
          unfold endCR at he
          have he' := of_decide_eq_true he
          simp [endNL, he']
      · simp [crlf, endNL, h13, h10]
theorem quoteL_app (Y Z : List Nat) : quoteL (Y ++ Z) = quoteL Y ++ dots (endNL Y) (crlf (endCR Y) Z) := by
  unfold quoteL
  rw [crlf_app', dots_app, crlf_end]
theorem quoteL_last (Y : List Nat) : (quoteL Y).getLast? = if Y.getLast? = some 13 then some 10 else Y.getLast? := by
  induction Y using snocInd with
  | h0 => rfl
  | hs l a ih =>
    rw [quoteL_app]
    by_cases h13 : a = 13
    · subst h13
      simp [crlf, dots]
    · by_cases h10 : a = 10
      · subst h10
        cases he : endCR l with
        | false => simp [crlf, dots]
        | true =>
          have e : crlf true [10] = [] := by simp [crlf]
          rw [e]
          simp only [dots, List.append_nil, ih]
          unfold endCR at he
          have he' := of_decide_eq_true he
          simp [he']
      · by_cases h46 : a = 46
        · subst h46
          have e : ∀ b, crlf b [46] = [46] := fun b => by simp [crlf]
          rw [e]
          cases endNL l <;> simp [dots]
        · simp [crlf, dots, h13, h10, h46]
end Mine
end

section
set_option autoImplicit false
set_option maxRecDepth 100000
set_option maxHeartbeats 2000000
namespace Mine
open PySem PySem.W PySem.Calls PyProof.Rows

noncomputable def crT (a : Tk) : Bool := decide (a = [13])
noncomputable def nlT (a : Tk) : Bool := [[], [13], [10]].any (· == a)
/-- what quotedata makes of a token, by what stands ahead -/
noncomputable def qB (cr nl : Bool) (tok : Tk) : List Nat := dots nl (crlf cr tok)
noncomputable def qT (tok ah : Tk) : List Nat := qB (crT ah) (nlT ah) tok
theorem addDash_eq (nm : List Nat) : addDash nm = [45].foldl sqA nm := by
  unfold addDash
  simp only [List.foldl_cons, List.foldl_nil, sqA, true_and]
  by_cases h : nm.getLast? = some 45
  · rw [if_pos ((lastL_iff _ _).mpr h), if_pos h]
  · rw [if_neg (fun q => h ((lastL_iff _ _).mp q)), if_neg h]
theorem plain_fold : ∀ (l nm : List Nat), 45 ∉ l → l.foldl sqA nm = nm ++ l
  | [], nm, _ => by simp
  | x :: r, nm, h => by
    have hx : x ≠ 45 := fun q => h (by simp [q])
    rw [List.foldl_cons, plain_fold r _ (fun q => h (by simp [q]))]
    simp [sqA, hx]
noncomputable def stepB (cr nl : Bool) (nm tok : List Nat) : List Nat :=
  if tok = [13] ∨ (tok = [10] ∧ cr = false) then nm ++ [13, 10]
  else if tok = [46] ∧ nl = true then nm ++ [46, 46]
  else if tok = [32] then nm ++ [95]
  else if dashT.any (· == tok) = true then addDash nm
  else if tok = [10] then nm else nm ++ tok
theorem stepN_B (nm ah tok : List Nat) : stepN nm ah tok = stepB (crT ah) (nlT ah) nm tok := by
  unfold stepN stepB crT nlT
  have e : (ah ≠ [13]) ↔ decide (ah = [13]) = false := by simp
  simp only [e]
/-- tokens that are no dash and stay -/
noncomputable def plainT : List Tk := [[46], [10], [13], [32], [97], [53], [114, 99]]
theorem all_cases {tok : Tk} (h : tok ∈ allT) : tok = unkL ∨ tok ∈ dashT ∨ tok ∈ plainT := by
  have key : ∀ t ∈ allT, t = unkL ∨ t ∈ dashT ∨ t ∈ plainT := by decide
  exact key tok h
theorem step_dash {tok : Tk} (h : tok ∈ dashT) (cr nl : Bool) (nm : List Nat) : stepB cr nl nm tok = addDash nm ∧ mapsL (qB cr nl tok) = [45] ∧ mapsL tok = [45] := by
  have key : ∀ t ∈ dashT, ∀ cr nl : Bool, (t ≠ [13] ∧ t ≠ [10] ∧ t ≠ [46] ∧ t ≠ [32] ∧ dashT.any (· == t) = true) ∧ mapsL (qB cr nl t) = [45] ∧ mapsL t = [45] := by decide
  obtain ⟨⟨a1, a2, a3, a4, a5⟩, b, c⟩ := key tok h cr nl
  refine ⟨?_, b, c⟩
  unfold stepB
  rw [if_neg (by simp [a1, a2]), if_neg (by simp [a3]), if_neg a4, if_pos a5]
theorem step_plain {tok : Tk} (h : tok ∈ plainT) (cr nl : Bool) (nm : List Nat) : stepB cr nl nm tok = nm ++ mapsL (qB cr nl tok) ∧ mapsL (qB cr nl tok) = qB cr nl (mapsL tok) ∧ 45 ∉ mapsL (qB cr nl tok) ∧ 45 ∉ mapsL tok := by
  have key : ∀ t ∈ plainT, ∀ cr nl : Bool, mapsL (qB cr nl t) = qB cr nl (mapsL t) ∧ 45 ∉ mapsL (qB cr nl t) ∧ 45 ∉ mapsL t := by decide
  refine ⟨?_, key tok h cr nl⟩
  have e : ∀ t ∈ plainT, ∀ cr nl : Bool, (if t = [13] ∨ (t = [10] ∧ cr = false) then [13, 10] else if t = [46] ∧ nl = true then [46, 46] else if t = [32] then [95] else if dashT.any (· == t) = true then [45] else if t = [10] then [] else t) = mapsL (qB cr nl t) ∧ dashT.any (· == t) = false := by decide
  obtain ⟨e1, e2⟩ := e tok h cr nl
  rw [← e1]
  unfold stepB
  rw [e2]
  repeat' split
  all_goals first | rfl | simp_all
theorem step_q {tok : Tk} (h : tok ∈ allT) (hu : tok ≠ unkL) (nm ah : List Nat) : stepN nm ah tok = (mapsL (qT tok ah)).foldl sqA nm := by
  rw [stepN_B]
  rcases all_cases h with h | h | h
  · exact absurd h hu
  · have := step_dash h (crT ah) (nlT ah) nm
    unfold qT
    rw [this.1, this.2.1, addDash_eq]
  · have := step_plain h (crT ah) (nlT ah) nm
    unfold qT
    rw [this.1, plain_fold _ _ this.2.2.1]

theorem walk_false (Z : List (Tk × Tk)) : (∀ p ∈ Z, p.1 ∈ allT) → (Z.foldl (walkTok false) ([], [])).1 = sq (Z.flatMap fun p => if p.1 = unkL then [] else mapsL (qT p.1 p.2)) := by
  induction Z using snocInd with
  | h0 => intro _; rfl
  | hs Z p ih =>
    intro h
    have ih := ih fun q hq => h q (by simp [hq])
    have hp := h p (by simp)
    rw [List.foldl_append, List.flatMap_append, sq_app, ← ih]
    simp only [List.foldl_cons, List.foldl_nil, List.flatMap_cons, List.flatMap_nil, List.append_nil]
    generalize Z.foldl (walkTok false) ([], []) = st
    unfold walkTok
    by_cases hu : p.1 = unkL
    · rw [if_pos hu, if_pos hu]; rfl
    · rw [if_neg hu, if_neg hu]
      rw [if_neg (by decide)]
      exact step_q hp hu _ _
noncomputable def RelT (left : Tk) (Y : List Nat) : Prop := endCR Y = crT left ∧ endNL Y = nlT left
theorem relT_of {tok : Tk} (h : tok ∈ allT) (hu : tok ≠ unkL) (Y : List Nat) (hY : Y.getLast? = (mapsL tok).getLast?) : RelT tok Y := by
  unfold RelT endCR endNL
  rw [hY]
  have key : ∀ t ∈ allT, t ≠ unkL → decide ((mapsL t).getLast? = some 13) = crT t ∧ decide ((mapsL t).getLast? = none ∨ (mapsL t).getLast? = some 13 ∨ (mapsL t).getLast? = some 10) = nlT t := by decide
  exact key tok h hu
theorem lastL_quote (Y : List Nat) : lastL (quoteL Y) = [45] ↔ lastL Y = [45] := by
  rw [lastL_iff, lastL_iff, quoteL_last]
  split
  · rename_i h; rw [h]; simp
  · exact Iff.rfl
theorem walk_true (Z : List (Tk × Tk)) : (∀ p ∈ Z, p.1 ∈ allT) → (Z.foldl (walkTok true) ([], [])).1 = quoteL (sq (Z.flatMap fun p => if p.1 = unkL then [] else mapsL p.1)) ∧ RelT (Z.foldl (walkTok true) ([], [])).2 (sq (Z.flatMap fun p => if p.1 = unkL then [] else mapsL p.1)) := by
  induction Z using snocInd with
  | h0 => intro _; exact ⟨rfl, rfl, rfl⟩
  | hs Z p ih =>
    intro h
    obtain ⟨i1, i2⟩ := ih fun q hq => h q (by simp [hq])
    have hp := h p (by simp)
    rw [List.foldl_append, List.flatMap_append, sq_app]
    simp only [List.foldl_cons, List.foldl_nil, List.flatMap_cons, List.flatMap_nil, List.append_nil]
    generalize Z.foldl (walkTok true) ([], []) = st at *
    generalize sq (Z.flatMap fun p => if p.1 = unkL then [] else mapsL p.1) = Y at *
    unfold walkTok
    by_cases hu : p.1 = unkL
    · rw [if_pos hu, if_pos hu]; exact ⟨i1, i2⟩
    · rw [if_neg hu, if_neg hu]
      rw [if_pos rfl]
      dsimp only
      obtain ⟨r1, r2⟩ := i2
      rcases all_cases hp with h' | h' | h'
      · exact absurd h' hu
      · have hs := step_dash h' (crT st.2) (nlT st.2) st.1
        rw [stepN_B, hs.1, hs.2.2, i1]
        simp only [List.foldl_cons, List.foldl_nil, sqA, true_and]
        unfold addDash
        by_cases hl : Y.getLast? = some 45
        · rw [if_pos ((lastL_quote Y).mpr ((lastL_iff _ _).mpr hl)), if_pos hl]
          exact ⟨rfl, relT_of hp hu _ (by rw [hs.2.2, hl]; rfl)⟩
        · rw [if_neg (fun q => hl ((lastL_iff _ _).mp ((lastL_quote Y).mp q))), if_neg hl]
          refine ⟨?_, relT_of hp hu _ (by rw [hs.2.2]; simp)⟩
          rw [quoteL_app]
          congr 1
          cases endNL Y <;> cases endCR Y <;> rfl
      · have hs := step_plain h' (crT st.2) (nlT st.2) st.1
        rw [stepN_B, hs.1, hs.2.1, i1, plain_fold _ _ hs.2.2.2, quoteL_app, r1, r2]
        refine ⟨rfl, relT_of hp hu _ ?_⟩
        have hne : ∀ t ∈ plainT, mapsL t ≠ [] := by decide
        have := hne _ h'
        rcases List.eq_nil_or_concat (mapsL p.1) with e | ⟨a, b, e⟩
        · exact absurd e this
        · rw [e]; simp
end Mine
end

section
set_option autoImplicit false
set_option maxRecDepth 100000
set_option maxHeartbeats 2000000
namespace Mine
open PySem PySem.W PySem.Calls PyProof.Rows

theorem rm_plain : ∀ (x r : List Nat), 117 ∉ x → repGo unkL [] 0 (x ++ r) = x ++ repGo unkL [] 0 r
  | [], r, _ => rfl
  | c :: x, r, h => by
    have hc : c ≠ 117 := fun q => h (by simp [q])
    have ih := rm_plain x r fun q => h (by simp [q])
    have e : unkL.isPrefixOf (c :: (x ++ r)) = false := by
      simp only [unkL, List.isPrefixOf, Bool.and_eq_false_iff]
      exact .inl (by simpa using fun q => hc q.symm)
    simp only [List.cons_append, repGo, e, ih]
    rfl
theorem rm_unk (r : List Nat) : repGo unkL [] 0 (unkL ++ r) = repGo unkL [] 0 r := by
  simp [unkL, repGo, List.isPrefixOf]
theorem rmU_flatMap (f : Tk × Tk → List Nat) : ∀ (Z : List (Tk × Tk)), (∀ p ∈ Z, (p.1 = unkL → f p = unkL) ∧ (p.1 ≠ unkL → 117 ∉ f p)) → rmU (Z.flatMap f) = Z.flatMap fun p => if p.1 = unkL then [] else f p
  | [], _ => rfl
  | p :: Z, h => by
    have ih := rmU_flatMap f Z fun q hq => h q (by simp [hq])
    have hp := h p (by simp)
    unfold rmU at *
    rw [List.flatMap_cons, List.flatMap_cons]
    by_cases hu : p.1 = unkL
    · rw [if_pos hu, hp.1 hu, rm_unk, ih]; rfl
    · rw [if_neg hu, rm_plain _ _ (hp.2 hu), ih]
theorem mapsL_flatMap {α : Type} (f : α → List Nat) (Z : List α) : mapsL (Z.flatMap f) = Z.flatMap fun p => mapsL (f p) := by
  unfold mapsL
  simp only [List.map_flatMap]

noncomputable def pairsL (ts : List Tk) : List (Tk × Tk) := (List.range ts.length).map (innerAt ts)
theorem le_last : ∀ (br : List Nat) (b0 : Nat), (b0 :: br).Pairwise (· < ·) → ∀ x ∈ b0 :: br, x ≤ (b0 :: br).getLastD 0
  | [], b0, _, x, hx => by simp at hx; simp [hx]
  | c :: r, b0, h, x, hx => by
    have h2 := List.pairwise_cons.mp h
    have ih := le_last r c h2.2
    have e : (b0 :: c :: r).getLastD 0 = (c :: r).getLastD 0 := by simp [List.getLastD]
    rw [e]
    rcases List.mem_cons.mp hx with rfl | hx
    · have := ih c (by simp)
      have := h2.1 c (by simp)
      omega
    · exact ih x hx
theorem inner_split (ts : List Tk) : ∃ A B, pairsL ts = A ++ innerL ts ++ B ∧ (∀ p ∈ A, white p.1 = true) ∧ (∀ p ∈ B, white p.1 = true) ∧
    ((innerL ts = [] ∧ B = []) ∨ ((∃ p r, innerL ts = p :: r ∧ white p.1 = false) ∧ ∃ r p, innerL ts = r ++ [p] ∧ white p.1 = false)) := by
  have hmem : ∀ k, k ∈ blackIdx ts ↔ k < ts.length ∧ white (ts.getD k []) = false := by
    intro k
    unfold blackIdx
    rw [List.mem_filter, List.mem_range]
    simp
  have hpw : (blackIdx ts).Pairwise (· < ·) := by
    unfold blackIdx
    exact List.Pairwise.filter _ (List.pairwise_lt_range)
  unfold pairsL innerL
  cases hb : blackIdx ts with
  | nil =>
    refine ⟨(List.range ts.length).map (innerAt ts), [], by simp, ?_, by simp, .inl ⟨rfl, rfl⟩⟩
    intro p hp
    obtain ⟨k, hk, rfl⟩ := List.mem_map.mp hp
    have hk' := List.mem_range.mp hk
    cases hw : white (ts.getD k []) with
    | true => exact hw
    | false =>
      have := (hmem k).mpr ⟨hk', hw⟩
      rw [hb] at this; cases this
  | cons b0 br =>
    dsimp only
    rw [hb] at hpw hmem
    generalize hbl : (b0 :: br).getLastD 0 = bl
    have h0 := (hmem b0).mp (by simp)
    have hl := (hmem bl).mp (by rw [← hbl]; simp [List.getLastD])
    have hle := le_last br b0 hpw
    rw [hbl] at hle
    have hb0l : b0 ≤ bl := hle b0 (by simp)
    have hr : List.range ts.length = List.range' 0 b0 ++ List.range' b0 (bl + 1 - b0) ++ List.range' (bl + 1) (ts.length - (bl + 1)) := by
      rw [List.range_eq_range']
      have e1 := List.range'_append (s := 0) (m := b0) (n := bl + 1 - b0) (step := 1)
      have e2 := List.range'_append (s := 0) (m := bl + 1) (n := ts.length - (bl + 1)) (step := 1)
      simp only [Nat.one_mul, Nat.zero_add] at e1 e2
      rw [e1, show b0 + (bl + 1 - b0) = bl + 1 by omega, e2]
      congr 1; omega
    refine ⟨(List.range' 0 b0).map (innerAt ts), (List.range' (bl + 1) (ts.length - (bl + 1))).map (innerAt ts), by rw [hr]; simp, ?_, ?_, .inr ⟨?_, ?_⟩⟩
    · intro p hp
      obtain ⟨k, hk, rfl⟩ := List.mem_map.mp hp
      have hk' := List.mem_range'_1.mp hk
      cases hw : white (ts.getD k []) with
      | true => exact hw
      | false =>
        have := (hmem k).mpr ⟨by omega, hw⟩
        rcases List.mem_cons.mp this with q | q
        · omega
        · have := (List.pairwise_cons.mp hpw).1 k q
          omega
    · intro p hp
      obtain ⟨k, hk, rfl⟩ := List.mem_map.mp hp
      have hk' := List.mem_range'_1.mp hk
      cases hw : white (ts.getD k []) with
      | true => exact hw
      | false =>
        have := hle k ((hmem k).mpr ⟨by omega, hw⟩)
        omega
    · refine ⟨innerAt ts b0, (List.range' (b0 + 1) (bl - b0)).map (innerAt ts), ?_, h0.2⟩
      rw [show bl + 1 - b0 = (bl - b0) + 1 by omega, List.range'_succ]
      rfl
    · refine ⟨(List.range' b0 (bl - b0)).map (innerAt ts), innerAt ts bl, ?_, hl.2⟩
      rw [show bl + 1 - b0 = (bl - b0) + 1 by omega, List.range'_concat]
      simp
      congr 1; omega
theorem dropWhile_all {α : Type} (q : α → Bool) : ∀ (a b : List α), (∀ x ∈ a, q x = true) → (a ++ b).dropWhile q = b.dropWhile q
  | [], b, _ => rfl
  | x :: r, b, h => by
    rw [List.cons_append, List.dropWhile_cons, if_pos (h x (by simp)), dropWhile_all q r b fun y hy => h y (by simp [hy])]
theorem dropWhile_head {α : Type} (q : α → Bool) (x : α) (r : List α) (h : q x = false) : (x :: r).dropWhile q = x :: r := by
  rw [List.dropWhile_cons, if_neg (by simp [h])]
theorem strip_mid (a b c : List Nat) (ha : ∀ x ∈ a, sp x = true) (hc : ∀ x ∈ c, sp x = true) (hb : (b = [] ∧ c = []) ∨ ((∃ x r, b = x :: r ∧ sp x = false) ∧ ∃ r x, b = r ++ [x] ∧ sp x = false)) : stripL (a ++ b ++ c) = b := by
  unfold stripL
  rw [List.append_assoc, dropWhile_all sp a _ ha]
  rcases hb with ⟨rfl, rfl⟩ | ⟨⟨x, r, e1, h1⟩, r', y, e2, h2⟩
  · rfl
  · have e3 : (b ++ c).dropWhile sp = b ++ c := by rw [e1]; exact dropWhile_head sp x _ h1
    rw [e3, List.reverse_append, dropWhile_all sp c.reverse _ (fun z hz => hc z (by simpa using hz))]
    have e4 : b.reverse.dropWhile sp = b.reverse := by
      rw [e2, List.reverse_append]
      exact dropWhile_head sp y _ h2
    rw [e4, List.reverse_reverse]
theorem strip_pairs (f : Tk × Tk → List Nat) (ts : List Tk) (hw : ∀ p ∈ pairsL ts, white p.1 = true → ∀ x ∈ f p, sp x = true)
    (hb : ∀ p ∈ pairsL ts, white p.1 = false → (∃ x r, f p = x :: r ∧ sp x = false) ∧ ∃ r x, f p = r ++ [x] ∧ sp x = false) : stripL ((pairsL ts).flatMap f) = (innerL ts).flatMap f := by
  obtain ⟨A, B, e, hA, hB, hI⟩ := inner_split ts
  rw [e] at hw hb ⊢
  rw [List.flatMap_append, List.flatMap_append]
  refine strip_mid _ _ _ ?_ ?_ ?_
  · intro x hx
    obtain ⟨p, hp, hxp⟩ := List.mem_flatMap.mp hx
    exact hw p (by simp [hp]) (hA p hp) x hxp
  · intro x hx
    obtain ⟨p, hp, hxp⟩ := List.mem_flatMap.mp hx
    exact hw p (by simp [hp]) (hB p hp) x hxp
  · rcases hI with ⟨h1, h2⟩ | ⟨⟨p, r, e1, w1⟩, r', q, e2, w2⟩
    · left; rw [h1, h2]; exact ⟨rfl, rfl⟩
    · right
      refine ⟨?_, ?_⟩
      · obtain ⟨⟨x, s, e3, h3⟩, _⟩ := hb p (by rw [e1]; simp) w1
        exact ⟨x, s ++ r.flatMap f, by rw [e1, List.flatMap_cons, e3]; rfl, h3⟩
      · obtain ⟨_, s, x, e3, h3⟩ := hb q (by rw [e2]; simp) w2
        exact ⟨r'.flatMap f ++ s, x, by rw [e2, List.flatMap_append, List.flatMap_cons, e3]; simp, h3⟩
noncomputable def lastT (ts : List Tk) : Tk := ts.getLast?.getD []
theorem pairs_snoc (ts : List Tk) (t : Tk) : pairsL (ts ++ [t]) = pairsL ts ++ [(t, lastT ts)] := by
  unfold pairsL
  rw [List.length_append, List.length_singleton, List.range_succ, List.map_append]
  congr 1
  · refine List.map_congr_left fun k hk => ?_
    have hk' := List.mem_range.mp hk
    unfold innerAt
    simp only [List.getD_eq_getElem?_getD]
    rw [List.getElem?_append_left hk', List.getElem?_append_left (by omega)]
  · simp only [List.map_cons, List.map_nil, innerAt, lastT, List.getD_eq_getElem?_getD]
    congr 2
    · simp
    · rcases List.eq_nil_or_concat ts with rfl | ⟨a, b, rfl⟩
      · rfl
      · simp
theorem pairs_mem (ts : List Tk) : ∀ p ∈ pairsL ts, p.1 ∈ ts := by
  induction ts using snocInd with
  | h0 => intro p hp; cases hp
  | hs ts t ih =>
    intro p hp
    rw [pairs_snoc] at hp
    rcases List.mem_append.mp hp with hp | hp
    · simp [ih p hp]
    · rw [List.mem_singleton.mp hp]; simp
theorem plain_pairs (ts : List Tk) : ts.flatten = (pairsL ts).flatMap (·.1) := by
  induction ts using snocInd with
  | h0 => rfl
  | hs ts t ih => rw [pairs_snoc, List.flatten_append, List.flatMap_append, ih]; rfl
theorem end_last (ts : List Tk) (h : ∀ t ∈ ts, t ∈ allT) : endCR ts.flatten = crT (lastT ts) ∧ endNL ts.flatten = nlT (lastT ts) := by
  rcases List.eq_nil_or_concat ts with rfl | ⟨a, b, rfl⟩
  · decide
  · have hb := h b (by simp)
    have key : ∀ t ∈ allT, t ≠ [] ∧ decide (t.getLast? = some 13) = crT t ∧ decide (t.getLast? = none ∨ t.getLast? = some 13 ∨ t.getLast? = some 10) = nlT t := by decide
    obtain ⟨k1, k2, k3⟩ := key b hb
    have e : (a ++ [b]).flatten.getLast? = b.getLast? := by
      rcases List.eq_nil_or_concat b with e | ⟨x, y, e⟩
      · exact absurd e k1
      · rw [e]; simp
    unfold endCR endNL
    rw [List.concat_eq_append, e, k2, k3]
    simp [lastT]
theorem quote_pairs (ts : List Tk) : (∀ t ∈ ts, t ∈ allT) → quoteL ts.flatten = (pairsL ts).flatMap fun p => qT p.1 p.2 := by
  induction ts using snocInd with
  | h0 => intro _; rfl
  | hs ts t ih =>
    intro h
    have ih := ih fun x hx => h x (by simp [hx])
    obtain ⟨e1, e2⟩ := end_last ts fun x hx => h x (by simp [hx])
    rw [pairs_snoc, List.flatten_append, List.flatMap_append, ← ih, quoteL_app, e1, e2]
    simp [qT, qB]
/-- black tokens' signs at both ends are black, white tokens' signs are white -/
noncomputable def endsOk (w : Bool) (l : List Nat) : Bool := if w then l.all sp else match l with
  | [] => false
  | x :: r => !sp x && !sp ((x :: r).getLastD 0)
theorem endsOk_white {l : List Nat} (h : endsOk true l = true) : ∀ x ∈ l, sp x = true := by
  intro x hx
  unfold endsOk at h
  simp only [if_true] at h
  exact List.all_eq_true.mp h x hx
theorem endsOk_black {l : List Nat} (h : endsOk false l = true) : (∃ x r, l = x :: r ∧ sp x = false) ∧ ∃ r x, l = r ++ [x] ∧ sp x = false := by
  unfold endsOk at h
  simp only [Bool.false_eq_true, if_false] at h
  cases l with
  | nil => cases h
  | cons x r =>
    simp only [Bool.and_eq_true, Bool.not_eq_true'] at h
    refine ⟨⟨x, r, rfl, h.1⟩, ?_⟩
    rcases List.eq_nil_or_concat (x :: r) with e | ⟨a, b, e⟩
    · cases e
    · rw [List.concat_eq_append] at e
      refine ⟨a, b, e, ?_⟩
      have := h.2
      rw [e] at this
      simpa [List.getLastD_eq_getLast?] using this
theorem ends_plain : ∀ t ∈ allT, endsOk (white t) t = true := by decide +kernel
theorem ends_quote : ∀ t ∈ allT, ∀ cr nl : Bool, endsOk (white t) (qB cr nl t) = true := by decide +kernel
theorem strip_plain (ts : List Tk) (h : ∀ t ∈ ts, t ∈ allT) : stripL ts.flatten = (innerL ts).flatMap (·.1) := by
  rw [plain_pairs]
  refine strip_pairs _ ts (fun p hp hw => ?_) fun p hp hw => ?_
  · have := ends_plain p.1 (h _ (pairs_mem ts p hp))
    rw [hw] at this
    exact endsOk_white this
  · have := ends_plain p.1 (h _ (pairs_mem ts p hp))
    rw [hw] at this
    exact endsOk_black this
theorem strip_quote (ts : List Tk) (h : ∀ t ∈ ts, t ∈ allT) : stripL (quoteL ts.flatten) = (innerL ts).flatMap fun p => qT p.1 p.2 := by
  rw [quote_pairs ts h]
  refine strip_pairs _ ts (fun p hp hw => ?_) fun p hp hw => ?_
  · have := ends_quote p.1 (h _ (pairs_mem ts p hp)) (crT p.2) (nlT p.2)
    rw [hw] at this
    exact endsOk_white this
  · have := ends_quote p.1 (h _ (pairs_mem ts p hp)) (crT p.2) (nlT p.2)
    rw [hw] at this
    exact endsOk_black this
theorem innerL_mem (ts : List Tk) : ∀ p ∈ innerL ts, p.1 ∈ ts := by
  obtain ⟨A, B, e, _⟩ := inner_split ts
  intro p hp
  exact pairs_mem ts p (by rw [e]; simp [hp])
theorem joinG_mem {α : Type} (s : α) : ∀ (xs : List (List α)) (a : α), a ∈ joinG [s] xs → a = s ∨ ∃ x ∈ xs, a ∈ x
  | [], a, h => by cases h
  | [x], a, h => .inr ⟨x, by simp, h⟩
  | x :: y :: r, a, h => by
    simp only [joinG, List.mem_append, List.mem_singleton] at h
    rcases h with (h | h) | h
    · exact .inr ⟨x, by simp, h⟩
    · exact .inl h
    · rcases joinG_mem s (y :: r) a h with h | ⟨z, hz, ha⟩
      · exact .inl h
      · exact .inr ⟨z, List.mem_cons_of_mem _ hz, ha⟩
theorem seqL_ok {tss : List (List Tk)} (h : okTs tss) : ∀ p ∈ seqL tss, p.1 ∈ allT := by
  intro p hp
  rcases joinG_mem seamP _ p hp with rfl | ⟨x, hx, hpx⟩
  · decide
  · obtain ⟨ts, hts, rfl⟩ := List.mem_map.mp hx
    exact h ts (List.mem_filter.mp hts).1 _ (innerL_mem ts p hpx)
theorem flat_empty {ts : List Tk} (h : ∀ t ∈ ts, t ∈ allT) : nonE ts.flatten = !ts.isEmpty := by
  cases ts with
  | nil => rfl
  | cons t r =>
    have key : ∀ t ∈ allT, t ≠ [] := by decide
    have := key t (h t (by simp))
    cases t with
    | nil => exact absurd rfl this
    | cons c x => rfl
theorem quote_empty (Y : List Nat) : nonE (quoteL Y) = nonE Y := by
  have h := quoteL_last Y
  unfold nonE
  rcases List.eq_nil_or_concat Y with rfl | ⟨a, b, e⟩
  · rfl
  · rw [List.concat_eq_append] at e
    subst e
    cases hq : quoteL (a ++ [b]) with
    | nil =>
      rw [hq] at h
      simp at h
      split at h <;> cases h
    | cons c r => simp
theorem filter_map_ne {tss : List (List Tk)} (f : List Tk → List Nat) (hf : ∀ ts ∈ tss, nonE (f ts) = !ts.isEmpty) : (tss.map f).filter nonE = (tss.filter fun ts => !ts.isEmpty).map f := by
  rw [List.filter_map]
  congr 1
  refine List.filter_congr fun ts hts => ?_
  exact hf ts hts
theorem seq_flat (f : Tk × Tk → List Nat) (hs : f seamP = [45]) (tss : List (List Tk)) : joinL [45] ((tss.filter fun ts => !ts.isEmpty).map fun ts => (innerL ts).flatMap f) = (seqL tss).flatMap f := by
  unfold seqL
  rw [joinG_flatMap, List.map_map]
  have : [seamP].flatMap f = [45] := by simp [hs]
  rw [this]
  rfl
theorem plat_plain {tss : List (List Tk)} (h : okTs tss) : platL (tss.map List.flatten) = dropT (sq ((seqL tss).flatMap fun p => if p.1 = unkL then [] else mapsL p.1)) := by
  unfold platL
  rw [filter_map_ne _ fun ts hts => flat_empty (h ts hts), List.map_map]
  have e : ((tss.filter fun ts => !ts.isEmpty).map (stripL ∘ List.flatten)) = (tss.filter fun ts => !ts.isEmpty).map fun ts => (innerL ts).flatMap fun p => p.1 :=
    List.map_congr_left fun ts hts => strip_plain ts (h ts (List.mem_filter.mp hts).1)
  rw [e, seq_flat (fun p => p.1) rfl, mapsL_flatMap, rmU_flatMap]
  intro p hp
  have key : ∀ t ∈ allT, (t = unkL → mapsL t = unkL) ∧ (t ≠ unkL → 117 ∉ mapsL t) := by decide
  exact key _ (seqL_ok h p hp)
theorem plat_quote {tss : List (List Tk)} (h : okTs tss) : platL ((tss.map List.flatten).map quoteL) = dropT (sq ((seqL tss).flatMap fun p => if p.1 = unkL then [] else mapsL (qT p.1 p.2))) := by
  unfold platL
  rw [List.map_map, filter_map_ne (quoteL ∘ List.flatten) fun ts hts => (quote_empty _).trans (flat_empty (h ts hts)), List.map_map]
  have e : ((tss.filter fun ts => !ts.isEmpty).map (stripL ∘ (quoteL ∘ List.flatten))) = (tss.filter fun ts => !ts.isEmpty).map fun ts => (innerL ts).flatMap fun p => qT p.1 p.2 :=
    List.map_congr_left fun ts hts => strip_quote ts (h ts (List.mem_filter.mp hts).1)
  rw [e, seq_flat (fun p => qT p.1 p.2) (by decide), mapsL_flatMap, rmU_flatMap]
  intro p hp
  have key : ∀ t ∈ allT, ∀ cr nl : Bool, (t = unkL → mapsL (qB cr nl t) = unkL) ∧ (t ≠ unkL → 117 ∉ mapsL (qB cr nl t)) := by decide
  exact key _ (seqL_ok h p hp) _ _
theorem quote_drop (X : List Nat) : quoteL (dropT (sq X)) = if lastL (quoteL (sq X)) = [45] then (quoteL (sq X)).dropLast else quoteL (sq X) := by
  rw [dropT_sq]
  by_cases hl : lastL (sq X) = [45]
  · rw [if_pos hl, if_pos ((lastL_quote _).mpr hl)]
    rw [lastL_iff] at hl
    generalize sq X = Y at *
    rcases List.eq_nil_or_concat Y with rfl | ⟨a, b, e⟩
    · cases hl
    · rw [List.concat_eq_append] at e
      subst e
      have : b = 45 := by simpa using hl
      subst this
      have e2 : dots (endNL a) (crlf (endCR a) [45]) = [45] := by cases endNL a <;> cases endCR a <;> rfl
      rw [quoteL_app, e2]
      simp
  · rw [if_neg hl, if_neg fun q => hl ((lastL_quote _).mp q)]
theorem law_named {tss : List (List Tk)} (h : okTs tss) : quoteL (platL (tss.map List.flatten)) = walkL true tss := by
  rw [plat_plain h, quote_drop]
  unfold walkL
  rw [walk_seq, (walk_true _ (seqL_ok h)).1]
theorem law_sent {tss : List (List Tk)} (h : okTs tss) : platL ((tss.map List.flatten).map quoteL) = walkL false tss := by
  rw [plat_quote h, dropT_sq]
  unfold walkL
  rw [walk_seq, walk_false _ (seqL_ok h)]
end Mine
end

section
set_option autoImplicit false
set_option maxRecDepth 100000
set_option maxHeartbeats 2000000
namespace Mine
open PySem PySem.W PySem.Calls PyProof.Rows

/-! split by the pattern, as a machine over the signs: what is told so far, and the open run -/
abbrev Run := Option (Bool × List Nat)
section
variable {β : Type} (it : List Nat → List β)
noncomputable def fl : Run → List β
  | none => []
  | some (_, x) => it x
noncomputable def stepM (st : List β × Run) (c : Nat) : List β × Run :=
  if isSep c = true then (st.1 ++ fl it st.2, none)
  else match st.2 with
    | some (k, x) => if k = isDig c then (st.1, some (k, x ++ [c])) else (st.1 ++ it x, some (isDig c, [c]))
    | none => (st.1, some (isDig c, [c]))
noncomputable def fin (st : List β × Run) : List β := st.1 ++ fl it st.2
noncomputable def V (cur : Run) (l : List Nat) : List β := fin it (l.foldl (stepM it) ([], cur))
theorem stepM_out (o : List β) (cur : Run) (c : Nat) : stepM it (o, cur) c = (o ++ (stepM it ([], cur) c).1, (stepM it ([], cur) c).2) := by
  unfold stepM
  split
  · simp
  · cases cur with
    | none => simp
    | some kx =>
      obtain ⟨k, x⟩ := kx
      dsimp only
      split <;> simp
theorem fold_out : ∀ (l : List Nat) (o : List β) (cur : Run), l.foldl (stepM it) (o, cur) = (o ++ (l.foldl (stepM it) ([], cur)).1, (l.foldl (stepM it) ([], cur)).2)
  | [], o, cur => by simp
  | c :: r, o, cur => by
    rw [List.foldl_cons, List.foldl_cons, stepM_out]
    generalize stepM it ([], cur) c = s1
    obtain ⟨o1, c1⟩ := s1
    dsimp only
    rw [fold_out r (o ++ o1), fold_out r o1]
    simp
theorem fin_out (l : List Nat) (o : List β) (cur : Run) : fin it (l.foldl (stepM it) (o, cur)) = o ++ V it cur l := by
  rw [fold_out]
  unfold V fin
  simp
theorem V_nil (cur : Run) : V it cur [] = fl it cur := by simp [V, fin]
theorem V_sep {c : Nat} (h : isSep c = true) (cur : Run) (r : List Nat) : V it cur (c :: r) = fl it cur ++ V it none r := by
  show fin it (r.foldl (stepM it) (stepM it ([], cur) c)) = _
  have e : stepM it ([], cur) c = (fl it cur, none) := by unfold stepM; rw [if_pos h]; simp
  rw [e, fin_out]
theorem V_new {c : Nat} (h : isSep c = false) (r : List Nat) : V it none (c :: r) = V it (some (isDig c, [c])) r := by
  show fin it (r.foldl (stepM it) (stepM it ([], none) c)) = _
  have e : stepM it ([], none) c = ([], some (isDig c, [c])) := by unfold stepM; rw [if_neg (by simp [h])]
  rw [e]; rfl
theorem V_more {c : Nat} (h : isSep c = false) (x r : List Nat) : V it (some (isDig c, x)) (c :: r) = V it (some (isDig c, x ++ [c])) r := by
  show fin it (r.foldl (stepM it) (stepM it ([], some (isDig c, x)) c)) = _
  have e : stepM it ([], some (isDig c, x)) c = ([], some (isDig c, x ++ [c])) := by unfold stepM; rw [if_neg (by simp [h])]; simp
  rw [e]; rfl
theorem V_cut {k : Bool} (x r : List Nat) (h : ∀ c, r.head? = some c → isSep c = true ∨ isDig c ≠ k) : V it (some (k, x)) r = it x ++ V it none r := by
  cases r with
  | nil => rw [V_nil, V_nil]; simp [fl]
  | cons c r =>
    cases hs : isSep c with
    | true => rw [V_sep it hs, V_sep it hs]; simp [fl]
    | false =>
      have hk : isDig c ≠ k := by
        rcases h c rfl with q | q
        · rw [hs] at q; cases q
        · exact q
      rw [V_new it hs]
      show fin it (r.foldl (stepM it) (stepM it ([], some (k, x)) c)) = _
      have e : stepM it ([], some (k, x)) c = (it x, some (isDig c, [c])) := by
        unfold stepM; rw [if_neg (by simp [hs])]
        dsimp only
        rw [if_neg (fun q => hk q.symm)]
        simp
      rw [e, fin_out]
theorem V_run (k : Bool) : ∀ (x y r : List Nat), (∀ c ∈ x, isSep c = false ∧ isDig c = k) → V it (some (k, y)) (x ++ r) = V it (some (k, y ++ x)) r
  | [], y, r, _ => by simp
  | c :: x, y, r, h => by
    have hc := h c (by simp)
    obtain ⟨h1, h2⟩ := hc
    subst h2
    rw [List.cons_append, V_more it h1, V_run (isDig c) x _ r fun d hd => h d (by simp [hd])]
    simp
theorem V_start (k : Bool) (x r : List Nat) (hx : x ≠ []) (h : ∀ c ∈ x, isSep c = false ∧ isDig c = k) : V it none (x ++ r) = V it (some (k, x)) r := by
  cases x with
  | nil => exact absurd rfl hx
  | cons c x =>
    obtain ⟨h1, h2⟩ := h c (by simp)
    subst h2
    rw [List.cons_append, V_new it h1, V_run it (isDig c) x _ r fun d hd => h d (by simp [hd])]
    rfl
theorem V_other (h0 : it [] = []) (x r : List Nat) (hx : ∀ c ∈ x, isSep c = false ∧ isDig c = false) (hr : ∀ c, r.head? = some c → isSep c = true ∨ isDig c ≠ false) : V it none (x ++ r) = it x ++ V it none r := by
  by_cases he : x = []
  · rw [he, h0]; rfl
  · rw [V_start it false x r he hx, V_cut it x r hr]
end
theorem sep_dig {c : Nat} (h : isSep c = true) : isDig c = false := by
  unfold isSep at h
  unfold isDig
  simp only [Bool.or_eq_true, beq_iff_eq] at h
  rw [Bool.and_eq_false_iff]
  rcases h with ((h | h) | h) | h <;> subst h <;> decide
theorem mem_tw (q : Nat → Bool) : ∀ (l : List Nat) (c : Nat), c ∈ l.takeWhile q → q c = true
  | [], c, h => by cases h
  | d :: r, c, h => by
    rw [List.takeWhile_cons] at h
    split at h
    · rename_i hd
      rcases List.mem_cons.mp h with rfl | h
      · exact hd
      · exact mem_tw q r c h
    · cases h
theorem head_dw (q : Nat → Bool) : ∀ (l : List Nat) (c : Nat), (l.dropWhile q).head? = some c → q c = false
  | [], c, h => by cases h
  | d :: r, c, h => by
    rw [List.dropWhile_cons] at h
    split at h
    · exact head_dw q r c h
    · rename_i hd
      injection h with h
      subst h
      simpa using hd
theorem find3_none : ∀ (l : List Nat), find3 l = none → ∀ c ∈ l, isSep c = false ∧ isDig c = false
  | [], _, c, hc => by cases hc
  | d :: r, h, c, hc => by
    simp only [find3] at h
    split at h
    · cases h
    · split at h
      · cases h
      · rename_i h1 h2
        have h3 : find3 r = none := by
          cases e : find3 r with
          | none => rfl
          | some x => rw [e] at h; cases h
        rcases List.mem_cons.mp hc with rfl | hc
        · exact ⟨by simpa using h2, by simpa using h1⟩
        · exact find3_none r h3 c hc
theorem find3_some : ∀ (l : List Nat) (a b : Nat), find3 l = some (a, b) → ∃ x m r, l = x ++ m ++ r ∧ x.length = a ∧ m.length = b ∧ (∀ c ∈ x, isSep c = false ∧ isDig c = false) ∧
    ((m ≠ [] ∧ (∀ c ∈ m, isSep c = false ∧ isDig c = true) ∧ ∀ c, r.head? = some c → isDig c = false) ∨ ∃ c, m = [c] ∧ isSep c = true)
  | [], a, b, h => by cases h
  | d :: r, a, b, h => by
    simp only [find3] at h
    split at h
    · rename_i hd
      injection h with h
      injection h with h1 h2
      subst h1; subst h2
      have hsep : ∀ c, isDig c = true → isSep c = false := fun c hc => by
        cases hs : isSep c with
        | false => rfl
        | true => rw [sep_dig hs] at hc; cases hc
      refine ⟨[], (d :: r).takeWhile isDig, (d :: r).dropWhile isDig, ?_, rfl, rfl, by simp, .inl ⟨?_, ?_, ?_⟩⟩
      · simp [List.takeWhile_append_dropWhile]
      · rw [List.takeWhile_cons, if_pos hd]; simp
      · intro c hc
        have : isDig c = true := mem_tw _ _ _ hc
        exact ⟨hsep c this, this⟩
      · exact head_dw isDig _
    · rename_i hd
      split at h
      · rename_i hs
        injection h with h
        injection h with h1 h2
        subst h1; subst h2
        exact ⟨[], [d], r, rfl, rfl, rfl, by simp, .inr ⟨d, rfl, hs⟩⟩
      · rename_i hs
        obtain ⟨⟨a', b'⟩, e, e2⟩ := Option.map_eq_some_iff.mp h
        injection e2 with e3 e4
        obtain ⟨x, m, q, h1, h2, h3, h4, h5⟩ := find3_some r a' b' e
        refine ⟨d :: x, m, q, by rw [h1]; rfl, by simp [h2]; exact e3, by rw [h3]; exact e4, ?_, h5⟩
        intro c hc
        rcases List.mem_cons.mp hc with rfl | hc
        · exact ⟨by simpa using hs, by simpa using hd⟩
        · exact h4 c hc
theorem split_V {β : Type} (it : List Nat → List β) (h0 : it [] = []) (hs : ∀ c, isSep c = true → it [c] = []) (l : List Nat) : ∀ (n start : Nat), start ≤ l.length → l.length - start ≤ n → (split3 l n start).flatMap it = V it none (l.drop start) := by
  intro n
  induction n with
  | zero =>
    intro start h1 h2
    have e : l.drop start = [] := by simp; omega
    simp [split3, e, h0, V_nil, fl]
  | succ n ih =>
    intro start h1 h2
    simp only [split3, srch3]
    cases hf : find3 (l.drop start) with
    | none =>
      simp only [Option.map_none, List.flatMap_cons, List.flatMap_nil, List.append_nil]
      have := V_other it h0 (l.drop start) [] (find3_none _ hf) (by simp)
      rw [List.append_nil] at this
      rw [this, V_nil]
      simp [fl]
    | some ab =>
      obtain ⟨a, b⟩ := ab
      obtain ⟨x, m, r, e1, e2, e3, hx, hm⟩ := find3_some _ a b hf
      have hlt := find3_lt _ _ _ hf
      have hlen : (l.drop start).length = l.length - start := by simp
      simp only [Option.map_some, List.flatMap_cons]
      rw [ih (start + a + b) (by omega) (by omega)]
      have t1 : (l.drop start).take (start + a - start) = x := by
        rw [e1, show start + a - start = a by omega, ← e2, List.append_assoc]; simp
      have t2 : (l.drop (start + a)).take (start + a + b - (start + a)) = m := by
        rw [← List.drop_drop, e1, show start + a + b - (start + a) = b by omega, ← e2, ← e3, List.append_assoc]; simp
      have t3 : l.drop (start + a + b) = r := by
        rw [show start + a + b = start + (a + b) by omega, ← List.drop_drop, e1, ← e2, ← e3]; simp
      rw [t1, t2, t3, e1, List.append_assoc]
      rcases hm with ⟨hm1, hm2, hm3⟩ | ⟨c, rfl, hc⟩
      · rw [V_other it h0 x (m ++ r) hx, V_start it true m r hm1 hm2, V_cut it m r]
        · intro c hc
          right; rw [hm3 c hc]; decide
        · intro c hc
          right
          cases m with
          | nil => exact absurd rfl hm1
          | cons d m =>
            injection hc with hc
            subst hc
            rw [(hm2 d (by simp)).2]; decide
      · rw [V_other it h0 x ([c] ++ r) hx]
        · show _ = it x ++ V it none (c :: r)
          rw [V_sep it hc, hs c hc]; simp [fl]
        · intro d hd
          injection hd with hd
          subst hd
          exact .inl hc
end Mine
end

section
set_option autoImplicit false
set_option maxRecDepth 100000
set_option maxHeartbeats 2000000
namespace Mine
open PySem PySem.W PySem.Calls PyProof.Rows PySem.NumText

theorem skips_mem {x : List Nat} (h : skips x = true) : ∀ c ∈ x, c ∈ [46, 95, 43, 45] := by
  unfold skips Txt.contains at h
  obtain ⟨i, h1, h2⟩ := (StrLaws.found_iff _ _).mp h
  rw [StrLaws.subAt_eq, S_list, S_list, S_len] at h2
  have e := eq_of_beq h2
  intro c hc
  rw [← e] at hc
  exact List.mem_of_mem_drop (List.mem_of_mem_take hc)
theorem digits_none {cs : List Nat} (h : ∀ c ∈ cs, isDig c = false) : digits? 10 cs = none := by
  cases cs with
  | nil => rfl
  | cons c r =>
    have hc := h c (by simp)
    have e : NumText.step 10 ((#[] : Array Nat), false) c = none := by
      unfold NumText.step
      by_cases h95 : (c == 95) = true
      · rw [if_pos h95]; rfl
      · rw [if_neg h95]
        unfold digit?
        unfold isDig at hc
        rw [if_neg (by rw [hc]; decide)]
        split
        · rename_i d hd
          split at hd
          · rename_i hr
            injection hd with hd
            simp only [Bool.and_eq_true, decide_eq_true_eq] at hr
            rw [if_neg (by omega)]
          · split at hd
            · rename_i hr
              injection hd with hd
              simp only [Bool.and_eq_true, decide_eq_true_eq] at hr
              rw [if_neg (by omega)]
            · cases hd
        · rfl
    unfold digits?
    rw [List.foldlM_cons, e]
    rfl
theorem mem_dw (q : Nat → Bool) : ∀ (l : List Nat) (c : Nat), c ∈ l.dropWhile q → c ∈ l := fun l c h => (List.dropWhile_sublist q).mem h
theorem core_mem (t : List Nat) : ∀ c ∈ core t, c ∈ t := by
  intro c hc
  unfold core at hc
  rw [List.mem_reverse] at hc
  have h1 := mem_dw _ _ _ hc
  rw [List.mem_reverse] at h1
  have h2 : c ∈ t.dropWhile blank := by
    unfold sign at h1
    split at h1
    · rename_i e; rw [e]; exact List.mem_cons_of_mem _ h1
    · rename_i e; rw [e]; exact List.mem_cons_of_mem _ h1
    · exact h1
  exact mem_dw _ _ _ h2
theorem int_none {x : List Nat} (h : ∀ c ∈ x, isDig c = false ∧ c < 128) : PySem.intText? (S x) = none := by
  have ht : numTextOf (S x) = x := by
    have ha : (S x).cps.all (· < 128) = true := by
      rw [Array.all_eq_true']
      intro c hc
      have hc' : c ∈ x := by simpa [S] using hc
      simpa using (h c hc').2
    unfold numTextOf
    rw [if_pos ha, S_list]
  unfold PySem.intText?
  have hn : digits? 10 (core (numSeenOf (S x))) = none := by
    refine digits_none fun c hc => ?_
    have h1 := core_mem _ c hc
    unfold numSeenOf at h1
    rw [ht] at h1
    exact (h c ((List.takeWhile_sublist _).mem h1)).1
  rw [hn]
  split <;> rfl
theorem it_nil (P : Params) : verItem P [] = [] := by
  unfold verItem
  rw [if_pos (by decide +kernel)]
theorem it_sep (P : Params) (c : Nat) (h : isSep c = true) : verItem P [c] = [] := by
  have k : ∀ c ∈ [43, 45, 46, 95], skips [c] = true := by decide +kernel
  unfold verItem
  rw [if_pos]
  refine k c ?_
  unfold isSep at h
  simp only [Bool.or_eq_true, beq_iff_eq] at h
  simp only [List.mem_cons, List.not_mem_nil, or_false]
  rcases h with ((h | h) | h) | h <;> simp [h]
theorem verL_V (P : Params) (l : List Nat) : verL P l = V (verItem P) none l := by
  unfold verL
  rw [split_V (verItem P) (it_nil P) (it_sep P) l l.length 0 (Nat.zero_le _) (Nat.sub_le _ _)]
  rfl
/-- the returns that a version keeps -/
noncomputable def cV (l : List VI) : Nat := (l.map fun v => match v with | .inl _ => 0 | .inr x => x.count 13).sum
theorem cV_app (a b : List VI) : cV (a ++ b) = cV a + cV b := by simp [cV]
theorem it_count (P : Params) (k : Bool) (x : List Nat) (h : ∀ c ∈ x, isSep c = false ∧ isDig c = k ∧ c < 128) : cV (verItem P x) = x.count 13 := by
  unfold verItem
  split
  · rename_i hs
    have : 13 ∉ x := fun q => by
      have := skips_mem hs 13 q
      revert this; decide
    rw [List.count_eq_zero.mpr this]; rfl
  · cases k with
    | true =>
      have h13 : 13 ∉ x := fun q => by
        have := (h 13 q).2.1
        revert this; decide
      split <;> simp [cV, List.count_eq_zero.mpr h13]
    | false =>
      rw [int_none fun c hc => (h c hc).2]
      simp [cV]
noncomputable def okRun : Run → Prop
  | none => True
  | some (k, x) => ∀ c ∈ x, isSep c = false ∧ isDig c = k ∧ c < 128
noncomputable def cntR : Run → Nat
  | none => 0
  | some (_, x) => x.count 13
theorem fl_count (P : Params) (cur : Run) (h : okRun cur) : cV (fl (verItem P) cur) = cntR cur := by
  cases cur with
  | none => rfl
  | some kx => obtain ⟨k, x⟩ := kx; exact it_count P k x h
theorem V_count (P : Params) : ∀ (l : List Nat) (cur : Run), okRun cur → (∀ c ∈ l, c < 128) → cV (V (verItem P) cur l) = cntR cur + l.count 13
  | [], cur, h, _ => by rw [V_nil, fl_count P cur h]; rfl
  | c :: r, cur, h, hl => by
    have hr : ∀ d ∈ r, d < 128 := fun d hd => hl d (by simp [hd])
    have hc := hl c (by simp)
    cases hs : isSep c with
    | true =>
      have h13 : c ≠ 13 := fun q => by subst q; revert hs; decide
      rw [V_sep _ hs, cV_app, fl_count P cur h, V_count P r none trivial hr, List.count_cons]
      simp [cntR, h13]
    | false =>
      have hnew : okRun (some (isDig c, [c])) := by
        intro d hd; rw [List.mem_singleton.mp hd]; exact ⟨hs, rfl, hc⟩
      have e1 : cV (V (verItem P) none (c :: r)) = (c :: r).count 13 := by
        rw [V_new _ hs, V_count P r _ hnew hr, List.count_cons]
        simp only [cntR, List.count_singleton]
        omega
      cases cur with
      | none => rw [e1]; simp [cntR]
      | some kx =>
        obtain ⟨k, x⟩ := kx
        by_cases hk : k = isDig c
        · subst hk
          have hmore : okRun (some (isDig c, x ++ [c])) := by
            intro d hd
            rcases List.mem_append.mp hd with hd | hd
            · exact h d hd
            · rw [List.mem_singleton.mp hd]; exact ⟨hs, rfl, hc⟩
          rw [V_more _ hs, V_count P r _ hmore hr, List.count_cons]
          simp only [cntR, List.count_append, List.count_singleton]
          omega
        · have hcut : ∀ d, (c :: r).head? = some d → isSep d = true ∨ isDig d ≠ k := by
            intro d hd
            injection hd with hd
            subst hd
            exact .inr fun q => hk q.symm
          rw [V_cut _ x (c :: r) hcut, cV_app, e1, it_count P k x h]
          rfl
theorem ver_count (P : Params) (l : List Nat) (h : ∀ c ∈ l, c < 128) : cV (verL P l) = l.count 13 := by
  rw [verL_V, V_count P l none trivial h]
  simp [cntR]
end Mine
end

section
set_option autoImplicit false
set_option maxRecDepth 100000
set_option maxHeartbeats 2000000
namespace Mine
open PySem PySem.W PySem.Calls PyProof.Rows

/-- a feed behind a return in its own text: the token ahead of it in the walk is that return -/
noncomputable def Ch : Tk → List (Tk × Tk) → Prop
  | _, [] => True
  | prev, p :: r => (p.1 = [10] → p.2 = [13] → prev = [13]) ∧ Ch p.1 r
theorem Ch_app : ∀ (a b : List (Tk × Tk)) (prev : Tk), Ch prev a → (∀ q, Ch q b) → Ch prev (a ++ b)
  | [], b, prev, _, h => h prev
  | p :: r, b, prev, h1, h => ⟨h1.1, Ch_app r b p.1 h1.2 h⟩
theorem Ch_range (ts : List Tk) : ∀ (m k : Nat), 0 < k → Ch (ts.getD (k - 1) []) ((List.range' k m).map (innerAt ts))
  | 0, k, _ => trivial
  | m + 1, k, hk => by
    rw [List.range'_succ, List.map_cons]
    refine ⟨fun _ h => ?_, ?_⟩
    · simp only [innerAt] at h
      rw [if_pos hk] at h
      exact h
    · have := Ch_range ts m (k + 1) (by omega)
      rw [Nat.add_sub_cancel] at this
      exact this
theorem Ch_inner (ts : List Tk) (prev : Tk) : Ch prev (innerL ts) := by
  unfold innerL
  cases hb : blackIdx ts with
  | nil => trivial
  | cons b0 br =>
    dsimp only
    have h0 : white (ts.getD b0 []) = false := by
      have : b0 ∈ blackIdx ts := by rw [hb]; simp
      unfold blackIdx at this
      simpa using (List.mem_filter.mp this).2
    generalize (b0 :: br).getLastD 0 + 1 - b0 = m
    cases m with
    | zero => trivial
    | succ m =>
      rw [List.range'_succ, List.map_cons]
      refine ⟨fun h _ => ?_, ?_⟩
      · simp only [innerAt] at h
        rw [h] at h0
        exact absurd h0 (by decide)
      · have := Ch_range ts m (b0 + 1) (by omega)
        rw [Nat.add_sub_cancel] at this
        exact this
theorem Ch_join : ∀ (xs : List (List Tk)) (prev : Tk), Ch prev (joinG [seamP] (xs.map innerL))
  | [], prev => trivial
  | [x], prev => Ch_inner x prev
  | x :: y :: r, prev => by
    have ih := Ch_join (y :: r)
    show Ch prev (innerL x ++ [seamP] ++ joinG [seamP] ((y :: r).map innerL))
    rw [List.append_assoc]
    refine Ch_app _ _ _ (Ch_inner x prev) fun q => ⟨fun h => ?_, ih _⟩
    exact absurd h (by decide)
theorem Ch_seq (tss : List (List Tk)) (prev : Tk) : Ch prev (seqL tss) := Ch_join _ prev

section
variable {β : Type} (it : List Nat → List β)
noncomputable def runS (l : List Nat) : List β × Run := l.foldl (stepM it) ([], none)
theorem runS_app (a b : List Nat) : runS it (a ++ b) = b.foldl (stepM it) (runS it a) := by unfold runS; rw [List.foldl_append]
theorem V_runS (l : List Nat) : V it none l = fin it (runS it l) := rfl
theorem dot_twice (st : List β × Run) : stepM it (stepM it st 46) 46 = stepM it st 46 := by
  have e : ∀ st : List β × Run, stepM it st 46 = (st.1 ++ fl it st.2, none) := fun st => by unfold stepM; rw [if_pos (by decide)]
  rw [e, e]; simp [fl]
/-- the two walks, side by side -/
noncomputable def Inv (a b : List Nat) : Prop := a.count 13 ≤ b.count 13 ∧ (a.count 13 = b.count 13 → runS it a = runS it b ∧ (a.getLast? = some 45 ↔ b.getLast? = some 45))
theorem Inv_dash {a b : List Nat} (h : Inv it a b) : Inv it (addDash a) (addDash b) := by
  have hc : ∀ l : List Nat, (addDash l).count 13 = l.count 13 := fun l => by unfold addDash; split <;> simp
  have hl : ∀ l : List Nat, (addDash l).getLast? = some 45 := fun l => by
    unfold addDash
    split
    · rename_i h; exact (lastL_iff _ _).mp h
    · simp
  refine ⟨by rw [hc, hc]; exact h.1, fun e => ?_⟩
  rw [hc, hc] at e
  obtain ⟨h1, h2⟩ := h.2 e
  refine ⟨?_, by rw [hl, hl]⟩
  unfold addDash
  by_cases ha : a.getLast? = some 45
  · rw [if_pos ((lastL_iff _ _).mpr ha), if_pos ((lastL_iff _ _).mpr (h2.mp ha))]; exact h1
  · rw [if_neg (fun q => ha ((lastL_iff _ _).mp q)), if_neg (fun q => ha (h2.mpr ((lastL_iff _ _).mp q))), runS_app, runS_app, h1]
theorem Inv_plain {a b : List Nat} (h : Inv it a b) {tok : Tk} (ht : tok ∈ plainT) (c1 n1 c2 n2 : Bool) (hh : tok = [10] → c2 = true → c1 = true) : Inv it (a ++ mapsL (qB c1 n1 tok)) (b ++ mapsL (qB c2 n2 tok)) := by
  have key : ∀ t ∈ plainT, ∀ c1 n1 c2 n2 : Bool, (t = [10] → c2 = true → c1 = true) → (mapsL (qB c1 n1 t)).count 13 ≤ (mapsL (qB c2 n2 t)).count 13 ∧
      ((mapsL (qB c1 n1 t)).count 13 = (mapsL (qB c2 n2 t)).count 13 → mapsL (qB c1 n1 t) = mapsL (qB c2 n2 t) ∨ ((mapsL (qB c1 n1 t) = [46] ∨ mapsL (qB c1 n1 t) = [46, 46]) ∧ (mapsL (qB c2 n2 t) = [46] ∨ mapsL (qB c2 n2 t) = [46, 46]))) := by decide
  obtain ⟨k1, k2⟩ := key tok ht c1 n1 c2 n2 hh
  generalize mapsL (qB c1 n1 tok) = e1 at *
  generalize mapsL (qB c2 n2 tok) = e2 at *
  have h1 := h.1
  refine ⟨by rw [List.count_append, List.count_append]; omega, fun e => ?_⟩
  rw [List.count_append, List.count_append] at e
  have ea : a.count 13 = b.count 13 := by omega
  obtain ⟨r1, r2⟩ := h.2 ea
  rcases k2 (by omega) with q | ⟨q1, q2⟩
  · subst q
    refine ⟨by rw [runS_app, runS_app, r1], ?_⟩
    rcases List.eq_nil_or_concat e1 with rfl | ⟨x, y, rfl⟩
    · simpa using r2
    · rw [List.concat_eq_append, ← List.append_assoc, ← List.append_assoc]; simp
  · have hr : ∀ (l e : List Nat), (e = [46] ∨ e = [46, 46]) → runS it (l ++ e) = stepM it (runS it l) 46 ∧ (l ++ e).getLast? = some 46 := by
      intro l e he
      rw [runS_app]
      rcases he with rfl | rfl
      · exact ⟨rfl, by simp⟩
      · exact ⟨by simp only [List.foldl_cons, List.foldl_nil]; exact dot_twice it _, by simp⟩
    obtain ⟨a1, a2⟩ := hr a e1 q1
    obtain ⟨b1, b2⟩ := hr b e2 q2
    rw [a1, b1, a2, b2, r1]
    exact ⟨rfl, Iff.rfl⟩
theorem inv_fold : ∀ (Z : List (Tk × Tk)) (prev : Tk) (s1 s2 : List Nat × Tk), (∀ p ∈ Z, p.1 ∈ allT) → Ch prev Z → (prev = [13] → s1.2 = [13]) → Inv it s1.1 s2.1 → Inv it (Z.foldl (walkTok true) s1).1 (Z.foldl (walkTok false) s2).1
  | [], _, _, _, _, _, _, h => h
  | p :: Z, prev, s1, s2, hZ, hC, hl, h => by
    have hp := hZ p (by simp)
    have hZ' : ∀ q ∈ Z, q.1 ∈ allT := fun q hq => hZ q (by simp [hq])
    rw [List.foldl_cons, List.foldl_cons]
    refine inv_fold Z p.1 _ _ hZ' hC.2 (fun e => ?_) ?_
    · unfold walkTok
      rw [if_neg (by rw [e]; decide)]
      exact e
    · unfold walkTok
      by_cases hu : p.1 = unkL
      · rw [if_pos hu, if_pos hu]; exact h
      · rw [if_neg hu, if_neg hu, if_pos rfl, if_neg (by decide)]
        dsimp only
        rw [stepN_B, stepN_B]
        rcases all_cases hp with h' | h' | h'
        · exact absurd h' hu
        · rw [(step_dash h' _ _ _).1, (step_dash h' _ _ _).1]
          exact Inv_dash it h
        · rw [(step_plain h' _ _ _).1, (step_plain h' _ _ _).1]
          refine Inv_plain it h h' _ _ _ _ fun e1 e2 => ?_
          have e3 : p.2 = [13] := of_decide_eq_true e2
          exact decide_eq_true (hl (hC.1 e1 e3))
end
/-- the name, its last hyphen off -/
noncomputable def trimD (nm : List Nat) : List Nat := if lastL nm = [45] then nm.dropLast else nm
theorem trim_cases (nm : List Nat) : trimD nm = nm ∨ ∃ a, nm = a ++ [45] ∧ trimD nm = a := by
  unfold trimD
  split
  · rename_i h
    rw [lastL_iff] at h
    rcases List.eq_nil_or_concat nm with rfl | ⟨a, b, e⟩
    · cases h
    · rw [List.concat_eq_append] at e
      subst e
      have : b = 45 := by simpa using h
      subst this
      exact .inr ⟨a, rfl, by simp⟩
  · exact .inl rfl
theorem trim_count (nm : List Nat) : (trimD nm).count 13 = nm.count 13 := by
  rcases trim_cases nm with e | ⟨a, e, e2⟩
  · rw [e]
  · rw [e2, e]; simp
theorem trim_V {β : Type} (it : List Nat → List β) (nm : List Nat) : V it none (trimD nm) = fin it (runS it nm) := by
  rcases trim_cases nm with e | ⟨a, e, e2⟩
  · rw [e]; rfl
  · rw [e2, e, V_runS, runS_app]
    show _ = fin it (stepM it (runS it a) 45)
    have e3 : stepM it (runS it a) 45 = ((runS it a).1 ++ fl it (runS it a).2, none) := by unfold stepM; rw [if_pos (by decide)]
    rw [e3]
    simp [fin, fl]
theorem walk_trim (bn : Bool) (tss : List (List Tk)) : walkL bn tss = trimD ((seqL tss).foldl (walkTok bn) ([], [])).1 := by
  unfold walkL trimD
  rw [walk_seq]
/-- what a turn of the walk adds -/
theorem step_add {tok : Tk} (h : tok ∈ allT) (hu : tok ≠ unkL) (nm ah : List Nat) : ∃ e, stepN nm ah tok = nm ++ e ∧ e.length ≤ 2 ∧ ∀ c ∈ e, okCh c := by
  rw [stepN_B]
  rcases all_cases h with h | h | h
  · exact absurd h hu
  · rw [(step_dash h _ _ _).1]
    unfold addDash
    split
    · exact ⟨[], by simp, by simp, by simp⟩
    · exact ⟨[45], rfl, by simp, by intro c hc; rw [List.mem_singleton.mp hc]; exact ⟨by decide, by decide⟩⟩
  · rw [(step_plain h _ _ _).1]
    have key : ∀ t ∈ plainT, ∀ cr nl : Bool, (mapsL (qB cr nl t)).length ≤ 2 ∧ ∀ c ∈ mapsL (qB cr nl t), 0 < c ∧ c < 128 := by decide
    exact ⟨_, rfl, (key tok h _ _).1, (key tok h _ _).2⟩
theorem fold_bnd (bn : Bool) : ∀ (Z : List (Tk × Tk)) (st : List Nat × Tk), (∀ p ∈ Z, p.1 ∈ allT) → (∀ c ∈ st.1, okCh c) → (Z.foldl (walkTok bn) st).1.length ≤ st.1.length + 2 * Z.length ∧ ∀ c ∈ (Z.foldl (walkTok bn) st).1, okCh c
  | [], st, _, h => ⟨by simp, h⟩
  | p :: Z, st, hZ, h => by
    have hp := hZ p (by simp)
    rw [List.foldl_cons]
    have hs : (walkTok bn st p).1.length ≤ st.1.length + 2 ∧ ∀ c ∈ (walkTok bn st p).1, okCh c := by
      unfold walkTok
      by_cases hu : p.1 = unkL
      · rw [if_pos hu]; exact ⟨by omega, h⟩
      · rw [if_neg hu]
        dsimp only
        obtain ⟨e, e1, e2, e3⟩ := step_add hp hu st.1 (if bn = true then st.2 else p.2)
        rw [e1]
        refine ⟨by rw [List.length_append]; omega, fun c hc => ?_⟩
        rcases List.mem_append.mp hc with hc | hc
        · exact h c hc
        · exact e3 c hc
    obtain ⟨a, b⟩ := fold_bnd bn Z (walkTok bn st p) (fun q hq => hZ q (by simp [hq])) hs.2
    exact ⟨by simp only [List.length_cons]; omega, b⟩
theorem joinG_len {α : Type} (s : α) (n : Nat) : ∀ (xs : List (List α)), (∀ x ∈ xs, x.length ≤ n) → (joinG [s] xs).length ≤ (n + 1) * xs.length
  | [], _ => by simp [joinG]
  | [x], h => by have := h x (by simp); simp [joinG]; omega
  | x :: y :: r, h => by
    have h1 := h x (by simp)
    have h2 := joinG_len s n (y :: r) fun z hz => h z (by simp [hz])
    simp only [joinG, List.length_append, List.length_cons, List.length_nil] at h2 ⊢
    rw [show r.length + 1 + 1 = (r.length + 1) + 1 from rfl, Nat.mul_succ]
    omega
theorem law_bnd {tss : List (List Tk)} (h : okTs tss) (hn : tss.length ≤ 15) (hl : ∀ ts ∈ tss, ts.length ≤ 14) (bn : Bool) : (walkL bn tss).length ≤ 500 ∧ ∀ c ∈ walkL bn tss, okCh c := by
  rw [walk_trim]
  obtain ⟨a, b⟩ := fold_bnd bn (seqL tss) ([], []) (seqL_ok h) (by simp)
  have hz : (seqL tss).length ≤ 225 := by
    have h1 := joinG_len seamP 14 ((tss.filter fun ts => !ts.isEmpty).map innerL) (by
      intro x hx
      obtain ⟨ts, hts, rfl⟩ := List.mem_map.mp hx
      exact Nat.le_trans (innerL_len ts) (hl ts (List.mem_filter.mp hts).1))
    have h2 : ((tss.filter fun ts => !ts.isEmpty).map innerL).length ≤ 15 := by
      rw [List.length_map]; exact Nat.le_trans (List.length_filter_le _ _) hn
    unfold seqL
    omega
  generalize ((seqL tss).foldl (walkTok bn) ([], [])).1 = nm at *
  have hsub : (trimD nm).length ≤ nm.length ∧ ∀ c ∈ trimD nm, c ∈ nm := by
    rcases trim_cases nm with e | ⟨x, e, e2⟩
    · rw [e]; exact ⟨Nat.le_refl _, fun _ hc => hc⟩
    · rw [e2, e]; exact ⟨by simp, fun c hc => by simp [hc]⟩
  simp only [List.length_nil] at a
  exact ⟨by omega, fun c hc => b c (hsub.2 c hc)⟩
theorem law_alike (P : Params) {tss : List (List Tk)} (h : okTs tss) (hn : tss.length ≤ 15) (hl : ∀ ts ∈ tss, ts.length ≤ 14) :
    verL P (walkL true tss) = verL P (walkL false tss) ↔ (walkL true tss).count 13 = (walkL false tss).count 13 := by
  constructor
  · intro e
    have h1 := ver_count P _ fun c hc => ((law_bnd h hn hl true).2 c hc).2
    have h2 := ver_count P _ fun c hc => ((law_bnd h hn hl false).2 c hc).2
    rw [← h1, ← h2, e]
  · intro e
    rw [walk_trim, walk_trim, trim_count, trim_count] at e
    have hi := inv_fold (verItem P) (seqL tss) [] ([], []) ([], []) (seqL_ok h) (Ch_seq tss []) (fun q => by cases q) ⟨Nat.le_refl _, fun _ => ⟨rfl, Iff.rfl⟩⟩
    rw [walk_trim, walk_trim, verL_V, verL_V, trim_V, trim_V, (hi.2 e).1]
theorem law_plain (P : Params) (ys : List Int) (hy : ys.length ≤ 14) : quoteL (platL ((textsL ys).map List.flatten)) = walkL true (textsL ys) ∧ platL (((textsL ys).map List.flatten).map quoteL) = walkL false (textsL ys) ∧
      (verL P (walkL true (textsL ys)) = verL P (walkL false (textsL ys)) ↔ (walkL true (textsL ys)).count 13 = (walkL false (textsL ys)).count 13) ∧
      ∀ bn, (walkL bn (textsL ys)).length ≤ 500 ∧ ∀ c ∈ walkL bn (textsL ys), okCh c := by
  have hb := textsL_bnd ys
  have hn : (textsL ys).length ≤ 15 := by omega
  have hl : ∀ ts ∈ textsL ys, ts.length ≤ 14 := fun ts ht => Nat.le_trans (hb.2 ts ht).1 hy
  have ho := textsL_ok ys
  exact ⟨law_named ho, law_sent ho, law_alike P ho hn hl, fun bn => law_bnd ho hn hl bn⟩
end Mine
end

section
set_option autoImplicit false
set_option maxRecDepth 100000
set_option maxHeartbeats 8000000
namespace Mine
open PySem PySem.W PySem.Calls PyProof.Rows

theorem holds_of (hlaw : ∀ (P : Params) (ys : List Int), ys.length ≤ 14 → quoteL (platL ((textsL ys).map List.flatten)) = walkL true (textsL ys) ∧ platL (((textsL ys).map List.flatten).map quoteL) = walkL false (textsL ys) ∧
      (verL P (walkL true (textsL ys)) = verL P (walkL false (textsL ys)) ↔ (walkL true (textsL ys)).count 13 = (walkL false (textsL ys)).count 13) ∧
      ∀ bn, (walkL bn (textsL ys)).length ≤ 500 ∧ ∀ c ∈ walkL bn (textsL ys), okCh c) : PySem.Challenge.rw_pe0064_01.Holds := by
  refine MineH.hd ?_
  intro w s₀ s₁ mg mb G Y fa o pm cd doc dV kV ho hd hcd hD hmg hg args vals as hpre hlay hrd hwl hlo
  have KX := kIn_of Y
  have GT := G.T
  clear Y ho hd hcd hD
  wrow_args hpre hlay hrd hwl hlo
  rename_i xs _ _ _ _ _ _ _ X vs _ hL _ _ _ hI _ hc _
  have hfa : fa = 92 := by
    have e := mg_of KX GT.g (n := Str.ofString "law") (v := .ref 92) (by rfl)
    have e2 : mg (Str.ofString "law") = some (Value.ref fa) := hmg
    rw [e] at e2
    injection e2 with e2
    injection e2 with e2
    exact e2.symm
  subst hfa
  have hT : TabsAt [(67, 63)] s₁.heap := by
    intro q hq
    rw [List.mem_singleton.mp hq]
    obtain ⟨d, hd⟩ := Option.isSome_iff_exists.mp (show ((recsOf MineH.hd.view_39).find? (fun e => e.name == Str.ofString "_platform")).isSome = true from by decide +kernel)
    exact tab_of GT KX (x := Str.ofString "_platform") hd (by kernel_rfl)
  have GT2 := ghost_top hT GT
  obtain ⟨bm, ob, B⟩ := bmod_of_top GT2
  have hT0 := hT (67, 63) (by simp)
  have hP : TabP s₁.heap := ⟨#[], hT0.1.code hT0.2 trivial, hT0.1.tab hT0.2⟩
  have g63 : (ghostOf s₁.heap [(67, 63)]).get? 63 = none := hideAll_none _ (by simp)
  refine law_call (p := topProg) (g := ghostOf s₁.heap [(67, 63)]) ⟨KX, topRead_of GT⟩ ⟨ghost_K hT KX (by rfl), topRead_of GT2⟩ B g63 (fun b o e => of_hideAll _ e) (hideAll_size _ _) hP hL hI (by omega) hg hlaw ?_
  intro s' hk tb hb hos
  have keep : ∀ b o, b ≠ 63 → s₁.heap.get? b = some o → s'.heap.get? b = some o := fun b o hb e => hk b o (ghost_ne e (by simpa using hb))
  refine ⟨.inl ⟨.bool true, .bool true, [], rfl, fun cls => rfl, .bool true, ?_, fun _ => ⟨List.nodup_nil, fun a ha => nomatch ha⟩⟩, ⟨fun b o e => ?_, fun b o e => ?_⟩, hos, hb⟩
  · kernel_rfl
  · by_cases h63 : b = 63
    · subst h63
      have e2 := hT0.2
      dsimp only at e2
      rw [e] at e2
      injection e2 with e2
      obtain ⟨ps, _, _, e3⟩ := tb
      refine .inr (.inl ⟨(hT0.1.tab hT0.2).isCodeTable, by rw [e2], #[], ps, by rw [e2], ?_⟩)
      rw [e3, e2]
      simp
    · exact .inl (keep b o h63 e)
  · by_cases h63 : b = 63
    · subst h63
      obtain ⟨ps, _, _, e3⟩ := tb
      exact ⟨_, e3⟩
    · exact ⟨o, keep b o h63 e⟩
end Mine
end

open PySem PySem.W PyProof.Rows
set_option maxRecDepth 100000 in
set_option maxHeartbeats 8000000 in
theorem PySem.Challenge.cw_pe0064_01_holds : PySem.Challenge.rw_pe0064_01.Holds := by
  exact Mine.holds_of Mine.law_plain
#print axioms PySem.Challenge.cw_pe0064_01_holds
