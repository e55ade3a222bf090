/-
  A region that draws its order, by an invariant over which of its operations are done.
-/
import Derived.Test.Qxb6602686aRows
import Derived.WalkKit
import Derived.Below
import Derived.KernelRfl
import Derived.Laws.MakeOwn
namespace Go.Proofs.Qxb6602686a
open Go.RowKit
set_option linter.unusedVariables false

/-- How many operations are not done yet. -/
def unl (n : Nat) (listed : Array Bool) : Nat := ((List.range n).filter (fun i => !listed.getD i true)).length

theorem filter_le (p q : Nat → Bool) (h : ∀ j, q j = true → p j = true) (l : List Nat) : (l.filter q).length ≤ (l.filter p).length := by
  induction l with
  | nil => simp
  | cons x xs ih =>
    by_cases hq : q x = true
    · have hp := h x hq
      simp [hq, hp, ih]
    · by_cases hp : p x = true
      · simp [hq, hp]; omega
      · simp [hq, hp, ih]

theorem filter_lt (p q : Nat → Bool) (h : ∀ j, q j = true → p j = true) (l : List Nat) (i : Nat) (hi : i ∈ l) (hp : p i = true) (hq : q i = false) : (l.filter q).length < (l.filter p).length := by
  induction l with
  | nil => simp at hi
  | cons x xs ih =>
    by_cases hx : x = i
    · subst hx
      have := filter_le p q h xs
      simp [hp, hq]; omega
    · have hi' : i ∈ xs := by
        rcases List.mem_cons.1 hi with e | e
        · exact absurd e.symm hx
        · exact e
      have := ih hi'
      by_cases hq : q x = true
      · have hp := h x hq
        simp [hq, hp, this]
      · by_cases hp : p x = true
        · simp [hq, hp]; omega
        · simp [hq, hp, this]

theorem unl_set {n i : Nat} {listed : Array Bool} (hi : i < n) (h : listed.getD i true = false) : unl n (listed.setIfInBounds i true) < unl n listed := by
  have hsz : i < listed.size := by
    apply Classical.byContradiction
    intro hn
    simp [Array.getD, hn] at h
  refine filter_lt _ _ (fun j hj => ?_) _ i (List.mem_range.2 hi) (by simp [h]) ?_
  · by_cases hji : j = i
    · subst hji; simp [h]
    · rw [Array.getD_eq_getD_getElem?, Array.getElem?_setIfInBounds_ne (fun e => hji e.symm), ← Array.getD_eq_getD_getElem?] at hj
      exact hj
  · rw [Array.getD_eq_getD_getElem?, Array.getElem?_setIfInBounds_self_of_lt hsz]; rfl

section
variable {P : Program} {ops : Array Oper} {Q : Exit → Act → World → Prop} {md : Region.Mode}

theorem ready_spec {listed : Array Bool} {i : Nat} (h : i ∈ Region.ready md ops listed) : i < ops.size ∧ listed.getD i true = false ∧ ((ops[i]?).map (·.after.all fun e => !Region.binds md e || listed.getD e.on false)).getD false = true := by
  unfold Region.ready at h
  rw [List.mem_filter, List.mem_range] at h
  simp only [Bool.and_eq_true, Bool.not_eq_true'] at h
  exact ⟨h.1, h.2.1, h.2.2⟩

/-- WHATEVER THE ORDER: what each operation that may come up keeps, holds at the end. -/
theorem wpAny_inv (I : Array Bool → Act → World → Prop)
    (hstep : ∀ listed a w, I listed a w → ∀ i ∈ Region.ready md ops listed, wpOp P ops Q i (I (listed.setIfInBounds i true)) a w)
    (hend : ∀ listed a w, I listed a w → Region.ready md ops listed = [] → Q .normal a w) :
    ∀ (fuel : Nat) (listed : Array Bool) (a : Act) (w : World), unl ops.size listed ≤ fuel → I listed a w → wpAny P md ops Q fuel listed a w := by
  intro fuel
  induction fuel with
  | zero =>
    intro listed a w hf hI
    have hr : Region.ready md ops listed = [] := by
      apply List.eq_nil_iff_forall_not_mem.2
      intro i hi
      obtain ⟨h1, h2, _⟩ := ready_spec hi
      have := unl_set h1 h2
      omega
    exact ⟨hr, hend listed a w hI hr⟩
  | succ fuel ih =>
    intro listed a w hf hI
    refine ⟨hend listed a w hI, fun i hi => ?_⟩
    obtain ⟨h1, h2, _⟩ := ready_spec hi
    have := unl_set h1 h2
    exact wpOp_mono (fun a' w' h' => ih _ a' w' (by omega) h') (hstep listed a w hI i hi)

/-- One operation, by its run. -/
theorem wpOp_run {i : Nat} {o : Oper} {K : Act → World → Prop} {a : Act} {w : World} (ho : ops[i]? = some o) (hg : o.guard = none) (v : Value) (w' : World)
    (hrun : (execOp a.eval o).run P w = .ok (.value v) w') (h : K (a.put o.dst v) w') : wpOp P ops Q i K a w := by
  have hw : Region.wanted o (yielded ops a.tmps) = true := by simp [Region.wanted, hg]
  unfold wpOp
  simp only [ho, hw, if_true]
  refine .inl ?_
  unfold Oper.wp
  rw [hrun]
  exact h
end

/-- The values l from slot k on, some slots written. -/
def updL (g : Nat → Option Value) : Nat → List Value → List Value
  | _, [] => []
  | k, v :: vs => (g k).getD v :: updL g (k + 1) vs

theorem updL_get (g : Nat → Option Value) (l : List Value) (k i : Nat) : (updL g k l)[i]? = (l[i]?).map fun v => (g (k + i)).getD v := by
  induction l generalizing k i with
  | nil => simp [updL]
  | cons v vs ih =>
    cases i with
    | zero => simp [updL]
    | succ i =>
      simp only [updL, List.getElem?_cons_succ]
      rw [ih, show k + 1 + i = k + (i + 1) by omega]

/-- The frame a, some slots written. -/
def upd (a : Act) (g : Nat → Option Value) : Act := { a with tmps := (updL g 0 a.tmps.toList).toArray }

theorem upd_get (a : Act) (g : Nat → Option Value) (k : Nat) : (upd a g).tmps[k]? = (a.tmps[k]?).map fun v => (g k).getD v := by
  unfold upd
  simp only [List.getElem?_toArray, updL_get, Nat.zero_add, Array.getElem?_toList]

theorem act_ext {a b : Act} (h : ∀ k : Nat, a.tmps[k]? = b.tmps[k]?) (hd : a.defers = b.defers) : a = b := by
  obtain ⟨x, d⟩ := a
  obtain ⟨y, d'⟩ := b
  have : x = y := Array.ext_getElem? h
  subst this
  have : d = d' := hd
  subst this
  rfl

theorem upd_none (a : Act) : upd a (fun _ => none) = a := by
  refine act_ext (fun k => ?_) rfl
  rw [upd_get]
  simp

theorem upd_put (a : Act) (g : Nat → Option Value) (d : Nat) (v : Value) : (upd a g).put (some d) v = upd a (fun k => if k = d then some v else g k) := by
  refine act_ext (fun k => ?_) rfl
  rw [upd_get]
  show ((upd a g).tmps.setIfInBounds d v)[k]? = _
  by_cases hk : k = d
  · subst hk
    rw [Array.getElem?_setIfInBounds_self]
    have hs : (upd a g).tmps.size = a.tmps.size := by
      have h1 := upd_get a g
      apply Nat.le_antisymm
      · apply Nat.le_of_not_lt
        intro hlt
        have := h1 a.tmps.size
        rw [Array.getElem?_eq_getElem hlt, Array.getElem?_eq_none (Nat.le_refl _)] at this
        simp at this
      · apply Nat.le_of_not_lt
        intro hlt
        have := h1 (upd a g).tmps.size
        rw [Array.getElem?_eq_getElem hlt, Array.getElem?_eq_none (Nat.le_refl _)] at this
        simp at this
    rw [hs]
    by_cases hl : k < a.tmps.size
    · simp [hl]
    · simp [hl]
  · rw [Array.getElem?_setIfInBounds_ne (fun e => hk e.symm), upd_get]
    simp [hk]

theorem upd_eval (a : Act) (g : Nat → Option Value) (k : Nat) (h : k < a.tmps.size) : (upd a g).eval (.tmp k) = (g k).getD (a.eval (.tmp k)) := by
  unfold Act.eval
  simp only [Array.getD_eq_getD_getElem?, upd_get, Array.getElem?_eq_getElem h]
  simp
end Go.Proofs.Qxb6602686a
