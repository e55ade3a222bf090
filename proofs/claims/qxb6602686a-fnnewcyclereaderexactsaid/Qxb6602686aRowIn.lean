/-
  From what the law is told of its arguments to what its walk wants.
-/
import Derived.Test.Qxb6602686aLaw
import Derived.OpenShut
namespace Go.Proofs.Qxb6602686a
open Go.RowKit
set_option linter.unusedVariables false

theorem lt_of_cell {w : World} {a : Addr} {v : Value} (h : w.cell? a = some v) : a.block < w.heap.size := by
  refine Decidable.byContradiction fun hn => ?_
  have : w.heap[a.block]? = none := by simp; omega
  simp [World.cell?, this] at h

/-- A slice of integers as it came in. -/
def RowIs (k : IntKind) (w : World) (a : Option Addr) (len cap : Nat) (zs : List Int) : Prop :=
  (a = none ∧ len = 0 ∧ cap = 0 ∧ zs = []) ∨
  ∃ x, a = some x ∧ len ≤ cap ∧ cap ≤ maxLen ∧ zs.length = cap ∧ (∀ i, i < zs.length → w.cell? (x.add i) = some (.int k (zs.getD i 0))) ∧ ∀ n ∈ zs, (Lit.int k n).wf = true

theorem row_In {k : IntKind} {w : World} {a : Option Addr} {len cap : Nat} {zs : List Int} (h : RowIs k w a len cap zs) : In k w a len (zs.take len) := by
  rcases h with ⟨rfl, rfl, rfl, rfl⟩ | ⟨x, rfl, hl, hm, hz, hcell, hw⟩
  · exact ⟨rfl, fun _ => rfl, fun i hi => by omega⟩
  · refine ⟨by simp; omega, by simp, fun i hi => ?_⟩
    obtain ⟨b, o, s⟩ := x
    have hc := hcell 0 (by omega)
    have hs : s = none := by simpa [Addr.add] using World.cell?_spot hc
    subst hs
    refine ⟨b, o, rfl, ?_, fun j hj => ?_⟩
    · have := lt_of_cell hc
      simpa [Addr.add] using this
    · have e := hcell j (by omega)
      rw [WideShapes.add_plain] at e
      rw [e]
      simp [List.getD, hj]

theorem bd_u64 {n : Int} (h : (Lit.int .u64 n).wf = true) : 0 ≤ n ∧ n ≤ 18446744073709551615 := by
  have := bounds_u64 h
  omega

theorem row_U64 {w : World} {a : Option Addr} {len cap : Nat} {zs : List Int} (h : RowIs .u64 w a len cap zs) : U64s (zs.take len) := by
  intro j
  have hw : ∀ n ∈ zs, (Lit.int .u64 n).wf = true := by
    rcases h with ⟨rfl, rfl, rfl, rfl⟩ | ⟨x, rfl, hl, hm, hz, hcell, hw⟩
    · simp
    · exact hw
  by_cases hj : j < (zs.take len).length
  · have e : (zs.take len).getD j 0 = (zs.take len)[j] := by simp [List.getD, List.getElem?_eq_getElem hj]
    rw [e]
    exact bd_u64 (hw _ (List.mem_of_mem_take (List.getElem_mem hj)))
  · have e : (zs.take len).getD j 0 = 0 := by simp [List.getD, List.getElem?_eq_none (Nat.le_of_not_lt hj)]
    rw [e]
    omega

theorem row_len {k : IntKind} {w : World} {a : Option Addr} {len cap : Nat} {zs : List Int} (h : RowIs k w a len cap zs) : len ≤ 9223372036854775807 := by
  rcases h with ⟨rfl, rfl, rfl, rfl⟩ | ⟨x, rfl, hl, hm, hz, hcell, hw⟩
  · omega
  · unfold maxLen at hm; omega

/-- A slice of slices of integers as it came in. -/
def RowsAre (w : World) (a : Option Addr) (len cap : Nat) (A : Nat → Option Addr) (L C : Nat → Nat) (Z : Nat → List Int) : Prop :=
  (a = none ∧ len = 0 ∧ cap = 0) ∨
  ∃ x, a = some x ∧ len ≤ cap ∧ cap ≤ maxLen ∧ ∀ r, r < len → w.cell? (x.add r) = some (.slice (A r) (L r) (C r)) ∧ RowIs .u64 w (A r) (L r) (C r) (Z r)

theorem rows_In2 {w : World} {a : Option Addr} {len cap : Nat} {A : Nat → Option Addr} {L C : Nat → Nat} {Z : Nat → List Int} (h : RowsAre w a len cap A L C Z) : In2 w a len A L C := by
  intro r hr
  rcases h with ⟨_, h0, _⟩ | ⟨x, rfl, hl, hm, hc⟩
  · omega
  obtain ⟨b, o, s⟩ := x
  have hcr := (hc 0 (by omega)).1
  have hs : s = none := by simpa [Addr.add] using World.cell?_spot hcr
  subst hs
  refine ⟨b, o, rfl, ?_, fun j hj => ?_⟩
  · have := lt_of_cell hcr
    simpa [Addr.add] using this
  · have e := (hc j hj).1
    rw [WideShapes.add_plain] at e
    exact e

/-- The walk, from the arguments as they came in. -/
theorem law_walk (a0 : Option Addr) (len0 cap0 : Nat) (z0 : List Int) (a1 : Option Addr) (len1 cap1 : Nat) (A : Nat → Option Addr) (L C : Nat → Nat) (Z : Nat → List Int) (a2 : Int) (a3 : Option Addr) (len3 cap3 : Nat) (z3 : List Int) (w : World)
    (w0 : RowIs .u64 w a0 len0 cap0 z0) (w1 : RowsAre w a1 len1 cap1 A L C Z) (w2 : (Lit.int .u64 a2).wf = true) (w3 : RowIs .u64 w a3 len3 cap3 z3) :
    Calls Try.prog 3 #[.slice a0 len0 cap0, .slice a1 len1 cap1, .int .u64 a2, .slice a3 len3 cap3] w fun e w' => e = .returned (.bool true) ∧ Below w.heap.size w w' :=
  law_any a0 a1 a3 len0 cap0 len1 cap1 len3 cap3 (z0.take len0) (z3.take len3) A L C (fun r => (Z r).take (L r)) a2 w
    (row_In w0) (row_U64 w0) (row_len w0) (rows_In2 w1)
    (fun e => by
      rcases w1 with ⟨_, h0, _⟩ | ⟨x, h1, _⟩
      · exact h0
      · rw [e] at h1; cases h1)
    (fun r hr => by
      rcases w1 with ⟨_, h0, _⟩ | ⟨x, _, _, _, hc⟩
      · omega
      · have h := (hc r hr).2
        exact ⟨row_In h, row_U64 h, row_len h⟩)
    (by
      rcases w1 with ⟨_, h0, _⟩ | ⟨x, _, hl, hm, _⟩
      · omega
      · unfold maxLen at hm; omega)
    (row_In w3) (row_U64 w3) (row_len w3) (bd_u64 w2)
end Go.Proofs.Qxb6602686a
