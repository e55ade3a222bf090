/-
  From what a law is told of an argument to what its walk wants.
-/
import Derived.Test.Qxb6003418aBase
import Derived.OpenShut
namespace Go.Proofs.Qxb6003418a
open Go.RowKit
set_option linter.unusedVariables false

theorem lt_of_cell {w : World} {a : Addr} {v : Value} (h : w.cell? a = some v) : a.block < w.heap.size := by
  refine Decidable.byContradiction fun hn => ?_
  have : w.heap[a.block]? = none := by simp; omega
  simp [World.cell?, this] at h

/-- What the shell's 'IsRow' says. -/
def RowIs (k : IntKind) (w : World) (a : Option Addr) (len cap : Nat) (zs : List Int) : Prop :=
  (a = none ∧ len = 0 ∧ cap = 0 ∧ zs = []) ∨
  ∃ x, a = some x ∧ len ≤ cap ∧ cap ≤ maxLen ∧ zs.length = cap ∧ (∀ i, i < zs.length → w.cell? (x.add i) = some (.int k (zs.getD i 0))) ∧ ∀ n ∈ zs, (Lit.int k n).wf = true

theorem row_In {k : IntKind} {w : World} {a : Option Addr} {len cap : Nat} {zs : List Int} (h : RowIs k w a len cap zs) : In k w a len (zs.take len) := by
  rcases h with ⟨rfl, rfl, rfl, rfl⟩ | ⟨x, rfl, hl, hm, hz, hcell, hw⟩
  · exact ⟨rfl, fun _ => rfl, fun i hi => by omega⟩
  · refine ⟨by simp; omega, by simp, fun i hi => ?_⟩
    obtain ⟨b, o, s⟩ := x
    have hc := hcell 0 (by omega)
    have hs : s = none := by simpa [Addr.add] using World.cell?_spot hc
    subst hs
    refine ⟨b, o, rfl, ?_, fun j hj => ?_⟩
    · have := lt_of_cell hc
      simpa [Addr.add] using this
    · have e := hcell j (by omega)
      rw [WideShapes.add_plain] at e
      rw [e]
      simp [List.getD, hj]

theorem In.below {k : IntKind} {w w' : World} {a : Option Addr} {n : Nat} {zs : List Int} (h : In k w a n zs) (hb : Below w.heap.size w w') : In k w' a n zs := by
  refine ⟨h.1, h.2.1, fun i hi => ?_⟩
  obtain ⟨b, o, e1, e2, e3⟩ := h.2.2 i hi
  exact ⟨b, o, e1, Nat.lt_of_lt_of_le e2 hb.size, fun j hj => (hb.cell (p := ⟨b, o + j, none⟩) e2).trans (e3 j hj)⟩

theorem getD_take_bd {zs : List Int} {lo hi : Int} (h0 : lo ≤ 0 ∧ 0 ≤ hi) (h : ∀ n ∈ zs, lo ≤ n ∧ n ≤ hi) (len j : Nat) : lo ≤ (zs.take len).getD j 0 ∧ (zs.take len).getD j 0 ≤ hi := by
  by_cases hj : j < (zs.take len).length
  · have e : (zs.take len).getD j 0 = (zs.take len)[j] := by simp [List.getD, List.getElem?_eq_getElem hj]
    rw [e]
    exact h _ (List.mem_of_mem_take (List.getElem_mem hj))
  · have e : (zs.take len).getD j 0 = 0 := by simp [List.getD, List.getElem?_eq_none (Nat.le_of_not_lt hj)]
    rw [e]
    exact h0

theorem row_wf {k : IntKind} {w : World} {a : Option Addr} {len cap : Nat} {zs : List Int} (h : RowIs k w a len cap zs) : ∀ n ∈ zs, (Lit.int k n).wf = true := by
  rcases h with ⟨rfl, rfl, rfl, rfl⟩ | ⟨x, rfl, hl, hm, hz, hcell, hw⟩
  · simp
  · exact hw

theorem row_Bytes {w : World} {a : Option Addr} {len cap : Nat} {zs : List Int} (h : RowIs .u8 w a len cap zs) : Bytes (zs.take len) := by
  intro j
  refine getD_take_bd (by omega) (fun n hn => ?_) len j
  have := row_wf h n hn
  exact bounds_u8 this

theorem row_U64 {w : World} {a : Option Addr} {len cap : Nat} {zs : List Int} (h : RowIs .u64 w a len cap zs) (j : Nat) : 0 ≤ (zs.take len).getD j 0 ∧ (zs.take len).getD j 0 ≤ 18446744073709551615 := by
  refine getD_take_bd (by omega) (fun n hn => ?_) len j
  have := row_wf h n hn
  exact bounds_u64 this

theorem row_I64 {w : World} {a : Option Addr} {len cap : Nat} {zs : List Int} (h : RowIs .i64 w a len cap zs) (j : Nat) : -9223372036854775808 ≤ (zs.take len).getD j 0 ∧ (zs.take len).getD j 0 ≤ 9223372036854775807 := by
  refine getD_take_bd (by omega) (fun n hn => ?_) len j
  have := row_wf h n hn
  exact bounds_i64 this

theorem row_len {k : IntKind} {w : World} {a : Option Addr} {len cap : Nat} {zs : List Int} (h : RowIs k w a len cap zs) : len ≤ 9223372036854775807 := by
  rcases h with ⟨rfl, rfl, rfl, rfl⟩ | ⟨x, rfl, hl, hm, hz, hcell, hw⟩
  · omega
  · unfold maxLen at hm; omega
end Go.Proofs.Qxb6003418a
