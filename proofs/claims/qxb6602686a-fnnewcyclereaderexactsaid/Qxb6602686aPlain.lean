/-
  The plain side: the ids as they are laid, the places, the lists 'next'.
-/
import Derived.Test.Qxb6602686aSt
namespace Go.Proofs.Qxb6602686a
open Go.RowKit
set_option linter.unusedVariables false

theorem take_succ_getD (l : List Int) (k : Nat) (h : k < l.length) : l.take (k + 1) = l.take k ++ [l.getD k 0] := by
  rw [List.take_add_one]
  simp [List.getD, h]

theorem ids_take (first : Int) (ms : List Int) (k : Nat) (h : k < ms.length) : idsOf first (ms.take (k + 1)) = idsOf first (ms.take k) ++ (if ms.getD k 0 = first then [] else [ms.getD k 0]) := by
  unfold idsOf
  rw [take_succ_getD ms k h, List.filter_append]
  generalize ms.getD k 0 = x
  by_cases e : x = first
  · rw [if_pos e, List.filter_cons, if_neg (by simp [e]), List.filter_nil, List.append_nil]; simp
  · rw [if_neg e, List.filter_cons, if_pos (by simpa using e), List.filter_nil, List.cons_append]

theorem ids_take_le (first : Int) (ms : List Int) (k : Nat) : (idsOf first (ms.take k)).length ≤ (idsOf first ms).length := by
  unfold idsOf
  simp only [List.length_cons]
  have := (List.Sublist.filter (fun x => x != first) (List.take_sublist k ms)).length_le
  omega

theorem ids_u64 (first : Int) (ms : List Int) (h : U64s ms) (hf : 0 ≤ first ∧ first ≤ 18446744073709551615) : U64s (idsOf first ms) := by
  intro j
  by_cases hj : j < (idsOf first ms).length
  · have hm : (idsOf first ms).getD j 0 ∈ idsOf first ms := by
      rw [List.getD, List.getElem?_eq_getElem hj]
      exact List.getElem_mem hj
    unfold idsOf at hm
    rcases List.mem_cons.1 hm with e | e
    · unfold idsOf; rw [e]; exact hf
    · obtain ⟨i, hi, e'⟩ := List.getElem_of_mem (List.mem_filter.1 e).1
      have := h i
      unfold idsOf
      rw [← e']
      simpa [List.getD, hi] using this
  · rw [List.getD, List.getElem?_eq_none (by omega)]
    simp

/-- The place of t, by the map. -/
def plc (ids : List Int) (n : Nat) (t : Int) : Option Int := (lastK ids t n).map (fun k : Nat => (k : Int))

/-- The places of the targets that are members. -/
def nxt (ids : List Int) (n : Nat) (ts : List Int) : List Int := ts.filterMap (plc ids n)

theorem nxt_succ (ids : List Int) (n : Nat) (ts : List Int) (q : Nat) (h : q < ts.length) : nxt ids n (ts.take (q + 1)) = nxt ids n (ts.take q) ++ (plc ids n (ts.getD q 0)).toList := by
  unfold nxt
  rw [take_succ_getD ts q h, List.filterMap_append]
  generalize ts.getD q 0 = t
  cases h : plc ids n t <;> simp [h]

theorem nxt_le (ids : List Int) (n : Nat) (ts : List Int) : (nxt ids n ts).length ≤ ts.length := List.length_filterMap_le _ _

theorem plc_bd (ids : List Int) (n : Nat) (t r : Int) (h : plc ids n t = some r) : 0 ≤ r ∧ r < n := by
  unfold plc at h
  obtain ⟨k, hk, rfl⟩ := Option.map_eq_some_iff.1 h
  have := lastK_lt _ _ _ _ hk
  omega

/-- The row that the graph's map tells. -/
def zrow (F : Int → Option Nat) (Z : Nat → List Int) (x : Int) : List Int := match F x with
  | none => []
  | some i => Z i
theorem one1 (k : IntKind) (x : Int) : ∀ u ∈ [Value.int k x], u.oneCell' = true := by
  intro u hu
  rw [List.mem_singleton.1 hu]
  rfl
end Go.Proofs.Qxb6602686a
