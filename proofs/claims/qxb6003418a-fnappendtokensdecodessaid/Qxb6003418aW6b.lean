/-
  The walk of the law FnAppendTokensDecodes, at every input.
-/
import Derived.Test.Qxb6003418aW6z
namespace Go.Proofs.Qxb6003418a
open Go.RowKit
set_option linter.unusedVariables false

set_option maxHeartbeats 4000000 in
set_option maxRecDepth 100000 in
theorem w6 (a0 : Option Addr) (len0 cap0 : Nat) (z0 : List Int) (a1 : Option Addr) (len1 cap1 : Nat) (z1 : List Int) (a2 a3 : Int) (w : World)
    (w0 : RowIs .u8 w a0 len0 cap0 z0) (w1 : RowIs .u8 w a1 len1 cap1 z1) (w3 : (Lit.int .u8 a3).wf = true) :
    Calls Try.prog 6 #[.slice a0 len0 cap0, .slice a1 len1 cap1, .int .i64 a2, .int .u8 a3] w fun e w' => e = .returned (.bool true) ∧ Below w.heap.size w w' := by
  have hl0 := row_len w0
  have hl1 := row_len w1
  have hb3 := bounds_u8 w3
  by_cases hz : len0 + len1 ≤ 1048576
  · by_cases hp : 0 ≤ a2 ∧ a2 ≤ 2 * (len1 : Int)
    · obtain ⟨h1, h2⟩ := hp
      obtain ⟨pn, rfl⟩ := Int.eq_ofNat_of_zero_le h1
      by_cases hp0 : pn = 0
      · subst hp0
        exact w6_zero a0 len0 cap0 _ a1 len1 cap1 _ a3 w (row_In w0) (row_In w1) (row_Bytes w1) hz hb3.1 hb3.2
      · exact w6_pos a0 len0 cap0 _ a1 len1 cap1 _ pn a3 w (row_In w0) (row_In w1) (row_Bytes w1) hz (by omega) (by omega) hb3.1 hb3.2
    · have hor : a2 < 0 ∨ 2 * (len1 : Int) < a2 := by omega
      clear hp w0 w1
      rcases hor with h | h
      all_goals
        go_enter Try.func6, Try.ntmps6
        go_wp2_with (go_at_call 23; refine (zz23_ok _ _ _ _ _ _ _ _ _ hz).mono ?_; rintro e w' ⟨rfl, rfl⟩)
      all_goals (go_ret; exact ⟨rfl, Below.refl _ _⟩)
  · clear w0 w1
    go_enter Try.func6, Try.ntmps6
    go_wp2_with (go_at_call 23; refine (zz23_no _ _ _ _ _ _ _ _ _ hl0 hl1 hz).mono ?_; rintro e w' ⟨rfl, rfl⟩)
    go_ret
    exact ⟨rfl, Below.refl _ _⟩
end Go.Proofs.Qxb6003418a
