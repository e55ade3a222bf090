/-
  The walk of the law FnJoinConcatenatesTokens, at every input.
-/
import Derived.Test.Qxb6003418aW3
import Derived.Test.Qxb6003418aRowIn
namespace Go.Proofs.Qxb6003418a
open Go.RowKit
set_option linter.unusedVariables false

set_option maxHeartbeats 4000000 in
set_option maxRecDepth 100000 in
theorem w3 (a0 : Option Addr) (len0 cap0 : Nat) (z0 : List Int) (a1 : Int) (a2 : Option Addr) (len2 cap2 : Nat) (z2 : List Int) (a3 : Int) (w : World) (w0 : RowIs .u8 w a0 len0 cap0 z0) (w2 : RowIs .u8 w a2 len2 cap2 z2) :
    Calls Try.prog 3 #[.slice a0 len0 cap0, .int .i64 a1, .slice a2 len2 cap2, .int .i64 a3] w fun e w' => e = .returned (.bool true) ∧ Below w.heap.size w w' := by
  have hl0 := row_len w0
  have hl2 := row_len w2
  by_cases hz : len0 + len2 ≤ 1048576
  · by_cases hp : 0 ≤ a1 ∧ a1 ≤ 2 * (len0 : Int) ∧ 0 ≤ a3 ∧ a3 ≤ 2 * (len2 : Int)
    · obtain ⟨h1, h2, h3, h4⟩ := hp
      obtain ⟨pn, rfl⟩ := Int.eq_ofNat_of_zero_le h1
      obtain ⟨qn, rfl⟩ := Int.eq_ofNat_of_zero_le h3
      exact w3_main a0 len0 cap0 _ pn a2 len2 cap2 _ qn w (row_In w0) (row_In w2) (row_Bytes w0) (row_Bytes w2) hz (by omega) (by omega)
    · have hor : a1 < 0 ∨ 2 * (len0 : Int) < a1 ∨ a3 < 0 ∨ 2 * (len2 : Int) < a3 := by omega
      clear hp w0 w2
      rcases hor with h | h | h | h
      all_goals
        go_enter Try.func3, Try.ntmps3
        go_wp2_with (go_at_call 10; refine (zz10_ok _ _ _ _ _ _ _ _ _ hz).mono ?_; rintro e w' ⟨rfl, rfl⟩)
      all_goals (go_ret; exact ⟨rfl, Below.refl _ _⟩)
  · clear w0 w2
    go_enter Try.func3, Try.ntmps3
    go_wp2_with (go_at_call 10; refine (zz10_no _ _ _ _ _ _ _ _ _ hl0 hl2 hz).mono ?_; rintro e w' ⟨rfl, rfl⟩)
    go_ret
    exact ⟨rfl, Below.refl _ _⟩
end Go.Proofs.Qxb6003418a
