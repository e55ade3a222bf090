/-
  The walk of the law FnProofSizeMatchesWriters, at every input.
-/
import Derived.Test.Qxb6003418aW8
namespace Go.Proofs.Qxb6003418a
open Go.RowKit
set_option linter.unusedVariables false

set_option maxHeartbeats 4000000 in
set_option maxRecDepth 100000 in
theorem w8 (a0 : Option Addr) (len0 cap0 : Nat) (z0 : List Int) (a1 : Int) (a2 : Bool) (a3 : Option Addr) (len3 cap3 : Nat) (z3 : List Int) (a4 : Option Addr) (len4 cap4 : Nat) (z4 : List Int) (w : World)
    (w0 : RowIs .u8 w a0 len0 cap0 z0) (w3 : RowIs .u8 w a3 len3 cap3 z3) (w4 : RowIs .u8 w a4 len4 cap4 z4) :
    Calls Try.prog 8 #[.slice a0 len0 cap0, .int .i64 a1, .bool a2, .slice a3 len3 cap3, .slice a4 len4 cap4] w fun e w' => e = .returned (.bool true) ∧ Below w.heap.size w w' := by
  have hl0 := row_len w0
  have hl3 := row_len w3
  have hl4 := row_len w4
  by_cases hz : len0 + len3 + len4 ≤ 1048576
  · by_cases h16 : len4 ≤ 16
    · by_cases hp : 0 ≤ a1 ∧ a1 ≤ 2 * (len0 : Int)
      · obtain ⟨h1, h2⟩ := hp
        obtain ⟨pn, rfl⟩ := Int.eq_ofNat_of_zero_le h1
        exact w8_core a0 a3 a4 len0 cap0 len3 cap3 len4 cap4 pn a2 _ _ _ w (row_In w0) (row_In w3) (row_In w4) (row_Bytes w0) (row_Bytes w4) hz h16 (by omega)
      · have hor : a1 < 0 ∨ 2 * (len0 : Int) < a1 := by omega
        clear hp w0 w3 w4
        rcases hor with h | h
        all_goals
          go_enter Try.func8, Try.ntmps8
          go_wp2_with (go_at_call 30; refine (zz30_ok _ _ _ _ _ _ _ _ _ _ _ _ hz).mono ?_; rintro e w' ⟨rfl, rfl⟩)
        all_goals (go_ret; exact ⟨rfl, Below.refl _ _⟩)
    · clear w0 w3 w4
      go_enter Try.func8, Try.ntmps8
      go_wp2_with (go_at_call 30; refine (zz30_ok _ _ _ _ _ _ _ _ _ _ _ _ hz).mono ?_; rintro e w' ⟨rfl, rfl⟩)
      all_goals (go_ret; exact ⟨rfl, Below.refl _ _⟩)
  · clear w0 w3 w4
    go_enter Try.func8, Try.ntmps8
    go_wp2_with (go_at_call 30; refine (zz30_no _ _ _ _ _ _ _ _ _ _ _ _ hl0 hl3 hl4 hz).mono ?_; rintro e w' ⟨rfl, rfl⟩)
    go_ret
    exact ⟨rfl, Below.refl _ _⟩
end Go.Proofs.Qxb6003418a
