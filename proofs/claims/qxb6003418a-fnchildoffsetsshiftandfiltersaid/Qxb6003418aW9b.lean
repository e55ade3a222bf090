/-
  The walk of the law FnChildOffsetsShiftAndFilter, at every input.
-/
import Derived.Test.Qxb6003418aW9
namespace Go.Proofs.Qxb6003418a
open Go.RowKit
set_option linter.unusedVariables false

set_option maxHeartbeats 4000000 in
set_option maxRecDepth 100000 in
theorem w9 (a0 : Option Addr) (len0 cap0 : Nat) (z0 : List Int) (a1 : Option Addr) (len1 cap1 : Nat) (z1 : List Int) (a2 : Option Addr) (len2 cap2 : Nat) (z2 : List Int) (a3 a4 a5 : Int) (a6 : Option Addr) (len6 cap6 : Nat) (z6 : List Int) (w : World)
    (w0 : RowIs .u8 w a0 len0 cap0 z0) (w1 : RowIs .u64 w a1 len1 cap1 z1) (w2 : RowIs .u64 w a2 len2 cap2 z2) (w5 : (Lit.int .u64 a5).wf = true) (w6 : RowIs .i64 w a6 len6 cap6 z6) :
    Calls Try.prog 9 #[.slice a0 len0 cap0, .slice a1 len1 cap1, .slice a2 len2 cap2, .int .i64 a3, .int .i64 a4, .int .u64 a5, .slice a6 len6 cap6] w fun e w' => e = .returned (.bool true) ∧ Below w.heap.size w w' := by
  have hl0 := row_len w0
  have hl1 := row_len w1
  have hl2 := row_len w2
  have hl6 := row_len w6
  by_cases hz : len0 + len1 + len2 + len6 ≤ 1048576
  · by_cases hz1 : len0 + 8 * len1 + 8 * len2 + 8 * len6 ≤ 1048576
    · by_cases hn : len0 ≤ 1024
      · by_cases hp : -268435456 ≤ a3 ∧ a3 ≤ 268435456 ∧ -268435456 ≤ a4 ∧ a4 ≤ 268435456
        · obtain ⟨h1, h2, h3, h4⟩ := hp
          exact w9_main a0 len0 cap0 _ a1 len1 cap1 _ a2 len2 cap2 _ a3 a4 a5 a6 len6 cap6 _ w (row_In w0) (row_In w1) (row_In w2) (row_In w6) (row_Bytes w0) (row_U64 w1) (row_U64 w2) hz1 hn h1 h2 h3 h4 (bounds_u64 w5).1
        · have hor : a3 < -268435456 ∨ 268435456 < a3 ∨ a4 < -268435456 ∨ 268435456 < a4 := by omega
          clear hp w0 w1 w2 w6
          rcases hor with h | h | h | h
          all_goals
            go_enter Try.func9, Try.ntmps9
            go_wp2_with (go_at_call 35; refine (zz35_ok _ _ _ _ _ _ _ _ _ _ _ _ _ _ _ _ hz).mono ?_; rintro e w' ⟨rfl, rfl⟩)
          all_goals (go_ret; exact ⟨rfl, Below.refl _ _⟩)
      · clear w0 w1 w2 w6
        go_enter Try.func9, Try.ntmps9
        go_wp2_with (go_at_call 35; refine (zz35_ok _ _ _ _ _ _ _ _ _ _ _ _ _ _ _ _ hz).mono ?_; rintro e w' ⟨rfl, rfl⟩)
        go_ret
        exact ⟨rfl, Below.refl _ _⟩
    · clear w0 w1 w2 w6
      go_enter Try.func9, Try.ntmps9
      go_wp2_with (go_at_call 35; refine (zz35_ok _ _ _ _ _ _ _ _ _ _ _ _ _ _ _ _ hz).mono ?_; rintro e w' ⟨rfl, rfl⟩)
      go_ret
      exact ⟨rfl, Below.refl _ _⟩
  · clear w0 w1 w2 w6
    go_enter Try.func9, Try.ntmps9
    go_wp2_with (go_at_call 35; refine (zz35_no _ _ _ _ _ _ _ _ _ _ _ _ _ _ _ _ hl0 hl1 hl2 hl6 hz).mono ?_; rintro e w' ⟨rfl, rfl⟩)
    go_ret
    exact ⟨rfl, Below.refl _ _⟩
end Go.Proofs.Qxb6003418a
