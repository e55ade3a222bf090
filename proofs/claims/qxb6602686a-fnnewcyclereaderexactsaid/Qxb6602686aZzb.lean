/-
  The law's guard zzBytes: it answers.
-/
import Derived.Test.Qxb6602686aFit
namespace Go.Proofs.Qxb6602686a
open Go.RowKit
set_option linter.unusedVariables false

theorem ans_no {a : Ending} {w : World} (h : a = .returned (.bool false)) : ∃ b, a = .returned (.bool b) ∧ w = w := ⟨false, h, rfl⟩

set_option maxHeartbeats 1000000 in
theorem zzb_any (ko to mo : Option Addr) (n kc m tc l mc : Nat) (first : Int) (A : Nat → Option Addr) (L C : Nat → Nat) (w : World) (h : In2 w to m A L C) (hL : ∀ r, r < m → L r ≤ 9223372036854775807) (hn : n ≤ 9223372036854775807) (hm : m ≤ 9223372036854775807) (hl : l ≤ 9223372036854775807) :
    Calls Try.prog 7 #[.slice ko n kc, .slice to m tc, .int .u64 first, .slice mo l mc] w fun e w' => (∃ b, Hid (e = .returned (.bool b))) ∧ w = w' := by
  by_cases h1 : 1048576 < n
  · clear h hL
    go_enter Try.func7, Try.ntmps7
    go_wp2
    go_ret
    exact ⟨⟨false, rfl⟩, rfl⟩
  by_cases h2 : 1048576 < m
  · clear h hL
    go_enter Try.func7, Try.ntmps7
    go_wp2
    go_ret
    exact ⟨⟨false, rfl⟩, rfl⟩
  by_cases h4 : 1048576 < n + m
  · clear h hL
    go_enter Try.func7, Try.ntmps7
    go_wp2
    go_ret
    exact ⟨⟨false, rfl⟩, rfl⟩
  have t1 : decide (1048576 < (n : Int)) = false := by simp; omega
  have t2 : decide (1048576 < (m : Int)) = false := by simp; omega
  have t4 : decide (1048576 < (n : Int) + (m : Int)) = false := by simp; omega
  go_enter Try.func7, Try.ntmps7
  go_wp2_with fail
  go_loopw [9, 10] (fun s i wr => ∃ k q : Nat, k ≤ m ∧ q ≤ 1048576 ∧ i = .int .i64 k ∧ s = .int .i64 q ∧ w = wr) (fun _ i _ => m - (intOf i).toNat)
  case atStart => exact ⟨0, n + m, Nat.zero_le _, by omega, rfl, by go_num, rfl⟩
  case round =>
    obtain ⟨k, q, hk, hq, rfl, rfl, rfl⟩ := hrel
    by_cases hlt : k < m
    · obtain ⟨b, o, rfl, hb, hcell⟩ := h k hlt
      have hx := hcell k hlt
      have hLk := hL k hlt
      clear hcell h hL
      generalize L k = x at *
      by_cases hx1 : 1048576 < x
      · go_wp2
        go_ret
        exact ⟨⟨false, rfl⟩, rfl⟩
      by_cases hx2 : 1048576 < q + x
      · go_wp2
        go_ret
        exact ⟨⟨false, rfl⟩, rfl⟩
      have t5 : decide (1048576 < (x : Int)) = false := by simp; omega
      have t6 : decide (1048576 < (q : Int) + (x : Int)) = false := by simp; omega
      go_wp2
      exact ⟨⟨k + 1, q + x, by omega, by omega, by go_num, by go_num, trivial⟩, by simp [intOf]; omega⟩
    · obtain rfl : k = m := by omega
      by_cases hx1 : 1048576 < l
      · go_wp2
        go_ret
        exact ⟨⟨false, rfl⟩, rfl⟩
      by_cases hx2 : 1048576 < q + l
      · go_wp2
        go_ret
        exact ⟨⟨false, rfl⟩, rfl⟩
      go_wp2
      go_ret
      exact ⟨⟨true, rfl⟩, rfl⟩
end Go.Proofs.Qxb6602686a
