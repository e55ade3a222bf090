/-
  The law's guard zzReaderBytesFit.
-/
import Derived.Test.Qxb6602686aDom
namespace Go.Proofs.Qxb6602686a
open Go.RowKit
set_option linter.unusedVariables false

/-- The cells of a slice of slices as it came in. -/
def In2 (w : World) (to : Option Addr) (m : Nat) (A : Nat → Option Addr) (L C : Nat → Nat) : Prop :=
  ∀ r, r < m → ∃ b o, to = some ⟨b, o, none⟩ ∧ b < w.heap.size ∧ ∀ r, r < m → w.cell? ⟨b, o + r, none⟩ = some (.slice (A r) (L r) (C r))

def sumL (L : Nat → Nat) : Nat → Nat
  | 0 => 0
  | k + 1 => sumL L k + L k

theorem sumL_le (L : Nat → Nat) (k r : Nat) (h : r < k) : L r ≤ sumL L k := by
  induction k with
  | zero => omega
  | succ k ih =>
    unfold sumL
    by_cases e : r = k
    · subst e; omega
    · have := ih (by omega); omega

set_option maxHeartbeats 1000000 in
theorem fit_any (ko to mo : Option Addr) (n kc m tc l mc : Nat) (A : Nat → Option Addr) (L C : Nat → Nat) (w : World) (h : In2 w to m A L C) (hL : ∀ r, r < m → L r ≤ 9223372036854775807) (hn : n ≤ 9223372036854775807) (hm : m ≤ 9223372036854775807) (hl : l ≤ 9223372036854775807) :
    Calls Try.prog 8 #[.slice ko n kc, .slice to m tc, .slice mo l mc] w fun e w' => ∃ b, e = .returned (.bool b) ∧ Hid (b = true → 8 * n + 8 * m + 8 * l + 8 * sumL L m ≤ 1048576) ∧ w = w' := by
  by_cases h1 : 1048576 < n
  · clear h hL
    go_enter Try.func8, Try.ntmps8
    go_wp2
    go_ret
    first | exact ⟨false, rfl, (fun e => by cases e), rfl⟩ | exact .inl ⟨rfl, (trivial : True), rfl⟩
  by_cases h2 : 1048576 < m
  · clear h hL
    go_enter Try.func8, Try.ntmps8
    go_wp2
    go_ret
    first | exact ⟨false, rfl, (fun e => by cases e), rfl⟩ | exact .inl ⟨rfl, (trivial : True), rfl⟩
  by_cases h3 : 1048576 < l
  · clear h hL
    go_enter Try.func8, Try.ntmps8
    go_wp2
    go_ret
    first | exact ⟨false, rfl, (fun e => by cases e), rfl⟩ | exact .inl ⟨rfl, (trivial : True), rfl⟩
  by_cases h4 : 1048576 < 8 * n + 8 * m + 8 * l
  · clear h hL
    go_enter Try.func8, Try.ntmps8
    go_wp2
    go_ret
    first | exact ⟨false, rfl, (fun e => by cases e), rfl⟩ | exact .inl ⟨rfl, (trivial : True), rfl⟩
  have t1 : decide (1048576 < (n : Int)) = false := by simp; omega
  have t2 : decide (1048576 < (m : Int)) = false := by simp; omega
  have t3 : decide (1048576 < (l : Int)) = false := by simp; omega
  have t4 : decide (1048576 < 8 * (n : Int) + 8 * (m : Int) + 8 * (l : Int)) = false := by simp; omega
  go_enter Try.func8, Try.ntmps8
  go_wp2_with fail
  go_loopw [7, 8] (fun s i wr => ∃ k q : Nat, k ≤ m ∧ q ≤ 1048576 ∧ i = .int .i64 k ∧ s = .int .i64 q ∧ Hid (q = 8 * n + 8 * m + 8 * l + 8 * sumL L k) ∧ w = wr) (fun _ i _ => m - (intOf i).toNat)
  case atStart => exact ⟨0, 8 * n + 8 * m + 8 * l, Nat.zero_le _, by omega, rfl, by go_num, rfl, rfl⟩
  case round =>
    obtain ⟨k, q, hk, hq, rfl, rfl, HQ, rfl⟩ := hrel
    by_cases hlt : k < m
    · obtain ⟨b, o, rfl, hb, hcell⟩ := h k hlt
      have hx := hcell k hlt
      have hLk := hL k hlt
      have HS : Hid (sumL L (k + 1) = sumL L k + L k) := rfl
      have HM : Hid (sumL L (k + 1) ≤ sumL L m → True) := fun _ => trivial
      clear hcell h hL HM
      generalize L k = x at *
      by_cases hx1 : 1048576 < x
      · go_wp2
        go_ret
        first | exact ⟨false, rfl, (fun e => by cases e), rfl⟩ | exact .inl ⟨rfl, (trivial : True), rfl⟩
      by_cases hx2 : 1048576 < q + 8 * x
      · go_wp2
        go_ret
        first | exact ⟨false, rfl, (fun e => by cases e), rfl⟩ | exact .inl ⟨rfl, (trivial : True), rfl⟩
      have t5 : decide (1048576 < (x : Int)) = false := by simp; omega
      have t6 : decide (1048576 < (q : Int) + 8 * (x : Int)) = false := by simp; omega
      have HQ' : Hid (q + 8 * x = 8 * n + 8 * m + 8 * l + 8 * sumL L (k + 1)) := by show _ = _; rw [HS.out]; have := HQ.out; omega
      go_wp2
      exact ⟨⟨k + 1, q + 8 * x, by omega, by omega, by go_num, by go_num, HQ', trivial⟩, by simp [intOf]; omega⟩
    · obtain rfl : k = m := by omega
      go_wp2
      go_ret
      exact ⟨true, rfl, (fun _ => by have := HQ.out; omega), rfl⟩
end Go.Proofs.Qxb6602686a
