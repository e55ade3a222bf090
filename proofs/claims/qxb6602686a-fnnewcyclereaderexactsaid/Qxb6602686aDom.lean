/-
  The law's guards: zzReaderDomain, zzReaderBytesFit, zzBytes.
-/
import Derived.Test.Qxb6602686aLook
namespace Go.Proofs.Qxb6602686a
open Go.RowKit
set_option linter.unusedVariables false

theorem asc_of (zs : List Int) (h : ∀ i, i + 1 < zs.length → zs.getD i 0 < zs.getD (i + 1) 0) : Asc zs := by
  intro i j hij hj
  induction j with
  | zero => omega
  | succ j ih =>
    by_cases e : i = j
    · subst e; exact h i hj
    · exact Int.lt_trans (ih (by omega) (by omega)) (h j hj)

set_option maxHeartbeats 1000000 in
theorem domain_any (ko to mo : Option Addr) (n kc m tc l mc : Nat) (ms : List Int) (first : Int) (w : World) (h : In .u64 w mo l ms) (hu : U64s ms) (hn : n ≤ 1048576) (hm : m ≤ 1048576) (hl : l ≤ 131072) :
    Calls Try.prog 9 #[.slice ko n kc, .slice to m tc, .int .u64 first, .slice mo l mc] w fun e w' => ∃ b, e = .returned (.bool b) ∧ Hid (b = true → n = m ∧ Asc ms ∧ ∃ f, f < l ∧ ms.getD f 0 = first) ∧ Below w.heap.size w w' := by
  have HL : Hid (ms.length = l) := h.1
  have HU : Hid (U64s ms) := hu
  by_cases hnm : n = m
  · subst hnm
    have t0 : ((n : Int) != (n : Int)) = false := by simp
    go_enter Try.func9, Try.ntmps9
    go_wp2_with fail
    go_loopw [9] (fun i wr => ∃ k : Nat, (k ≤ l ∨ k = 1) ∧ 1 ≤ k ∧ i = .int .i64 k ∧ Hid (∀ i, i + 1 < k → i + 1 < l → ms.getD i 0 < ms.getD (i + 1) 0) ∧ Below w.heap.size w wr) (fun i _ => l + 1 - (intOf i).toNat)
    case atStart => exact ⟨1, .inr rfl, by omega, rfl, fun i hi => absurd hi (by omega), Below.refl _ _⟩
    case round =>
      obtain ⟨k, hk, hk1, rfl, HK, hbel⟩ := hrel
      by_cases hlt : k < l
      · obtain ⟨hl', _, hin⟩ := h
        obtain ⟨b, o, rfl, hb, hcell⟩ := hin k hlt
        have hx := (hbel.cell (p := ⟨b, o + k, none⟩) hb).trans (hcell k hlt)
        have hy := (hbel.cell (p := ⟨b, o + (k - 1), none⟩) hb).trans (hcell (k - 1) (by omega))
        have hxu := hu k
        have hyu := hu (k - 1)
        have hki : (k : Int) < (l : Int) := by omega
        have hk1i : (1 : Int) ≤ (k : Int) := by omega
        clear hin hcell hl' hu
        by_cases hge : ms.getD k 0 ≤ ms.getD (k - 1) 0
        · generalize ms.getD k 0 = x at *
          generalize ms.getD (k - 1) 0 = y at *
          go_wp2
          go_quiet (fail)
          go_wp2
          go_ret
          exact ⟨false, rfl, (fun e => by cases e), below_drewN hbel _⟩
        · have HK' : Hid (∀ i, i + 1 < k + 1 → i + 1 < l → ms.getD i 0 < ms.getD (i + 1) 0) := fun i hi hil => by
            by_cases e : i + 1 = k
            · obtain rfl : i = k - 1 := by omega
              rw [e]; omega
            · exact HK.out i (by omega) hil
          generalize ms.getD k 0 = x at *
          generalize ms.getD (k - 1) 0 = y at *
          go_wp2
          go_quiet (fail)
          go_wp2
          go_roundw
          case rel => exact ⟨k + 1, .inl (by omega), by omega, by go_num, HK', below_drewN hbel _⟩
          case measure => simp [intOf]; omega
      · have hasc : Asc ms := asc_of ms fun i hi => HK.out i (by have := HL.out; omega) (by have := HL.out; omega)
        have HA : Hid (Asc ms) := hasc
        have h' : In .u64 wr mo l ms := by
          refine ⟨h.1, h.2.1, fun i hi => ?_⟩
          obtain ⟨b, o, e1, e2, e3⟩ := h.2.2 i hi
          exact ⟨b, o, e1, Nat.lt_of_lt_of_le e2 hbel.size, fun j hj => (hbel.cell (p := ⟨b, o + j, none⟩) e2).trans (e3 j hj)⟩
        have hc := rank_any mo l mc ms first wr h' hasc hu hl
        clear h h' hasc hu
        go_wp2_with fail
        refine hc.mono ?_
        clear hc
        rintro e w' ⟨r, rfl, HR, rfl⟩
        rcases HR.out with ⟨f, hf, hft, rfl⟩ | ⟨hno, rfl⟩
        · have HF : Hid (∃ f, f < l ∧ ms.getD f 0 = first) := ⟨f, by rw [← HL.out]; exact hf, hft⟩
          clear hft
          go_wp2
          go_ret
          exact ⟨_, rfl, (fun _ => ⟨by first | rfl | trivial, HA.out, HF.out⟩), hbel⟩
        · clear hno
          go_wp2
          go_ret
          exact ⟨false, rfl, (fun e => by cases e), hbel⟩
  · have t0 : ((n : Int) != (m : Int)) = true := by simp; omega
    clear h hu
    go_enter Try.func9, Try.ntmps9
    go_wp2
    go_ret
    exact ⟨false, rfl, (fun e => by cases e), Below.refl _ _⟩
end Go.Proofs.Qxb6602686a
