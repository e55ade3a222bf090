/-
  The walk of tokenOrder.
-/
import Derived.Test.Qxb6003418aCmp
namespace Go.Proofs.Qxb6003418a
open Go.RowKit
set_option linter.unusedVariables false

set_option maxHeartbeats 1000000 in
theorem tokenOrder_core (B B' : Nat) (ao bo : Option Addr) (na ca nb cb : Nat) (xs ys : List Int) (an bn : Int) (m : Nat) (w : World) (ha : Sl B .u8 w ao na ca xs) (hb : Sl B' .u8 w bo nb cb ys)
    (hya : Bytes xs) (hyb : Bytes ys) (hm : (m : Int) = (if bn < an then bn else an)) (hma : m ≤ 2 * na) (hmb : m ≤ 2 * nb) (hna : na ≤ 1048576) (hnb : nb ≤ 1048576) :
    Calls Try.prog 21 #[.slice ao na ca, .int .i64 an, .slice bo nb cb, .int .i64 bn] w fun e w' =>
      ∃ t : Nat, e = .returned (.int .i64 (ordV xs ys an bn t)) ∧ CP (tokI xs) (tokI ys) m t ∧ w' = w := by
  by_cases hlt : bn < an
  · obtain rfl : bn = (m : Int) := by rw [hm, if_pos hlt]
    clear hm
    go_enter Try.func21, Try.ntmps21
    go_wp2
    go_loop [10] (fun i => ∃ k : Nat, k ≤ m ∧ i = .int .i64 k ∧ Hid (∀ j, j < k → tokI xs j = tokI ys j)) (fun i => m - (intOf i).toNat)
    case atStart => exact ⟨0, Nat.zero_le _, rfl, fun j hj => absurd hj (Nat.not_lt_zero _)⟩
    case round =>
      obtain ⟨k, hk, rfl, heq⟩ := hrel
      by_cases hkm : k < m
      · have cA := tok_any B ao na ca xs (k : Int) w ha hya (by omega) (by omega) hna
        have cB := tok_any B' bo nb cb ys (k : Int) w hb hyb (by omega) (by omega) hnb
        rw [Int.toNat_natCast] at cA cB
        have HA : Hid (Calls Try.prog 16 #[.slice ao na ca, .int .i64 k] w fun e w' => e = .returned (.int .u8 (tokI xs k)) ∧ w' = w) := cA
        have HB : Hid (Calls Try.prog 16 #[.slice bo nb cb, .int .i64 k] w fun e w' => e = .returned (.int .u8 (tokI ys k)) ∧ w' = w) := cB
        clear cA cB
        have hox : ordV xs ys an (m : Int) k = sgI (tokI xs k - tokI ys k) := by unfold ordV; rw [if_pos (by omega)]
        have HO : Hid (ordV xs ys an (m : Int) k = sgI (tokI xs k - tokI ys k)) := hox
        clear hox
        go_wp2_with (first
          | (go_at_call_of 16 (Value.slice ao na ca); refine HA.out.mono ?_; rintro e w' ⟨rfl, rfl⟩)
          | (go_at_call_of 16 (Value.slice bo nb cb); refine HB.out.mono ?_; rintro e w' ⟨rfl, rfl⟩))
        · have h1 : tokI xs k < tokI ys k := by assumption
          go_ret
          refine ⟨k, ?_, ⟨hk, heq.out, fun _ => by omega⟩, rfl⟩
          exact ret_int (by rw [HO.out]; unfold sgI; rw [if_pos (by omega)])
        · have h1 : tokI ys k < tokI xs k := by assumption
          go_ret
          refine ⟨k, ?_, ⟨hk, heq.out, fun _ => by omega⟩, rfl⟩
          exact ret_int (by rw [HO.out]; unfold sgI; rw [if_neg (by omega), if_pos (by omega)])
        · have h1 : tokI xs k ≤ tokI ys k := by assumption
          have h2 : tokI ys k ≤ tokI xs k := by assumption
          go_round
          case rel => exact ⟨k + 1, by omega, by go_num, fun j hj => (by
            by_cases h : j = k
            · subst h; omega
            · exact heq.out j (by omega))⟩
          case measure => simp [intOf]; omega
      · have hkk : k = m := by omega
        have HO : Hid (ordV xs ys an (m : Int) k = sgI (an - (m : Int))) := by unfold ordV; rw [if_neg (by omega)]; rfl
        subst hkk
        go_wp2
        all_goals go_ret
        all_goals refine ⟨k, ?_, ⟨hk, heq.out, fun h => by omega⟩, rfl⟩
        all_goals exact ret_int (by rw [HO.out]; unfold sgI; (repeat' split) <;> omega)
  · obtain rfl : an = (m : Int) := by rw [hm, if_neg hlt]
    clear hm
    go_enter Try.func21, Try.ntmps21
    go_wp2
    go_loop [10] (fun i => ∃ k : Nat, k ≤ m ∧ i = .int .i64 k ∧ Hid (∀ j, j < k → tokI xs j = tokI ys j)) (fun i => m - (intOf i).toNat)
    case atStart => exact ⟨0, Nat.zero_le _, rfl, fun j hj => absurd hj (Nat.not_lt_zero _)⟩
    case round =>
      obtain ⟨k, hk, rfl, heq⟩ := hrel
      by_cases hkm : k < m
      · have cA := tok_any B ao na ca xs (k : Int) w ha hya (by omega) (by omega) hna
        have cB := tok_any B' bo nb cb ys (k : Int) w hb hyb (by omega) (by omega) hnb
        rw [Int.toNat_natCast] at cA cB
        have HA : Hid (Calls Try.prog 16 #[.slice ao na ca, .int .i64 k] w fun e w' => e = .returned (.int .u8 (tokI xs k)) ∧ w' = w) := cA
        have HB : Hid (Calls Try.prog 16 #[.slice bo nb cb, .int .i64 k] w fun e w' => e = .returned (.int .u8 (tokI ys k)) ∧ w' = w) := cB
        clear cA cB
        have hox : ordV xs ys (m : Int) bn k = sgI (tokI xs k - tokI ys k) := by unfold ordV; rw [if_pos (by omega)]
        have HO : Hid (ordV xs ys (m : Int) bn k = sgI (tokI xs k - tokI ys k)) := hox
        clear hox
        go_wp2_with (first
          | (go_at_call_of 16 (Value.slice ao na ca); refine HA.out.mono ?_; rintro e w' ⟨rfl, rfl⟩)
          | (go_at_call_of 16 (Value.slice bo nb cb); refine HB.out.mono ?_; rintro e w' ⟨rfl, rfl⟩))
        · have h1 : tokI xs k < tokI ys k := by assumption
          go_ret
          refine ⟨k, ?_, ⟨hk, heq.out, fun _ => by omega⟩, rfl⟩
          exact ret_int (by rw [HO.out]; unfold sgI; rw [if_pos (by omega)])
        · have h1 : tokI ys k < tokI xs k := by assumption
          go_ret
          refine ⟨k, ?_, ⟨hk, heq.out, fun _ => by omega⟩, rfl⟩
          exact ret_int (by rw [HO.out]; unfold sgI; rw [if_neg (by omega), if_pos (by omega)])
        · have h1 : tokI xs k ≤ tokI ys k := by assumption
          have h2 : tokI ys k ≤ tokI xs k := by assumption
          go_round
          case rel => exact ⟨k + 1, by omega, by go_num, fun j hj => (by
            by_cases h : j = k
            · subst h; omega
            · exact heq.out j (by omega))⟩
          case measure => simp [intOf]; omega
      · have hkk : k = m := by omega
        have HO : Hid (ordV xs ys (m : Int) bn k = sgI ((m : Int) - bn)) := by unfold ordV; rw [if_neg (by omega)]; rfl
        subst hkk
        go_wp2
        all_goals go_ret
        all_goals refine ⟨k, ?_, ⟨hk, heq.out, fun h => by omega⟩, rfl⟩
        all_goals exact ret_int (by rw [HO.out]; unfold sgI; (repeat' split) <;> omega)

theorem tokenOrder_any (B B' : Nat) (ao bo : Option Addr) (na ca nb cb : Nat) (xs ys : List Int) (an bn : Int) (w : World) (ha : Sl B .u8 w ao na ca xs) (hb : Sl B' .u8 w bo nb cb ys)
    (hya : Bytes xs) (hyb : Bytes ys) (ha0 : 0 ≤ an) (ha1 : an ≤ 2 * na) (hb0 : 0 ≤ bn) (hb1 : bn ≤ 2 * nb) (hna : na ≤ 1048576) (hnb : nb ≤ 1048576) :
    Calls Try.prog 21 #[.slice ao na ca, .int .i64 an, .slice bo nb cb, .int .i64 bn] w fun e w' =>
      ∃ t : Nat, e = .returned (.int .i64 (ordV xs ys an bn t)) ∧ CP (tokI xs) (tokI ys) (min an.toNat bn.toNat) t ∧ w' = w :=
  tokenOrder_core B B' ao bo na ca nb cb xs ys an bn (min an.toNat bn.toNat) w ha hb hya hyb (by split <;> omega) (by omega) (by omega) hna hnb
end Go.Proofs.Qxb6003418a
