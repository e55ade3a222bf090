/-
  The length of an unsigned varint: PutUvarint, uvarintLen.
-/
import Derived.Test.Qxb6003418aBase
namespace Go.Proofs.Qxb6003418a
open Go.RowKit
set_option linter.unusedVariables false

/-- The number of bytes, by fuel. -/
def ulenF : Nat → Nat → Nat
  | 0, _ => 1
  | f + 1, y => if y < 128 then 1 else 1 + ulenF f (y / 128)

/-- The number of bytes of the varint of v. -/
def ulen (v : Int) : Int := ulenF 9 v.toNat

theorem ulenF_bd (f y : Nat) : 1 ≤ ulenF f y ∧ ulenF f y ≤ f + 1 := by
  induction f generalizing y with
  | zero => simp [ulenF]
  | succ f ih =>
    unfold ulenF
    split
    · omega
    · have := ih (y / 128); omega

theorem ulen_bd (v : Int) : 1 ≤ ulen v ∧ ulen v ≤ 10 := by
  have := ulenF_bd 9 v.toNat
  unfold ulen
  omega

theorem ulenF_small (f y : Nat) (h : y < 128) : ulenF f y = 1 := by
  cases f with
  | zero => rfl
  | succ f => simp [ulenF, h]

theorem ulenF_step (f y : Nat) (h : ¬ y < 128) : ulenF (f + 1) y = 1 + ulenF f (y / 128) := by simp [ulenF, h]

theorem retInt {k : IntKind} {a b : Int} (h : a = b) : Ending.returned (.int k a) = .returned (.int k b) := by rw [h]

theorem div128_lt {f y : Nat} (h : y < 128 ^ (f + 1 + 1)) : y / 128 < 128 ^ (f + 1) := by
  rw [Nat.pow_succ] at h
  exact Nat.div_lt_of_lt_mul (by rw [Nat.mul_comm]; exact h)

set_option maxHeartbeats 1000000 in
theorem put_any (g e : Nat) (v : Nat) (xs : List Value) (w : World) (hv : v ≤ 18446744073709551615) (hown : w.ownsRow g e 1 (.slice (some ⟨g, 0, none⟩) 10 10) 10 xs) :
    Calls Try.prog 50 #[.slice (some ⟨g, 0, none⟩) 10 10, .int .u64 v] w fun e w' => e = .returned (.int .i64 (ulenF 9 v)) ∧ Below g w w' := by
  go_enter Try.func50, Try.ntmps50
  go_wp2
  go_loopw [1, 5] (fun x i wr => ∃ f k y : Nat, ∃ zs, f + k = 9 ∧ x = .int .u64 y ∧ i = .int .i64 k ∧ Hid (y < 128 ^ (f + 1)) ∧ Hid (ulenF 9 v = k + ulenF f y) ∧ wr.ownsRow g e 1 (.slice (some ⟨g, 0, none⟩) 10 10) 10 zs ∧ Below g w wr) (fun _ i _ => 10 - (intOf i).toNat)
  case atStart => exact ⟨9, 0, v, xs, rfl, rfl, rfl, by show v < _; omega, by show _ = _; omega, hown, Below.refl _ _⟩
  case round =>
    obtain ⟨f, k, y, zs, hfk, rfl, rfl, hy, hu, hown', hbel⟩ := hrel
    have hfz := hown'.frozenAt k
    obtain ⟨v0, hv0⟩ : ∃ v0, wr.cell? ⟨g, k, none⟩ = some v0 := by
      rw [hown'.cellAt k (by omega)]
      have : k < zs.length := by rw [hown'.1]; omega
      exact ⟨_, List.getElem?_eq_getElem this⟩
    have HO : Hid (wr.ownsRow g e 1 (.slice (some ⟨g, 0, none⟩) 10 10) 10 zs) := hown'
    have hk10 : k < 10 := by omega
    have HF : Hid (f + k = 9) := hfk
    clear hown' hown hfk
    by_cases hlt : y < 128
    · have hge : ¬ (128 : Int) ≤ (y : Int) := by omega
      go_wp2
      go_ret
      refine ⟨?_, hbel.setCell (Nat.le_refl _) _⟩
      exact retInt (by rw [hu.out, ulenF_small f y hlt]; omega)
    · have hge : (128 : Int) ≤ (y : Int) := by omega
      go_wp2
      go_roundw
      case rel =>
        have hf := HF.out
        have hyo := hy.out
        obtain ⟨f', rfl⟩ : ∃ f', f = f' + 1 := by
          cases f with
          | zero => simp at hyo; omega
          | succ f' => exact ⟨f', rfl⟩
        refine ⟨f', k + 1, y / 128, _, by omega, by go_num, by go_num, ?_, ?_, (HO.out.stored k _).1, hbel.setCell (Nat.le_refl _) _⟩
        · exact div128_lt hyo
        · show _ = _
          rw [hu.out, ulenF_step f' y hlt]; omega
      case measure => simp [intOf]; omega

set_option maxHeartbeats 1000000 in
theorem ulen_any (v : Int) (w : World) (h0 : 0 ≤ v) (h1 : v ≤ 18446744073709551615) :
    Calls Try.prog 49 #[.int .u64 v] w fun e w' => e = .returned (.int .i64 (ulen v)) ∧ Below w.heap.size w w' := by
  obtain ⟨v, rfl⟩ := Int.eq_ofNat_of_zero_le h0
  go_enter Try.func49, Try.ntmps49
  go_wp2_with fail
  refine (put_any w.heap.size 72 v _ _ (by omega) (World.ownsRow_lit w _ 10 (Nat.le_refl _) (by decide) (by decide))).mono ?_
  rintro e w1 ⟨rfl, hb1⟩
  go_wp2
  go_ret
  exact ⟨retInt (by unfold ulen; rw [Int.toNat_natCast]), ((Below.refl _ _).alloc (Nat.le_refl _) _).trans hb1⟩
end Go.Proofs.Qxb6003418a
