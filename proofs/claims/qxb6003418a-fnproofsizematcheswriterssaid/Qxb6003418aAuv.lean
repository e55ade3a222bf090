/-
  The bytes of an unsigned varint: AppendUvarint, readUv, uvLen.
-/
import Derived.Test.Qxb6003418aFo
namespace Go.Proofs.Qxb6003418a
open Go.RowKit
set_option linter.unusedVariables false

/-- The bytes, by fuel. -/
def uvbF : Nat → Nat → List Int
  | 0, y => [(y : Int)]
  | f + 1, y => if y < 128 then [(y : Int)] else ((y % 128 + 128 : Nat) : Int) :: uvbF f (y / 128)

/-- The bytes of the varint of v. -/
def uvb (v : Int) : List Int := uvbF 9 v.toNat

theorem uvbF_len (f y : Nat) : (uvbF f y).length = ulenF f y := by
  induction f generalizing y with
  | zero => rfl
  | succ f ih =>
    unfold uvbF ulenF
    split
    · rfl
    · simp [ih]; omega

theorem uvb_len (v : Int) : ((uvb v).length : Int) = ulen v := by unfold uvb ulen; rw [uvbF_len]

theorem uvbF_small (f y : Nat) (h : y < 128) : uvbF f y = [(y : Int)] := by
  cases f with
  | zero => rfl
  | succ f => simp [uvbF, h]

theorem uvbF_step (f y : Nat) (h : ¬ y < 128) : uvbF (f + 1) y = ((y % 128 + 128 : Nat) : Int) :: uvbF f (y / 128) := by simp [uvbF, h]

theorem or128_fin : ∀ r : Fin 256, bits BinOp.or IntKind.u8 (r.val : Int) 128 = ((r.val % 128 + 128 : Nat) : Int) := by decide +kernel

theorem or128 (y : Nat) : bits BinOp.or IntKind.u8 ((y : Int) % 256) 128 = ((y % 128 + 128 : Nat) : Int) := by
  have h := or128_fin ⟨y % 256, by omega⟩
  simp only [] at h
  rw [show ((y : Int) % 256) = ((y % 256 : Nat) : Int) by omega, h]
  congr 2
  omega

set_option maxHeartbeats 1000000 in
theorem appendUvarint_any (B : Nat) (v : Value) (zs : List Int) (x : Nat) (w : World) (hfo : Fo B 5 .u8 w v zs) (hB : B ≤ w.heap.size) (hx : x ≤ 18446744073709551615) (hz : zs.length ≤ 536870912) :
    Calls Try.prog 48 #[v, .int .u64 x] w fun e w' => ∃ v', e = .returned v' ∧ w'.ownsRow B 5 1 v' (zs ++ uvbF 9 x).length ((zs ++ uvbF 9 x).map (Value.int .u8)) ∧ Below B w w' := by
  obtain ⟨i0, hi, hz0, hz1, hz2⟩ := info_parts info5
  have HFO : Hid (Fo B 5 .u8 w v zs) := hfo
  clear hfo
  go_enter Try.func48, Try.ntmps48
  go_wp2
  go_loopw [0, 1] (fun b q wr => ∃ f y : Nat, ∃ ks : List Int, q = .int .u64 y ∧ ks.length + f = 9 ∧ y ≤ 18446744073709551615 ∧ Hid (y < 128 ^ (f + 1)) ∧ Hid (uvbF 9 x = ks ++ uvbF f y) ∧ Hid (Fo B 5 .u8 wr b (zs ++ ks)) ∧ Below B w wr) (fun _ q _ => (intOf q).toNat)
  case atStart => exact ⟨9, x, [], rfl, rfl, hx, by show x < _; omega, by show _ = _; simp, by show Fo _ _ _ _ _ _; rw [List.append_nil]; exact HFO.out, Below.refl _ _⟩
  case round =>
    obtain ⟨f, y, ks, rfl, hkf, hy64, hy, hu, HF, hbel⟩ := hrel
    have hBr : B ≤ wr.heap.size := Nat.le_trans hB hbel.size
    have HKF : Hid (ks.length + f = 9) := hkf
    clear hkf HFO
    have hkl : ks.length ≤ 9 := by have := HKF.out; omega
    by_cases hlt : y < 128
    · have hge : ¬ (128 : Int) ≤ (y : Int) := by omega
      go_wp2_with (at_builtin; refine wpList_append_fo _ rfl (.tmp 15) (.tmp 18) 22 rfl B 5 i0 .u8 1 Try.underlying22 hi hz0 hz1 hz2 u0 (zs ++ ks) rfl ?hfo ?hB ⟨wr.heap.size, 0, none⟩ 1 1 [(y : Int)] rfl rfl ?hc (by decide) ?b1 (by decide) ?_)
      case hfo => exact HF.out.below ((Below.refl _ _).alloc (Nat.le_refl _) _) hBr
      case hB => first | omega | exact Nat.le_trans hBr (by simp)
      case b1 => first | omega | (simp; omega)
      intro v' w1 ho hb1 _
      have ho2 : w1.ownsRow B 5 1 v' (zs ++ (ks ++ [(y : Int)])).length ((zs ++ (ks ++ [(y : Int)])).map (Value.int .u8)) := by simpa using ho
      have HO2 : Hid (w1.ownsRow B 5 1 v' (zs ++ uvbF 9 x).length ((zs ++ uvbF 9 x).map (Value.int .u8))) := by
        show World.ownsRow _ _ _ _ _ _ _
        rw [hu.out, uvbF_small f y hlt]; exact ho2
      clear hi hz0 hz1 hz2 ho ho2
      go_wp2
      go_ret
      exact ⟨v', rfl, HO2.out, (hbel.alloc hBr _).trans hb1⟩
    · have hge : (128 : Int) ≤ (y : Int) := by omega
      go_wp2_with (at_builtin; refine wpList_append_fo _ rfl (.tmp 7) (.tmp 11) 22 rfl B 5 i0 .u8 1 Try.underlying22 hi hz0 hz1 hz2 u0 (zs ++ ks) rfl ?hfo2 ?hB2 ⟨wr.heap.size, 0, none⟩ 1 1 [bits BinOp.or IntKind.u8 ((y : Int) % 256) 128] rfl rfl ?hc2 (by decide) ?b12 (by decide) ?_)
      case hfo2 => exact HF.out.below ((Below.refl _ _).alloc (Nat.le_refl _) _) hBr
      case hB2 => first | omega | exact Nat.le_trans hBr (by simp)
      case hc2 =>
        intro j hj
        obtain rfl : j = 0 := by omega
        simp [go_sem, Addr.add]
      case b12 => first | omega | (simp; omega)
      intro v' w1 ho hb1 _
      rw [or128] at ho
      have ho2 : w1.ownsRow B 5 1 v' (zs ++ (ks ++ [((y % 128 + 128 : Nat) : Int)])).length ((zs ++ (ks ++ [((y % 128 + 128 : Nat) : Int)])).map (Value.int .u8)) := by simpa using ho
      have HO2 : Hid (w1.ownsRow B 5 1 v' (zs ++ (ks ++ [((y % 128 + 128 : Nat) : Int)])).length ((zs ++ (ks ++ [((y % 128 + 128 : Nat) : Int)])).map (Value.int .u8))) := ho2
      clear ho ho2
      clear hi hz0 hz1 hz2
      go_wp2
      go_roundw
      case rel =>
        have hf := HKF.out
        have hyo := hy.out
        obtain ⟨f', rfl⟩ : ∃ f', f = f' + 1 := by
          cases f with
          | zero => simp at hyo; omega
          | succ f' => exact ⟨f', rfl⟩
        refine ⟨f', y / 128, ks ++ [((y % 128 + 128 : Nat) : Int)], by go_num, by simp; omega, by omega, ?_, ?_, ?_, ?_⟩
        · exact div128_lt hyo
        · show _ = _
          rw [hu.out, uvbF_step f' y hlt]; simp
        · exact .inr HO2.out
        · exact (hbel.alloc hBr _).trans hb1
      case measure => simp [intOf]; omega
end Go.Proofs.Qxb6003418a
