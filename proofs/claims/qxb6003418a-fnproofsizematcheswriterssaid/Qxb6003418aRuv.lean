/-
  readUv, uvLen.
-/
import Derived.Test.Qxb6003418aAuv
import Derived.Lib.VarintBits
namespace Go.Proofs.Qxb6003418a
open Go.RowKit
set_option linter.unusedVariables false

/-- The k-th byte of a varint that goes on behind its first k bytes. -/
def byteAt (y : Nat) : Int := if y < 128 then (y : Int) else ((y % 128 + 128 : Nat) : Int)

theorem uvb_at0 (X : Nat) (r : List Int) : (uvbF 9 X ++ r).getD 0 0 = byteAt X ∧ 0 < (uvbF 9 X).length := by
  unfold byteAt
  by_cases h : X < 128
  · rw [uvbF_small 9 X h]; simp [h]
  · rw [uvbF_step 8 X h]; simp [h]

theorem uvb_at1 (X : Nat) (r : List Int) (h0 : 128 ≤ X) : (uvbF 9 X ++ r).getD 1 0 = byteAt (X / 128) ∧ 1 < (uvbF 9 X).length := by
  unfold byteAt
  rw [uvbF_step 8 X (by omega)]
  by_cases h : X / 128 < 128
  · rw [uvbF_small 8 _ h]; simp [h]
  · rw [uvbF_step 7 _ h]; simp [h]

theorem uvb_at2 (X : Nat) (r : List Int) (h0 : 16384 ≤ X) : (uvbF 9 X ++ r).getD 2 0 = byteAt (X / 16384) ∧ 2 < (uvbF 9 X).length := by
  have e : X / 128 / 128 = X / 16384 := by omega
  unfold byteAt
  rw [uvbF_step 8 X (by omega), uvbF_step 7 _ (by omega), e]
  by_cases h : X / 16384 < 128
  · rw [uvbF_small 7 _ h]; simp [h]
  · rw [uvbF_step 6 _ h]; simp [h]

theorem uvb_at3 (X : Nat) (r : List Int) (h0 : 2097152 ≤ X) : (uvbF 9 X ++ r).getD 3 0 = byteAt (X / 2097152) ∧ 3 < (uvbF 9 X).length := by
  have e : X / 128 / 128 / 128 = X / 2097152 := by omega
  unfold byteAt
  rw [uvbF_step 8 X (by omega), uvbF_step 7 _ (by omega), uvbF_step 6 _ (by omega), e]
  by_cases h : X / 2097152 < 128
  · rw [uvbF_small 6 _ h]; simp [h]
  · rw [uvbF_step 5 _ h]; simp [h]

theorem ulenF_1 (X : Nat) (h : X < 128) : ulenF 9 X = 1 := ulenF_small 9 X h
theorem ulenF_2 (X : Nat) (h0 : 128 ≤ X) (h : X < 16384) : ulenF 9 X = 2 := by rw [ulenF_step 8 X (by omega), ulenF_small 8 _ (by omega)]
theorem ulenF_3 (X : Nat) (h0 : 16384 ≤ X) (h : X < 2097152) : ulenF 9 X = 3 := by rw [ulenF_step 8 X (by omega), ulenF_step 7 _ (by omega), ulenF_small 7 _ (by omega)]
theorem ulenF_4 (X : Nat) (h0 : 2097152 ≤ X) (h : X < 268435456) : ulenF 9 X = 4 := by rw [ulenF_step 8 X (by omega), ulenF_step 7 _ (by omega), ulenF_step 6 _ (by omega), ulenF_small 6 _ (by omega)]

theorem rd7 (y0 c : Int) (h0 : 0 ≤ y0) (h1 : y0 < 128) (hc0 : 0 ≤ c) (hc1 : c < 256) : bits BinOp.or IntKind.u64 y0 (IntKind.u64.wrap (IntKind.u64.wrap (bits BinOp.and IntKind.u8 c 127) * 128)) = y0 + c % 128 * 128 := by
  rw [u8_and127 _ hc0 hc1, IntWalk.u64_in (c % 128) (by omega), IntWalk.u64_in _ (by omega), u64_orv7 _ _ h0 h1 (by omega) (by omega) (by omega)]
theorem rd14 (y0 c : Int) (h0 : 0 ≤ y0) (h1 : y0 < 16384) (hc0 : 0 ≤ c) (hc1 : c < 256) : bits BinOp.or IntKind.u64 y0 (IntKind.u64.wrap (IntKind.u64.wrap (bits BinOp.and IntKind.u8 c 127) * 16384)) = y0 + c % 128 * 16384 := by
  rw [u8_and127 _ hc0 hc1, IntWalk.u64_in (c % 128) (by omega), IntWalk.u64_in _ (by omega), u64_orv14 _ _ h0 h1 (by omega) (by omega) (by omega)]
theorem rd21 (y0 c : Int) (h0 : 0 ≤ y0) (h1 : y0 < 2097152) (hc0 : 0 ≤ c) (hc1 : c < 256) : bits BinOp.or IntKind.u64 y0 (IntKind.u64.wrap (IntKind.u64.wrap (bits BinOp.and IntKind.u8 c 127) * 2097152)) = y0 + c % 128 * 2097152 := by
  rw [u8_and127 _ hc0 hc1, IntWalk.u64_in (c % 128) (by omega), IntWalk.u64_in _ (by omega), u64_orv21 _ _ h0 h1 (by omega) (by omega) (by omega)]
theorem rd0 (y0 c : Int) (h0 : 0 ≤ y0) (h1 : y0 < 1) (hc0 : 0 ≤ c) (hc1 : c < 256) : bits BinOp.or IntKind.u64 y0 (IntKind.u64.wrap (IntKind.u64.wrap (bits BinOp.and IntKind.u8 c 127))) = y0 + c % 128 := by
  rw [u8_and127 _ hc0 hc1, IntWalk.u64_in (c % 128) (by omega), IntWalk.u64_in _ (by omega), u64_orv0 _ _ h0 h1 (by omega) (by omega) (by omega)]

theorem ret2_int {k l : IntKind} {a b c d : Int} (h : a = b) (h' : c = d) : Ending.returned (.tuple #[.int k a, .int l c]) = .returned (.tuple #[.int k b, .int l d]) := by rw [h, h']

set_option maxHeartbeats 1000000 in
set_option maxRecDepth 100000 in
theorem readUv_any (B : Nat) (ao : Option Addr) (n cap : Nat) (X : Nat) (r : List Int) (w : World) (h : Sl B .u8 w ao n cap (uvbF 9 X ++ r)) (hX : X < 268435456) (hn : n ≤ 1073741824) :
    Calls Try.prog 25 #[.slice ao n cap] w fun e w' => e = .returned (.tuple #[.int .u64 X, .int .i64 (ulenF 9 X)]) ∧ w = w' := by
  have h0 := uvb_at0 X r
  obtain ⟨hl, ⟨_, hn0, _⟩ | ⟨b, o, rfl, hb, hc, hcell⟩⟩ := h
  · simp at hl; omega
  have HL : Hid ((uvbF 9 X ++ r).length = n) := hl
  have HX : Hid (X < 268435456) := hX
  clear hl hX
  go_enter Try.func25, Try.ntmps25
  go_wp2
  go_loop [4, 5, 6] (fun x s i => ∃ y0 : Nat, (i = .int .i64 0 ∧ s = .int .u64 0 ∧ x = .int .u64 y0 ∧ Hid (y0 = 0)) ∨ (i = .int .i64 1 ∧ s = .int .u64 7 ∧ x = .int .u64 y0 ∧ Hid (y0 = X % 128 ∧ 128 ≤ X)) ∨ (i = .int .i64 2 ∧ s = .int .u64 14 ∧ x = .int .u64 y0 ∧ Hid (y0 = X % 16384 ∧ 16384 ≤ X)) ∨ (i = .int .i64 3 ∧ s = .int .u64 21 ∧ x = .int .u64 y0 ∧ Hid (y0 = X % 2097152 ∧ 2097152 ≤ X))) (fun _ _ i => 4 - (intOf i).toNat)
  case atStart => exact ⟨0, .inl ⟨rfl, rfl, rfl, rfl⟩⟩
  case round =>
    obtain ⟨y0, hrel⟩ := hrel
    rcases hrel with ⟨rfl, rfl, rfl, hge⟩ | ⟨rfl, rfl, rfl, hge⟩ | ⟨rfl, rfl, rfl, hge⟩ | ⟨rfl, rfl, rfl, hge⟩
    · have ha := uvb_at0 X r
      have hn1 : 0 < n := by have := HL.out; simp at this; omega
      have hx := hcell 0 hn1
      rw [ha.1] at hx
      clear hcell ha h0
      by_cases hs : X < 128
      · rw [show byteAt (X) = ((X : Nat) : Int) by unfold byteAt; rw [if_pos hs]] at hx
        obtain ⟨y, HY⟩ : ∃ y, Hid (X = y) := ⟨_, rfl⟩
        rw [HY.out] at hx
        have hyi : (y : Int) < 128 := by have := HY.out; omega
        clear hs
        rw [Nat.add_zero] at hx
        go_wp2
        go_ret2
        refine ⟨ret2_int ?_ ?_, rfl⟩
        · first | rw [rd0 _ _ (by omega) (by have := hge.out; omega) (by omega) (by omega)] | skip
          have h1 := HY.out
          have h2 := hge.out
          have h3 := HX.out
          omega
        · rw [ulenF_1 X (by have := HY.out; omega)]
          rfl
      · rw [show byteAt (X) = ((X % 128 + 128 : Nat) : Int) by unfold byteAt; rw [if_neg hs]] at hx
        obtain ⟨y, HY⟩ : ∃ y, Hid (X % 128 = y) := ⟨_, rfl⟩
        rw [HY.out] at hx
        have hyi : y < 128 := by have := HY.out; omega
        have HS : Hid (¬ X < 128) := hs
        clear hs
        rw [Nat.add_zero] at hx
        go_wp2
        go_round
        case rel =>
          refine ⟨X % 128, .inr (.inl ⟨rfl, rfl, ?_, rfl, ?_⟩)⟩
          · have e : ∀ a b : Int, a = b → Value.int IntKind.u64 a = Value.int IntKind.u64 b := fun a b h => by rw [h]
            refine e _ _ ?_
            first | rw [rd0 _ _ (by omega) (by have := hge.out; omega) (by omega) (by omega)] | skip
            have h1 := HY.out
            have h2 := hge.out
            omega
          · have h1 := HS.out
            omega
        case measure => simp [intOf]
    · have ha := uvb_at1 X r hge.out.2
      have hn1 : 1 < n := by have := HL.out; simp at this; omega
      have hx := hcell 1 hn1
      rw [ha.1] at hx
      clear hcell ha h0
      by_cases hs : X / 128 < 128
      · rw [show byteAt (X / 128) = ((X / 128 : Nat) : Int) by unfold byteAt; rw [if_pos hs]] at hx
        obtain ⟨y, HY⟩ : ∃ y, Hid (X / 128 = y) := ⟨_, rfl⟩
        rw [HY.out] at hx
        have hyi : (y : Int) < 128 := by have := HY.out; omega
        clear hs
        skip
        go_wp2
        go_ret2
        refine ⟨ret2_int ?_ ?_, rfl⟩
        · rw [rd7 _ _ (by omega) (by have := hge.out; omega) (by omega) (by omega)]
          have h1 := HY.out
          have h2 := hge.out
          have h3 := HX.out
          omega
        · rw [ulenF_2 X (by have := hge.out; omega) (by have := HY.out; omega)]
          rfl
      · rw [show byteAt (X / 128) = ((X / 128 % 128 + 128 : Nat) : Int) by unfold byteAt; rw [if_neg hs]] at hx
        obtain ⟨y, HY⟩ : ∃ y, Hid (X / 128 % 128 = y) := ⟨_, rfl⟩
        rw [HY.out] at hx
        have hyi : y < 128 := by have := HY.out; omega
        have HS : Hid (¬ X / 128 < 128) := hs
        clear hs
        skip
        go_wp2
        go_round
        case rel =>
          refine ⟨X % 16384, .inr (.inr (.inl ⟨rfl, rfl, ?_, rfl, ?_⟩))⟩
          · have e : ∀ a b : Int, a = b → Value.int IntKind.u64 a = Value.int IntKind.u64 b := fun a b h => by rw [h]
            refine e _ _ ?_
            rw [rd7 _ _ (by omega) (by have := hge.out; omega) (by omega) (by omega)]
            have h1 := HY.out
            have h2 := hge.out
            omega
          · have h1 := HS.out
            omega
        case measure => simp [intOf]
    · have ha := uvb_at2 X r hge.out.2
      have hn1 : 2 < n := by have := HL.out; simp at this; omega
      have hx := hcell 2 hn1
      rw [ha.1] at hx
      clear hcell ha h0
      by_cases hs : X / 16384 < 128
      · rw [show byteAt (X / 16384) = ((X / 16384 : Nat) : Int) by unfold byteAt; rw [if_pos hs]] at hx
        obtain ⟨y, HY⟩ : ∃ y, Hid (X / 16384 = y) := ⟨_, rfl⟩
        rw [HY.out] at hx
        have hyi : (y : Int) < 128 := by have := HY.out; omega
        clear hs
        skip
        go_wp2
        go_ret2
        refine ⟨ret2_int ?_ ?_, rfl⟩
        · rw [rd14 _ _ (by omega) (by have := hge.out; omega) (by omega) (by omega)]
          have h1 := HY.out
          have h2 := hge.out
          have h3 := HX.out
          omega
        · rw [ulenF_3 X (by have := hge.out; omega) (by have := HY.out; omega)]
          rfl
      · rw [show byteAt (X / 16384) = ((X / 16384 % 128 + 128 : Nat) : Int) by unfold byteAt; rw [if_neg hs]] at hx
        obtain ⟨y, HY⟩ : ∃ y, Hid (X / 16384 % 128 = y) := ⟨_, rfl⟩
        rw [HY.out] at hx
        have hyi : y < 128 := by have := HY.out; omega
        have HS : Hid (¬ X / 16384 < 128) := hs
        clear hs
        skip
        go_wp2
        go_round
        case rel =>
          refine ⟨X % 2097152, .inr (.inr (.inr (⟨rfl, rfl, ?_, rfl, ?_⟩)))⟩
          · have e : ∀ a b : Int, a = b → Value.int IntKind.u64 a = Value.int IntKind.u64 b := fun a b h => by rw [h]
            refine e _ _ ?_
            rw [rd14 _ _ (by omega) (by have := hge.out; omega) (by omega) (by omega)]
            have h1 := HY.out
            have h2 := hge.out
            omega
          · have h1 := HS.out
            omega
        case measure => simp [intOf]
    · have ha := uvb_at3 X r hge.out.2
      have hn1 : 3 < n := by have := HL.out; simp at this; omega
      have hx := hcell 3 hn1
      rw [ha.1] at hx
      clear hcell ha h0
      by_cases hs : X / 2097152 < 128
      · rw [show byteAt (X / 2097152) = ((X / 2097152 : Nat) : Int) by unfold byteAt; rw [if_pos hs]] at hx
        obtain ⟨y, HY⟩ : ∃ y, Hid (X / 2097152 = y) := ⟨_, rfl⟩
        rw [HY.out] at hx
        have hyi : (y : Int) < 128 := by have := HY.out; omega
        clear hs
        skip
        go_wp2
        go_ret2
        refine ⟨ret2_int ?_ ?_, rfl⟩
        · rw [rd21 _ _ (by omega) (by have := hge.out; omega) (by omega) (by omega)]
          have h1 := HY.out
          have h2 := hge.out
          have h3 := HX.out
          omega
        · rw [ulenF_4 X (by have := hge.out; omega) (by have := HY.out; omega)]
          rfl
      · exfalso
        have h3 := HX.out
        omega

set_option maxHeartbeats 1000000 in
theorem uvLen_any (v : Nat) (w : World) (hv : v ≤ 18446744073709551615) :
    Calls Try.prog 26 #[.int .u64 v] w fun e w' => e = .returned (.int .i64 (ulenF 9 v)) ∧ w = w' := by
  go_enter Try.func26, Try.ntmps26
  go_wp2
  go_loop [0, 3] (fun x n => ∃ f k y : Nat, f + k = 9 ∧ x = .int .u64 y ∧ n = .int .i64 ((k : Int) + 1) ∧ y ≤ 18446744073709551615 ∧ Hid (y < 128 ^ (f + 1)) ∧ Hid (ulenF 9 v = k + ulenF f y)) (fun x _ => (intOf x).toNat)
  case atStart => exact ⟨9, 0, v, rfl, rfl, rfl, hv, by show v < _; omega, by show _ = _; omega⟩
  case round =>
    obtain ⟨f, k, y, hfk, rfl, rfl, hy64, hy, hu⟩ := hrel
    have HF : Hid (f + k = 9) := hfk
    have hk10 : k < 10 := by omega
    clear hfk
    by_cases hlt : y < 128
    · have hge : ¬ (128 : Int) ≤ (y : Int) := by omega
      go_wp2
      go_ret
      refine ⟨?_, rfl⟩
      exact retInt (by rw [hu.out, ulenF_small f y hlt]; omega)
    · have hge : (128 : Int) ≤ (y : Int) := by omega
      go_wp2
      go_round
      case rel =>
        have hf := HF.out
        have hyo := hy.out
        obtain ⟨f', rfl⟩ : ∃ f', f = f' + 1 := by
          cases f with
          | zero => simp at hyo; omega
          | succ f' => exact ⟨f', rfl⟩
        refine ⟨f', k + 1, y / 128, by omega, by go_num, by go_num, by omega, ?_, ?_⟩
        · exact div128_lt hyo
        · show _ = _
          rw [hu.out, ulenF_step f' y hlt]; omega
      case measure => simp [intOf]; omega
end Go.Proofs.Qxb6003418a
