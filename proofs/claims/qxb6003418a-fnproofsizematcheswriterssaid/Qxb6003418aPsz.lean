/-
  proofSize and its shims.
-/
import Derived.Test.Qxb6003418aPos
import Derived.Test.Qxb6003418aAval
namespace Go.Proofs.Qxb6003418a
open Go.RowKit
set_option linter.unusedVariables false

/-- The size of the children field when k children have been counted. -/
def psz (idx : List Int) : Nat → Int
  | 0 => ulen idx.length
  | k + 1 => psz idx k + (ulen (idx.getD k 0) + 32)

theorem psz_bd (idx : List Int) (k : Nat) : 0 ≤ psz idx k ∧ psz idx k ≤ 10 + 42 * k := by
  induction k with
  | zero => have := ulen_bd idx.length; simp only [psz]; omega
  | succ k ih => have := ulen_bd (idx.getD k 0); simp only [psz]; omega

theorem ulen_zero : ulen 0 = 1 := rfl

/-- The children field's length, read off the positions. -/
theorem psz_cur (idx : List Int) (k : Nat) : cur 0 idx [] [] k = psz idx k + 2 * k := by
  induction k with
  | zero => simp only [cur, psz]; omega
  | succ k ih =>
    simp only [cur, psz, ih, List.getD_nil, ulen_zero]
    omega

theorem psz_pos (idx : List Int) (n : Nat) (hn : 0 < n) : pos 0 idx [] [] (n - 1) + 2 - 2 * (n : Int) = psz idx n := by
  obtain ⟨k, rfl⟩ : ∃ k, n = k + 1 := ⟨n - 1, by omega⟩
  simp only [Nat.add_sub_cancel, pos, psz, psz_cur]
  omega

theorem wrap4 (pn : Nat) (h : pn ≤ 4194304) : IntKind.u64.wrap (4 * IntKind.u64.wrap (pn : Int)) = 4 * (pn : Int) := by
  simp (disch := omega) only [IntWalk.u64_in]

theorem psum (a u : Int) (pn : Nat) (ha : 0 ≤ a ∧ a ≤ 1073741824) (hu : 1 ≤ u ∧ u ≤ 10) (hp : pn ≤ 4194304) :
    IntKind.i64.wrap (IntKind.i64.wrap (a + u) + IntKind.i64.wrap ((IntKind.i64.wrap ((pn : Int) + 1)).tdiv 2)) = a + (u + ((pn : Int) + 1) / 2) := by
  rw [IntWalk.i64_in (a + u) (by omega), IntWalk.i64_in ((pn : Int) + 1) (by omega), Int.tdiv_eq_ediv_of_nonneg (by omega), IntWalk.i64_in (((pn : Int) + 1) / 2) (by omega), IntWalk.i64_in _ (by omega)]
  omega

set_option maxHeartbeats 2000000 in
theorem proofSize_core (N : Nat) (p : Value) (pn vl : Nat) (hv : Bool) (vo : Option Addr) (vc : Nat) (idx off siz : List Int) (f v : Int) (w : World)
    (hN : NodeAt w.heap.size w N p (.int .i64 pn) (.bool hv) (.slice vo vl vc) idx off siz) (hn : idx.length ≤ 1048576) (hyi : Bytes idx) (hpn : pn ≤ 4194304) (hvl : vl ≤ 4194304)
    (hf : (f = 2 ∧ v = vl) ∨ (f = 0 ∧ v = if (32 : Int) < vl then 32 else (vl : Int))) :
    Calls Try.prog 44 #[.pointer (some ⟨N, 0, none⟩), .int .u8 f] w fun e w' => e = .returned (.int .i64 (psz idx idx.length + valS hv v + (ulen (4 * pn) + (pn + 1) / 2))) ∧ Below w.heap.size w w' := by
  obtain ⟨n, hnl⟩ : ∃ n, n = idx.length := ⟨_, rfl⟩
  have hN0 := hN
  obtain ⟨hNB, co, hNC, hkids⟩ := hN
  rw [← hnl] at hNC hkids hn ⊢
  have h1 := hNC.2.1
  have h2 := hNC.2.2.1
  have h3 := hNC.2.2.2.1
  have h4 := hNC.2.2.2.2
  have HNL : Hid (n = idx.length) := hnl
  have HP0 : Hid (psz idx 0 = ulen n) := by show _ = _; simp only [psz]; rw [hnl]
  clear hnl
  go_enter Try.func44, Try.ntmps44
  go_wp2_with fail
  refine (ulen_any _ w (by omega) (by omega)).mono ?_
  rintro e w1 ⟨rfl, hb1⟩
  rw [← HP0.out]
  have h41 : w1.cell? ⟨N, 4, none⟩ = some (.slice co n n) := (hb1.cell (p := ⟨N, 4, none⟩) hNB).trans h4
  go_wp2_with fail
  go_loopw [5, 21] (fun s c wr => ∃ k : Nat, k ≤ n ∧ c = .int .i64 k ∧ s = .int .i64 (psz idx k) ∧ Below w.heap.size w wr) (fun _ c _ => n - (intOf c).toNat)
  case atStart => exact ⟨0, Nat.zero_le _, rfl, rfl, hb1⟩
  case round =>
    clear h41 hb1
    obtain ⟨k, hk, rfl, rfl, hbel⟩ := hrel
    have hpb := psz_bd idx k
    by_cases hlt : k < n
    · obtain ⟨g, rfl, hgB, hK⟩ : ∃ g, co = some ⟨g, 0, none⟩ ∧ g < w.heap.size ∧ Kids w g n n idx off siz := by
        rcases hkids with h | h
        · exfalso
          have := HNL.out
          rw [h] at this
          simp at this
          omega
        · exact h
      have hR := hK k hlt
      rw [if_pos hlt] at hR
      have hx0 := hyi k
      have ux := ulen_bd (idx.getD k 0)
      have HC : Hid (psz idx (k + 1) = psz idx k + (ulen (idx.getD k 0) + 32)) := rfl
      generalize idx.getD k 0 = x at *
      generalize off.getD k 0 = y at *
      generalize siz.getD k 0 = z at *
      generalize psz idx k = q at *
      have HR : Hid (wr.rangeAt g (k * 36) (chd x y z)) := fun j v hv => (hbel.cell (p := ⟨g, k * 36 + j, none⟩) hgB).trans (hR j v hv)
      clear hR hK hkids h1 h2 h3 h4 hNC hN0
      go_wp2_with (first
        | (refine wpList_load_mid rfl 65 _ rfl g (k * 36) rfl (chd x y z) _ HR.out Try.underlying65 rfl info65s ?_)
        | (refine wpList_store_child wr rfl (.tmp 7) (.tmp 24) rfl _ rfl x y z rfl rfl ?_))
      intro w2 c0 c33 c34 hb2 hs2
      go_wp2_with fail
      refine (ulen_any x w2 (by omega) (by omega)).mono ?_
      rintro e w3 ⟨rfl, hb3⟩
      have hb3' : Below wr.heap.size wr w3 := hb2.trans (hb3.mono (by omega))
      clear c0 c33 c34 hb2 hb3
      go_wp2
      go_roundw
      case rel => exact ⟨k + 1, by omega, by go_num, by rw [HC.out], hbel.trans (hb3'.mono hbel.size)⟩
      case measure => simp [intOf]; omega
    · have hkn : k = n := by omega
      rw [hkn] at hpb ⊢
      clear hkn hkids
      have k1 : wr.cell? ⟨N, 1, none⟩ = some (.int .i64 pn) := (hbel.cell (p := ⟨N, 1, none⟩) hNB).trans h1
      have k2 : wr.cell? ⟨N, 2, none⟩ = some (.bool hv) := (hbel.cell (p := ⟨N, 2, none⟩) hNB).trans h2
      have k3 : wr.cell? ⟨N, 3, none⟩ = some (.slice vo vl vc) := (hbel.cell (p := ⟨N, 3, none⟩) hNB).trans h3
      have hv0 : 0 ≤ v ∧ v ≤ 4194304 := by
        rcases hf with ⟨_, rfl⟩ | ⟨_, rfl⟩
        · omega
        · split <;> omega
      have hvb : 1 ≤ valS hv v ∧ valS hv v ≤ 4194400 := by
        have := ulen_bd v
        unfold valS; split <;> omega
      have hu4 := ulen_bd (4 * (pn : Int))
      have hNr : N < wr.heap.size := Nat.lt_of_lt_of_le hNB hbel.size
      obtain ⟨S, HS⟩ : ∃ S, Hid (psz idx n = S) := ⟨_, rfl⟩
      rw [HS.out] at hpb ⊢
      clear hN0 hNC h1 h2 h3 h4
      rcases hf with ⟨rfl, rfl⟩ | ⟨rfl, hve⟩
      · go_wp2_with fail
        refine (valueSize_any hv vl wr (by omega) (by omega)).mono ?_
        rintro e w2 ⟨rfl, hb2⟩
        have m1 : w2.cell? ⟨N, 1, none⟩ = some (.int .i64 pn) := (hb2.cell (p := ⟨N, 1, none⟩) hNr).trans k1
        have hbw2 : Below w.heap.size w w2 := hbel.trans (hb2.mono hbel.size)
        clear hb2
        go_wp2_with fail
        have hN2 : N < w2.heap.size := Nat.lt_of_lt_of_le hNB hbw2.size
        go_region_with (go_at_call 49; rw [wrap4 pn hpn]; refine (ulen_any (4 * (pn : Int)) _ (by omega) (by omega)).mono ?_; rintro e wy ⟨rfl, hby⟩; have fN : wy.cell? ⟨N, 1, none⟩ = some (.int .i64 pn) := (hby.cell (p := ⟨N, 1, none⟩) hN2).trans m1)
        all_goals go_wp2
        all_goals go_ret
        all_goals refine ⟨retInt ?_, ?_⟩
        all_goals first
          | (rw [HS.out]; exact psum _ _ pn (by omega) hu4 hpn)
          | exact hbw2.drew.trans (hby.mono hbw2.size)
      · by_cases hgt : (32 : Int) < (vl : Int)
        · have hv32 : v = 32 := by rw [hve, if_pos hgt]
          subst hv32
          clear hve
          have hgt' : ¬ (vl : Int) ≤ 32 := by omega
          go_wp2_with fail
          refine (valueSize_any hv 32 wr (by omega) (by omega)).mono ?_
          rintro e w2 ⟨rfl, hb2⟩
          have m1 : w2.cell? ⟨N, 1, none⟩ = some (.int .i64 pn) := (hb2.cell (p := ⟨N, 1, none⟩) hNr).trans k1
          have hbw2 : Below w.heap.size w w2 := hbel.trans (hb2.mono hbel.size)
          clear hb2
          go_wp2_with fail
          have hN2 : N < w2.heap.size := Nat.lt_of_lt_of_le hNB hbw2.size
          go_region_with (go_at_call 49; rw [wrap4 pn hpn]; refine (ulen_any (4 * (pn : Int)) _ (by omega) (by omega)).mono ?_; rintro e wy ⟨rfl, hby⟩; have fN : wy.cell? ⟨N, 1, none⟩ = some (.int .i64 pn) := (hby.cell (p := ⟨N, 1, none⟩) hN2).trans m1)
          all_goals go_wp2
          all_goals go_ret
          all_goals refine ⟨retInt ?_, ?_⟩
          all_goals first
            | (rw [HS.out]; exact psum _ _ pn (by omega) hu4 hpn)
            | exact hbw2.drew.trans (hby.mono hbw2.size)
        · have hvv : v = vl := by rw [hve, if_neg hgt]
          subst hvv
          clear hve
          go_wp2_with fail
          refine (valueSize_any hv vl wr (by omega) (by omega)).mono ?_
          rintro e w2 ⟨rfl, hb2⟩
          have m1 : w2.cell? ⟨N, 1, none⟩ = some (.int .i64 pn) := (hb2.cell (p := ⟨N, 1, none⟩) hNr).trans k1
          have hbw2 : Below w.heap.size w w2 := hbel.trans (hb2.mono hbel.size)
          clear hb2
          go_wp2_with fail
          have hN2 : N < w2.heap.size := Nat.lt_of_lt_of_le hNB hbw2.size
          go_region_with (go_at_call 49; rw [wrap4 pn hpn]; refine (ulen_any (4 * (pn : Int)) _ (by omega) (by omega)).mono ?_; rintro e wy ⟨rfl, hby⟩; have fN : wy.cell? ⟨N, 1, none⟩ = some (.int .i64 pn) := (hby.cell (p := ⟨N, 1, none⟩) hN2).trans m1)
          all_goals go_wp2
          all_goals go_ret
          all_goals refine ⟨retInt ?_, ?_⟩
          all_goals first
            | (rw [HS.out]; exact psum _ _ pn (by omega) hu4 hpn)
            | exact hbw2.drew.trans (hby.mono hbw2.size)

set_option maxHeartbeats 1000000 in
theorem proofRange_any (N : Nat) (p : Value) (pn vl : Nat) (hv : Bool) (vo : Option Addr) (vc : Nat) (idx off siz : List Int) (w : World)
    (hN : NodeAt w.heap.size w N p (.int .i64 pn) (.bool hv) (.slice vo vl vc) idx off siz) (hn : idx.length ≤ 1048576) (hyi : Bytes idx) (hpn : pn ≤ 4194304) (hvl : vl ≤ 4194304) :
    Calls Try.prog 33 #[.pointer (some ⟨N, 0, none⟩)] w fun e w' => e = .returned (.int .i64 (psz idx idx.length + valS hv vl + (ulen (4 * pn) + (pn + 1) / 2))) ∧ Below w.heap.size w w' := by
  go_enter Try.func33, Try.ntmps33
  go_wp2_with fail
  refine (proofSize_core N p pn vl hv vo vc idx off siz 2 vl w hN hn hyi hpn hvl (.inl ⟨rfl, rfl⟩)).mono ?_
  rintro e w1 ⟨rfl, hb1⟩
  clear hN
  go_wp2
  go_ret
  exact ⟨rfl, hb1⟩

set_option maxHeartbeats 1000000 in
theorem proofID_any (N : Nat) (p : Value) (pn vl : Nat) (hv : Bool) (vo : Option Addr) (vc : Nat) (idx off siz : List Int) (v : Int) (w : World)
    (hN : NodeAt w.heap.size w N p (.int .i64 pn) (.bool hv) (.slice vo vl vc) idx off siz) (hn : idx.length ≤ 1048576) (hyi : Bytes idx) (hpn : pn ≤ 4194304) (hvl : vl ≤ 4194304) (hve : v = if (32 : Int) < vl then 32 else (vl : Int)) :
    Calls Try.prog 34 #[.pointer (some ⟨N, 0, none⟩)] w fun e w' => e = .returned (.int .i64 (psz idx idx.length + valS hv v + (ulen (4 * pn) + (pn + 1) / 2))) ∧ Below w.heap.size w w' := by
  have HVE : Hid (v = if (32 : Int) < vl then 32 else (vl : Int)) := hve
  clear hve
  go_enter Try.func34, Try.ntmps34
  go_wp2_with fail
  refine (proofSize_core N p pn vl hv vo vc idx off siz 0 v w hN hn hyi hpn hvl (.inr ⟨rfl, HVE.out⟩)).mono ?_
  rintro e w1 ⟨rfl, hb1⟩
  clear hN
  go_wp2
  go_ret
  exact ⟨rfl, hb1⟩

set_option maxHeartbeats 400000 in
theorem zz30_ok (a0 a3 a4 : Option Addr) (n c m d p q : Nat) (i : Int) (b : Bool) (w : World) (h : n + m + p ≤ 1048576) :
    Calls Try.prog 30 #[.slice a0 n c, .int .i64 i, .bool b, .slice a3 m d, .slice a4 p q] w fun e w' => e = .returned (.bool true) ∧ w = w' := by
  go_enter Try.func30, Try.ntmps30
  go_wp2
  go_ret
  exact ⟨rfl, rfl⟩

set_option maxHeartbeats 400000 in
theorem zz30_no (a0 a3 a4 : Option Addr) (n c m d p q : Nat) (i : Int) (b : Bool) (w : World) (hn : n ≤ 9223372036854775807) (hm : m ≤ 9223372036854775807) (hp : p ≤ 9223372036854775807) (h : ¬ n + m + p ≤ 1048576) :
    Calls Try.prog 30 #[.slice a0 n c, .int .i64 i, .bool b, .slice a3 m d, .slice a4 p q] w fun e w' => e = .returned (.bool false) ∧ w = w' := by
  go_enter Try.func30, Try.ntmps30
  go_wp2
  all_goals (go_ret; exact ⟨rfl, rfl⟩)
end Go.Proofs.Qxb6003418a
