/-
  The walk of the law FnAppendValueDecodesAndMatchesValueSize where there is a value; at every input.
-/
import Derived.Test.Qxb6003418aW7
namespace Go.Proofs.Qxb6003418a
open Go.RowKit
set_option linter.unusedVariables false

set_option maxHeartbeats 4000000 in
set_option maxRecDepth 100000 in
theorem w7_yes (a0 : Option Addr) (m cap0 : Nat) (zs : List Int) (a2 : Option Addr) (vl cap2 : Nat) (vs : List Int) (w : World)
    (i0 : In .u8 w a0 m zs) (i2 : In .u8 w a2 vl vs) (hz : m + vl ≤ 1048576) :
    Calls Try.prog 7 #[.slice a0 m cap0, .bool true, .slice a2 vl cap2] w fun e w' => e = .returned (.bool true) ∧ Below w.heap.size w w' := by
  have HLM : Hid (zs.length = m) := i0.1
  have HLV : Hid (vs.length = vl) := i2.1
  have t1 : decide (1048576 < (m : Int) + (vl : Int)) = false := by simp; omega
  go_enter Try.func7, Try.ntmps7
  go_wp2_with (go_at_call 27; refine (zz27_ok _ _ _ _ _ _ _ _ hz).mono ?_; rintro e w' ⟨rfl, rfl⟩)
  refine (cloneBytes_any a0 m cap0 zs w i0 (by omega)).mono ?_
  rintro e wa ⟨ao, rfl, hsa, hba, -⟩
  go_wp2_with fail
  refine (cloneBytes_any a2 vl cap2 vs wa (i2.below hba) (by omega)).mono ?_
  rintro e wb ⟨vo, rfl, hsv, hbb, -⟩
  replace hsa := hsa.up hbb
  have hwb : Below w.heap.size w wb := hba.trans (hbb.mono hba.size)
  clear hba hbb i0 i2
  go_wp2_with fail
  refine (cloneBytes_any ao m m zs wb (hsa.toIn (Nat.le_refl _)) (by omega)).mono ?_
  rintro e wc ⟨ko, rfl, hsk, hbc, -⟩
  replace hsa := hsa.up hbc
  replace hsv := hsv.up hbc
  have hwc : Below w.heap.size w wc := hwb.trans (hbc.mono hwb.size)
  clear hwb hbc
  go_wp2_with fail
  refine (zzAppendValue_any ao vo m vl vl true zs vs wc hsa hsv (by omega) (by omega)).mono ?_
  rintro e we ⟨g, cap, L, rfl, HL, hso, hbe⟩
  have hvb : valB true vs = [1] ++ (uvbF 9 vl ++ vs) := by rw [← HLV.out]; rfl
  rw [hvb] at HL hso
  replace hsk := hsk.up hbe
  replace hsv := hsv.up hbe
  have hwe : Below w.heap.size w we := hwc.trans (hbe.mono hwc.size)
  clear hwc hbe hsa hvb
  obtain ⟨K, HK⟩ : ∃ K, Hid (K = ulenF 9 vl) := ⟨_, rfl⟩
  have hul := ulenF_bd 9 vl
  have hK1 : 1 ≤ K := by rw [HK.out]; omega
  have hK2 : K ≤ 10 := by rw [HK.out]; omega
  have HUB : Hid ((uvbF 9 vl).length = K) := by show _ = _; rw [uvbF_len, ← HK.out]
  have HLE : Hid (L = m + (1 + K + vl)) := by
    show _ = _
    rw [HL.out, List.length_append, List.length_append, List.length_append, HLM.out, HUB.out, HLV.out]
    simp only [List.length_cons, List.length_nil]
    omega
  clear hul HL
  have hLc : L ≤ cap := hso.capLe.1
  obtain ⟨R, HR⟩ : ∃ R, Hid (R = L - m) := ⟨_, rfl⟩
  have hR1 : 1 + K + vl = R := by rw [HR.out, HLE.out]; omega
  have HRE : Hid (1 + K + vl = R) := hR1
  obtain ⟨C, HC⟩ : ∃ C, Hid (C = cap - m) := ⟨_, rfl⟩
  have hRC : R ≤ C := by rw [HC.out, HR.out]; omega
  have hcm : ¬ cap = m := by have := HLE.out; omega
  have hLm : decide ((L : Int) < (m : Int)) = false := by have := HLE.out; simp; omega
  have hLm' : decide (L < m) = false := by have := HLE.out; simp; omega
  have hmL : m ≤ L := by have := HLE.out; omega
  have hLh : L ≤ 1048600 := by have := HLE.out; omega
  clear hR1
  go_wp2_with fail
  refine (eqBytes_same we.heap.size we.heap.size (some ⟨g, 0, none⟩) ko m cap m zs we (hso.head m HLM.out) hsk (Nat.le_refl _) (Nat.le_refl _) (by omega)).mono ?_
  rintro e wf ⟨rfl, hbf⟩
  replace hso := hso.up hbf
  replace hsv := hsv.up hbf
  have hwf : Below w.heap.size w wf := hwe.trans (hbf.mono hwe.size)
  clear hwe hbf hsk
  have hsr := hso.rest m HLM.out
  rw [Nat.zero_add, ← HR.out, ← HC.out] at hsr
  clear hso
  go_wp2_with fail
  rw [← HR.out, ← HC.out]
  refine (zzValueSize_any true vl wf (by omega) (by omega)).mono ?_
  rintro e wg ⟨rfl, hbg⟩
  have hvs : valS true vl = (R : Int) := by
    have h := HRE.out
    have hk := HK.out
    unfold valS ulen
    rw [Int.toNat_natCast, ← hk]
    simp only [if_true]
    omega
  rw [hvs]
  clear hvs
  replace hsr := hsr.up hbg
  replace hsv := hsv.up hbg
  have hwg : Below w.heap.size w wg := hwf.trans (hbg.mono hwf.size)
  clear hwf hbg
  have hR2 : 2 ≤ R := by have := HRE.out; omega
  have hR3 : R ≤ 1048600 := by have := HRE.out; omega
  have hRb : ((R : Int) != (R : Int)) = false := by simp
  have hR0 : ((R : Int) == 0) = false := by simp; omega
  have hC1 : ¬ C = 1 := by omega
  have hs1 := hsr.rest 1 rfl
  have hc0' : wg.cell? ⟨g, m, none⟩ = some (.int .u8 1) := by
    obtain ⟨_, ⟨h, _⟩ | ⟨b', o', h, _, _, hcell⟩⟩ := hsr
    · cases h
    simp at h
    obtain ⟨rfl, rfl⟩ := h
    exact hcell 0 (by omega)
  have hKR : K ≤ R - 1 := by have := HRE.out; omega
  have hsb := hs1.rest K HUB.out
  have HRV : Hid (R - 1 - K = vl) := by have := HRE.out; show _ = _; omega
  rw [HRV.out] at hsb
  go_wp2_with fail
  refine (readUv_any wg.heap.size (some ⟨g, m + 1, none⟩) (R - 1) (C - 1) vl vs wg hs1 (by omega) (by omega)).mono ?_
  rw [← HK.out]
  rintro e w' ⟨rfl, rfl⟩
  have hKb : ((K : Int) == 0) = false := by simp; omega
  have hKK : ((K : Int) != (K : Int)) = false := by simp
  have hvv : ((vl : Int) != (vl : Int)) = false := by simp
  have hKl : 1 + K ≤ R := by have := HRE.out; omega
  have hKc : 1 + K ≤ C := by have := HRE.out; omega
  go_wp2_with fail
  refine (uvLen_any vl wg (by omega)).mono ?_
  rw [← HK.out]
  rintro e w' ⟨rfl, rfl⟩
  have HRW : Hid (R - (1 + K) = vl) := by have := HRE.out; show _ = _; omega
  have hgB := hsr.capLe.2
  by_cases hck : C = 1 + K
  · have hck' : C - (1 + K) = 0 := by omega
    have hv0 : vl = 0 := by have := HRE.out; omega
    have hse : Sl wg.heap.size .u8 wg (some ⟨g, m, none⟩) vl 0 vs := ⟨HLV.out, .inr ⟨g, m, rfl, hgB, by omega, fun i hi => by omega⟩⟩
    clear hv0
    go_wp2_with fail
    rw [HRW.out]
    refine (eqBytes_same wg.heap.size wg.heap.size (some ⟨g, m, none⟩) vo vl 0 vl vs wg hse hsv (Nat.le_refl _) (Nat.le_refl _) (by omega)).mono ?_
    rintro e wh ⟨rfl, hbh⟩
    go_wp2
    go_ret
    exact ⟨rfl, hwg.trans (hbh.mono hwg.size)⟩
  · go_wp2_with fail
    rw [HRW.out, show m + (1 + K) = m + 1 + K by omega, show C - (1 + K) = C - 1 - K by omega]
    refine (eqBytes_same wg.heap.size wg.heap.size (some ⟨g, m + 1 + K, none⟩) vo vl (C - 1 - K) vl vs wg hsb hsv (Nat.le_refl _) (Nat.le_refl _) (by omega)).mono ?_
    rintro e wh ⟨rfl, hbh⟩
    go_wp2
    go_ret
    exact ⟨rfl, hwg.trans (hbh.mono hwg.size)⟩

set_option maxHeartbeats 4000000 in
set_option maxRecDepth 100000 in
theorem w7 (a0 : Option Addr) (len0 cap0 : Nat) (z0 : List Int) (a1 : Bool) (a2 : Option Addr) (len2 cap2 : Nat) (z2 : List Int) (w : World) (w0 : RowIs .u8 w a0 len0 cap0 z0) (w2 : RowIs .u8 w a2 len2 cap2 z2) :
    Calls Try.prog 7 #[.slice a0 len0 cap0, .bool a1, .slice a2 len2 cap2] w fun e w' => e = .returned (.bool true) ∧ Below w.heap.size w w' := by
  have hl0 := row_len w0
  have hl2 := row_len w2
  by_cases hz : len0 + len2 ≤ 1048576
  · cases a1 with
    | false => exact w7_no a0 len0 cap0 _ a2 len2 cap2 _ w (row_In w0) (row_In w2) hz
    | true => exact w7_yes a0 len0 cap0 _ a2 len2 cap2 _ w (row_In w0) (row_In w2) hz
  · clear w0 w2
    go_enter Try.func7, Try.ntmps7
    go_wp2_with (go_at_call 27; refine (zz27_no _ _ _ _ _ _ _ _ hl0 hl2 hz).mono ?_; rintro e w' ⟨rfl, rfl⟩)
    go_ret
    exact ⟨rfl, Below.refl _ _⟩
end Go.Proofs.Qxb6003418a
