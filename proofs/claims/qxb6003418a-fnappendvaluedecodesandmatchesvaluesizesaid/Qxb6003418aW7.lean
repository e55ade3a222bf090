/-
  The walk of the law FnAppendValueDecodesAndMatchesValueSize.
-/
import Derived.Test.Qxb6003418aAval
namespace Go.Proofs.Qxb6003418a
open Go.RowKit
set_option linter.unusedVariables false

theorem Sl.capLe {B k w b o n cap} {zs : List Int} (h : Sl B k w (some ⟨b, o, none⟩) n cap zs) : n ≤ cap ∧ b < B := by
  obtain ⟨_, ⟨h, _⟩ | ⟨b', o', h, h2, h3, _⟩⟩ := h
  · cases h
  · simp at h
    obtain ⟨rfl, rfl⟩ := h
    exact ⟨h3, h2⟩

set_option maxHeartbeats 4000000 in
set_option maxRecDepth 100000 in
theorem w7_no (a0 : Option Addr) (m cap0 : Nat) (zs : List Int) (a2 : Option Addr) (vl cap2 : Nat) (vs : List Int) (w : World)
    (i0 : In .u8 w a0 m zs) (i2 : In .u8 w a2 vl vs) (hz : m + vl ≤ 1048576) :
    Calls Try.prog 7 #[.slice a0 m cap0, .bool false, .slice a2 vl cap2] w fun e w' => e = .returned (.bool true) ∧ Below w.heap.size w w' := by
  have HLM : Hid (zs.length = m) := i0.1
  have t1 : decide (1048576 < (m : Int) + (vl : Int)) = false := by simp; omega
  go_enter Try.func7, Try.ntmps7
  go_wp2_with (go_at_call 27; refine (zz27_ok _ _ _ _ _ _ _ _ hz).mono ?_; rintro e w' ⟨rfl, rfl⟩)
  refine (cloneBytes_any a0 m cap0 zs w i0 (by omega)).mono ?_
  rintro e wa ⟨ao, rfl, hsa, hba, -⟩
  go_wp2_with fail
  refine (cloneBytes_any a2 vl cap2 vs wa (i2.below hba) (by omega)).mono ?_
  rintro e wb ⟨vo, rfl, hsv, hbb, -⟩
  replace hsa := hsa.up hbb
  have hwb : Below w.heap.size w wb := hba.trans (hbb.mono hba.size)
  clear hba hbb i0 i2
  go_wp2_with fail
  refine (cloneBytes_any ao m m zs wb (hsa.toIn (Nat.le_refl _)) (by omega)).mono ?_
  rintro e wc ⟨ko, rfl, hsk, hbc, -⟩
  replace hsa := hsa.up hbc
  replace hsv := hsv.up hbc
  have hwc : Below w.heap.size w wc := hwb.trans (hbc.mono hwb.size)
  clear hwb hbc
  go_wp2_with fail
  refine (zzAppendValue_any ao vo m vl vl false zs vs wc hsa hsv (by omega) (by omega)).mono ?_
  rintro e we ⟨g, cap, L, rfl, HL, hso, hbe⟩
  have hvb : valB false vs = [0] := rfl
  rw [hvb] at HL hso
  replace hsk := hsk.up hbe
  have hwe : Below w.heap.size w we := hwc.trans (hbe.mono hwc.size)
  clear hwc hbe hsa hsv hvb
  obtain rfl : L = m + 1 := by rw [HL.out, List.length_append, HLM.out]; rfl
  have hLc : m + 1 ≤ cap := hso.capLe.1
  have hcm : ¬ cap = m := by omega
  clear HL
  go_wp2_with fail
  refine (eqBytes_same we.heap.size we.heap.size (some ⟨g, 0, none⟩) ko m cap m zs we (hso.head m HLM.out) hsk (Nat.le_refl _) (Nat.le_refl _) (by omega)).mono ?_
  rintro e wf ⟨rfl, hbf⟩
  replace hso := hso.up hbf
  have hwf : Below w.heap.size w wf := hwe.trans (hbf.mono hwe.size)
  clear hwe hbf hsk
  have hsr := hso.rest m HLM.out
  rw [Nat.zero_add, Nat.add_sub_cancel_left] at hsr
  clear hso
  go_wp2_with fail
  refine (zzValueSize_any false vl wf (by omega) (by omega)).mono ?_
  rintro e wg ⟨rfl, hbg⟩
  have hvs : valS false vl = 1 := rfl
  rw [hvs]
  clear hvs
  replace hsr := hsr.up hbg
  have hwg : Below w.heap.size w wg := hwf.trans (hbg.mono hwf.size)
  obtain ⟨_, ⟨h, _⟩ | ⟨b', o', h, _, _, hcell⟩⟩ := hsr
  · cases h
  simp at h
  obtain ⟨rfl, rfl⟩ := h
  have hc0 := hcell 0 (by omega)
  rw [Nat.add_zero] at hc0
  have hc0' : wg.cell? ⟨g, m, none⟩ = some (.int .u8 0) := hc0
  clear hcell hc0
  go_wp2
  go_ret
  exact ⟨rfl, hwg⟩
end Go.Proofs.Qxb6003418a
