/-
  The walk of the law FnProofSizeMatchesWriters.
-/
import Derived.Test.Qxb6003418aPsz
namespace Go.Proofs.Qxb6003418a
open Go.RowKit
set_option linter.unusedVariables false

theorem Sl.take {B k w ao n cap} {zs : List Int} (h : Sl B k w ao n cap zs) (m : Nat) (hm : m ≤ n) : Sl B k w ao m cap (zs.take m) := by
  obtain ⟨hl, ⟨h1, h2, h3⟩ | ⟨b, o, h1, h2, h3, h4⟩⟩ := h
  · obtain rfl : m = 0 := by omega
    exact ⟨rfl, .inl ⟨h1, rfl, h3⟩⟩
  · refine ⟨by simp; omega, .inr ⟨b, o, h1, h2, by omega, fun i hi => ?_⟩⟩
    rw [h4 i (by omega)]
    simp [List.getD, List.getElem?_take_of_lt hi]

theorem tokS (ps : List Int) (pn : Nat) (h : (pn + 1) / 2 ≤ ps.length) : ((([] ++ (uvbF 9 (4 * pn) ++ tokB ps pn)).length : Nat) : Int) = ulen (4 * pn) + ((pn : Int) + 1) / 2 := by
  rw [List.nil_append, List.length_append, uvbF_len, tokB_len ps pn h]
  unfold ulen
  rw [show (4 * (pn : Int)).toNat = 4 * pn by omega]
  omega

theorem valS_le (b : Bool) (n : Int) (h : n ≤ 1048576) : valS b n ≤ 4194304 := by
  have := ulen_bd n
  unfold valS
  split <;> omega

theorem u64nil : U64s [] := fun j => by simp

set_option maxHeartbeats 4000000 in
set_option maxRecDepth 100000 in
theorem w8_core (a0 a3 a4 : Option Addr) (pl cap0 vl cap3 n cap4 pn : Nat) (hv : Bool) (ps vs idx : List Int) (w : World)
    (i0 : In .u8 w a0 pl ps) (i3 : In .u8 w a3 vl vs) (i4 : In .u8 w a4 n idx) (hyp : Bytes ps) (hyi : Bytes idx) (hz : pl + vl + n ≤ 1048576) (hn : n ≤ 16) (hpn : pn ≤ 2 * pl) :
    Calls Try.prog 8 #[.slice a0 pl cap0, .int .i64 pn, .bool hv, .slice a3 vl cap3, .slice a4 n cap4] w fun e w' => e = .returned (.bool true) ∧ Below w.heap.size w w' := by
  have HLP : Hid (ps.length = pl) := i0.1
  have HLV : Hid (vs.length = vl) := i3.1
  have HLN : Hid (idx.length = n) := i4.1
  have t1 : decide (1048576 < (pl : Int) + (vl : Int) + (n : Int)) = false := by simp; omega
  have t2 : decide (16 < (n : Int)) = false := by simp; omega
  have t3 : decide ((pn : Int) < 0) = false := by simp
  have t4 : decide (2 * (pl : Int) < (pn : Int)) = false := by simp; omega
  go_enter Try.func8, Try.ntmps8
  go_wp2_with (go_at_call 30; refine (zz30_ok _ _ _ _ _ _ _ _ _ _ _ _ hz).mono ?_; rintro e w' ⟨rfl, rfl⟩)
  refine (cloneBytes_any a0 pl cap0 ps w i0 (by omega)).mono ?_
  rintro e wa ⟨po, rfl, hsp, hba, -⟩
  go_wp2_with fail
  refine (cloneBytes_any a3 vl cap3 vs wa (i3.below hba) (by omega)).mono ?_
  rintro e wb ⟨vo, rfl, hsv, hbb, -⟩
  replace hsp := hsp.up hbb
  have hwb : Below w.heap.size w wb := hba.trans (hbb.mono hba.size)
  clear hba hbb i0 i3
  go_wp2_with fail
  refine (cloneBytes_any a4 n cap4 idx wb (i4.below hwb) (by omega)).mono ?_
  rintro e wc ⟨io, rfl, hsi, hbc, -⟩
  replace hsp := hsp.up hbc
  replace hsv := hsv.up hbc
  have hwc : Below w.heap.size w wc := hwb.trans (hbc.mono hwb.size)
  clear hwb hbc i4
  go_wp2_with fail
  refine (node_any wc.heap.size po vo io none none pl pl vl vl n n 0 0 0 0 pn hv idx [] [] wc hsi ⟨rfl, .inl ⟨rfl, rfl, rfl⟩⟩ ⟨rfl, .inl ⟨rfl, rfl, rfl⟩⟩ (Nat.le_refl _) (by omega)).mono ?_
  rintro e wd ⟨rfl, hbd, hN⟩
  replace hsp := hsp.up hbd
  replace hsv := hsv.up hbd
  have hwd : Below w.heap.size w wd := hwc.trans (hbd.mono hwc.size)
  clear hsi hwc hbd
  generalize wc.heap.size = N at *
  go_wp2_with fail
  refine (zzChild_any N _ _ _ _ idx [] [] [] 0 0 none 0 wd hN ⟨rfl, .inl ⟨rfl, rfl, rfl⟩⟩ (by omega) (by rw [HLN.out]; omega) (by omega) hyi u64nil u64nil).mono ?_
  rw [List.nil_append, HLN.out, outs0_len 0 idx [] [] u64nil]
  rintro e we ⟨qo, qc, rfl, hsq, hbe⟩
  replace hsp := hsp.up hbe
  replace hsv := hsv.up hbe
  replace hN := hN.step hbe
  have hwe : Below w.heap.size w we := hwd.trans (hbe.mono hwd.size)
  clear hwd hbe
  have hnn : ((n : Int) != (n : Int)) = false := by simp
  obtain ⟨D, HD⟩ : ∃ D : Nat, Hid ((D : Int) = if (32 : Int) < vl then 32 else (vl : Int)) := by
    by_cases h : (32 : Int) < vl
    · exact ⟨32, by show _ = _; rw [if_pos h]; rfl⟩
    · exact ⟨vl, by show _ = _; rw [if_neg h]⟩
  by_cases hn0 : n = 0
  · have t5 : decide (0 < (n : Int)) = false := by simp; omega
    have HX : Hid ((1 : Int) = psz idx n) := by
      show _ = _
      rw [hn0]
      simp only [psz]
      rw [HLN.out, hn0]
      rfl
    go_wp2_with fail
    refine (path_any po pl pl pn we).mono ?_
    rintro e wf ⟨rfl, hwf0⟩
    have hbf : Below we.heap.size we wf := by rw [hwf0]; exact (Below.refl _ _).alloc (Nat.le_refl _) _
    replace hsp := hsp.up hbf
    replace hsv := hsv.up hbf
    replace hN := hN.step hbf
    have hwf : Below w.heap.size w wf := hwe.trans (hbf.mono hwe.size)
    clear hwf0 hbf hwe
    go_wp2_with fail
    refine (zzAppendTokens_any none po 0 pl pl [] ps pn wf ⟨rfl, .inl ⟨rfl, rfl, rfl⟩⟩ hsp hyp (by omega) (by omega) hpn).mono ?_
    rintro e wg ⟨g1, c1, L1, rfl, HL1, -, hbg⟩
    have HT : Hid ((L1 : Int) = ulen (4 * (pn : Int)) + ((pn : Int) + 1) / 2) := by show _ = _; rw [HL1.out]; exact tokS ps pn (by rw [HLP.out]; omega)
    have hL1 : (L1 : Int) ≤ 4194304 := by have := HT.out; have := ulen_bd (4 * (pn : Int)); omega
    replace hsv := hsv.up hbg
    replace hN := hN.step hbg
    have hwg : Below w.heap.size w wg := hwf.trans (hbg.mono hwf.size)
    clear HL1 hbg hwf hsp
    go_wp2_with fail
    refine (zzAppendValue_any none vo 0 vl vl hv [] vs wg ⟨rfl, .inl ⟨rfl, rfl, rfl⟩⟩ hsv (by omega) (by omega)).mono ?_
    rintro e wh ⟨g2, c2, L2, rfl, HL2, -, hbh⟩
    have HV : Hid ((L2 : Int) = valS hv vl) := by show _ = _; rw [HL2.out, List.nil_append, valB_len, HLV.out]
    have hL2 : (L2 : Int) ≤ 4194304 := by rw [HV.out]; exact valS_le hv _ (by omega)
    replace hsv := hsv.up hbh
    replace hN := hN.step hbh
    have hwh : Below w.heap.size w wh := hwg.trans (hbh.mono hwg.size)
    clear HL2 hbh hwg
    have hsv0 := hsv
    obtain ⟨_, ⟨hvo, hv0, _⟩ | ⟨vb, vof, hvo, _, _, _⟩⟩ := hsv0
    · subst hvo
      subst hv0
      have HD0 : Hid (((0 : Nat) : Int) = if (32 : Int) < ((0 : Nat) : Int) then 32 else ((0 : Nat) : Int)) := rfl
      go_wp2_with fail
      refine (zzAppendValue_any none none 0 0 0 hv [] (vs.take 0) wh ⟨rfl, .inl ⟨rfl, rfl, rfl⟩⟩ (hsv.take 0 (by omega)) (by omega) (by omega)).mono ?_
      rintro e wi ⟨g3, c3, L3, rfl, HL3, -, hbi⟩
      have HW : Hid ((L3 : Int) = valS hv ((0 : Nat) : Int)) := by show _ = _; rw [HL3.out, List.nil_append, valB_len, List.length_take, HLV.out, Nat.min_eq_left (by omega)]
      have hL3 : (L3 : Int) ≤ 4194304 := by rw [HW.out]; exact valS_le hv _ (by omega)
      replace hN := hN.step hbi
      have hwi : Below w.heap.size w wi := hwh.trans (hbi.mono hwh.size)
      clear HL3 hbi hwh hsv
      go_wp2_with fail
      have hr := proofRange_any N _ pn 0 hv none 0 idx [] [] wi hN (by rw [HLN.out]; omega) hyi (by omega) (by omega)
      rw [HLN.out, ← HV.out, ← HT.out, ← HX.out] at hr
      refine hr.mono ?_
      clear hr
      rintro e wj ⟨rfl, hbj⟩
      replace hN := hN.step hbj
      have hwj : Below w.heap.size w wj := hwi.trans (hbj.mono hwi.size)
      clear hwi hbj
      have hr := proofID_any N _ pn 0 hv none 0 idx [] [] ((0 : Nat) : Int) wj hN (by rw [HLN.out]; omega) hyi (by omega) (by omega) HD0.out
      rw [HLN.out, ← HW.out, ← HT.out, ← HX.out] at hr
      have HR : Hid (Calls Try.prog 34 #[.pointer (some ⟨N, 0, none⟩)] wj fun e w' => e = .returned (.int .i64 (1 + (L3 : Int) + (L1 : Int))) ∧ Below wj.heap.size wj w') := hr
      clear hr hN
      go_wp2_with fail
      refine HR.out.mono ?_
      rintro e wk ⟨rfl, hbk⟩
      go_wp2
      go_ret
      exact ⟨rfl, hwj.trans (hbk.mono hwj.size)⟩
    · subst hvo
      by_cases hgt : (32 : Int) < (vl : Int)
      · have hD : D = 32 := by have := HD.out; rw [if_pos hgt] at this; omega
        subst hD
        have hgb : decide ((32 : Int) < (vl : Int)) = true := by simpa using hgt
        have hg2 : (32 : Int) ≤ (vl : Int) := by omega
        go_wp2_with fail
        refine (zzAppendValue_any none (some ⟨vb, vof, none⟩) 0 32 vl hv [] (vs.take 32) wh ⟨rfl, .inl ⟨rfl, rfl, rfl⟩⟩ (hsv.take 32 (by omega)) (by omega) (by omega)).mono ?_
        rintro e wi ⟨g3, c3, L3, rfl, HL3, -, hbi⟩
        have HW : Hid ((L3 : Int) = valS hv ((32 : Nat) : Int)) := by show _ = _; rw [HL3.out, List.nil_append, valB_len, List.length_take, HLV.out, Nat.min_eq_left (by omega)]
        have hL3 : (L3 : Int) ≤ 4194304 := by rw [HW.out]; exact valS_le hv _ (by omega)
        replace hN := hN.step hbi
        have hwi : Below w.heap.size w wi := hwh.trans (hbi.mono hwh.size)
        clear HL3 hbi hwh hsv
        go_wp2_with fail
        have hr := proofRange_any N _ pn vl hv (some ⟨vb, vof, none⟩) vl idx [] [] wi hN (by rw [HLN.out]; omega) hyi (by omega) (by omega)
        rw [HLN.out, ← HV.out, ← HT.out, ← HX.out] at hr
        refine hr.mono ?_
        clear hr
        rintro e wj ⟨rfl, hbj⟩
        replace hN := hN.step hbj
        have hwj : Below w.heap.size w wj := hwi.trans (hbj.mono hwi.size)
        clear hwi hbj
        have hr := proofID_any N _ pn vl hv (some ⟨vb, vof, none⟩) vl idx [] [] ((32 : Nat) : Int) wj hN (by rw [HLN.out]; omega) hyi (by omega) (by omega) HD.out
        rw [HLN.out, ← HW.out, ← HT.out, ← HX.out] at hr
        have HR : Hid (Calls Try.prog 34 #[.pointer (some ⟨N, 0, none⟩)] wj fun e w' => e = .returned (.int .i64 (1 + (L3 : Int) + (L1 : Int))) ∧ Below wj.heap.size wj w') := hr
        clear hr hN
        go_wp2_with fail
        refine HR.out.mono ?_
        rintro e wk ⟨rfl, hbk⟩
        go_wp2
        go_ret
        exact ⟨rfl, hwj.trans (hbk.mono hwj.size)⟩
      · have hD : D = vl := by have := HD.out; rw [if_neg hgt] at this; omega
        subst hD
        have hgb : decide ((32 : Int) < (D : Int)) = false := by simpa using hgt
        go_wp2_with fail
        refine (zzAppendValue_any none (some ⟨vb, vof, none⟩) 0 D D hv [] (vs.take D) wh ⟨rfl, .inl ⟨rfl, rfl, rfl⟩⟩ (hsv.take D (by omega)) (by omega) (by omega)).mono ?_
        rintro e wi ⟨g3, c3, L3, rfl, HL3, -, hbi⟩
        have HW : Hid ((L3 : Int) = valS hv ((D : Nat) : Int)) := by show _ = _; rw [HL3.out, List.nil_append, valB_len, List.length_take, HLV.out, Nat.min_eq_left (by omega)]
        have hL3 : (L3 : Int) ≤ 4194304 := by rw [HW.out]; exact valS_le hv _ (by omega)
        replace hN := hN.step hbi
        have hwi : Below w.heap.size w wi := hwh.trans (hbi.mono hwh.size)
        clear HL3 hbi hwh hsv
        go_wp2_with fail
        have hr := proofRange_any N _ pn D hv (some ⟨vb, vof, none⟩) D idx [] [] wi hN (by rw [HLN.out]; omega) hyi (by omega) (by omega)
        rw [HLN.out, ← HV.out, ← HT.out, ← HX.out] at hr
        refine hr.mono ?_
        clear hr
        rintro e wj ⟨rfl, hbj⟩
        replace hN := hN.step hbj
        have hwj : Below w.heap.size w wj := hwi.trans (hbj.mono hwi.size)
        clear hwi hbj
        have hr := proofID_any N _ pn D hv (some ⟨vb, vof, none⟩) D idx [] [] ((D : Nat) : Int) wj hN (by rw [HLN.out]; omega) hyi (by omega) (by omega) HD.out
        rw [HLN.out, ← HW.out, ← HT.out, ← HX.out] at hr
        have HR : Hid (Calls Try.prog 34 #[.pointer (some ⟨N, 0, none⟩)] wj fun e w' => e = .returned (.int .i64 (1 + (L3 : Int) + (L1 : Int))) ∧ Below wj.heap.size wj w') := hr
        clear hr hN
        go_wp2_with fail
        refine HR.out.mono ?_
        rintro e wk ⟨rfl, hbk⟩
        go_wp2
        go_ret
        exact ⟨rfl, hwj.trans (hbk.mono hwj.size)⟩
  · have t5 : decide (0 < (n : Int)) = true := by simp; omega
    obtain ⟨hlp, ⟨_, h0, _⟩ | ⟨qb, qof, rfl, hqb, hqc, hqcell⟩⟩ := hsq
    · omega
    have hxk := hqcell (n - 1) (by omega)
    rw [outs0_at 0 idx [] [] u64nil (n - 1) n (by omega)] at hxk
    have hpk := pos_bd 0 idx [] [] (n - 1)
    have HX : Hid (pos 0 idx [] [] (n - 1) + 2 - 2 * (n : Int) = psz idx n) := psz_pos idx n (by omega)
    clear hlp hqcell hqb hqc
    generalize pos 0 idx [] [] (n - 1) = x at *
    have hk1 : (1 : Int) ≤ (n : Int) := by omega
    go_wp2_with fail
    refine (path_any po pl pl pn we).mono ?_
    rintro e wf ⟨rfl, hwf0⟩
    have hbf : Below we.heap.size we wf := by rw [hwf0]; exact (Below.refl _ _).alloc (Nat.le_refl _) _
    replace hsp := hsp.up hbf
    replace hsv := hsv.up hbf
    replace hN := hN.step hbf
    have hwf : Below w.heap.size w wf := hwe.trans (hbf.mono hwe.size)
    clear hwf0 hbf hwe
    go_wp2_with fail
    refine (zzAppendTokens_any none po 0 pl pl [] ps pn wf ⟨rfl, .inl ⟨rfl, rfl, rfl⟩⟩ hsp hyp (by omega) (by omega) hpn).mono ?_
    rintro e wg ⟨g1, c1, L1, rfl, HL1, -, hbg⟩
    have HT : Hid ((L1 : Int) = ulen (4 * (pn : Int)) + ((pn : Int) + 1) / 2) := by show _ = _; rw [HL1.out]; exact tokS ps pn (by rw [HLP.out]; omega)
    have hL1 : (L1 : Int) ≤ 4194304 := by have := HT.out; have := ulen_bd (4 * (pn : Int)); omega
    replace hsv := hsv.up hbg
    replace hN := hN.step hbg
    have hwg : Below w.heap.size w wg := hwf.trans (hbg.mono hwf.size)
    clear HL1 hbg hwf hsp
    go_wp2_with fail
    refine (zzAppendValue_any none vo 0 vl vl hv [] vs wg ⟨rfl, .inl ⟨rfl, rfl, rfl⟩⟩ hsv (by omega) (by omega)).mono ?_
    rintro e wh ⟨g2, c2, L2, rfl, HL2, -, hbh⟩
    have HV : Hid ((L2 : Int) = valS hv vl) := by show _ = _; rw [HL2.out, List.nil_append, valB_len, HLV.out]
    have hL2 : (L2 : Int) ≤ 4194304 := by rw [HV.out]; exact valS_le hv _ (by omega)
    replace hsv := hsv.up hbh
    replace hN := hN.step hbh
    have hwh : Below w.heap.size w wh := hwg.trans (hbh.mono hwg.size)
    clear HL2 hbh hwg
    have hsv0 := hsv
    obtain ⟨_, ⟨hvo, hv0, _⟩ | ⟨vb, vof, hvo, _, _, _⟩⟩ := hsv0
    · subst hvo
      subst hv0
      have HD0 : Hid (((0 : Nat) : Int) = if (32 : Int) < ((0 : Nat) : Int) then 32 else ((0 : Nat) : Int)) := rfl
      go_wp2_with fail
      refine (zzAppendValue_any none none 0 0 0 hv [] (vs.take 0) wh ⟨rfl, .inl ⟨rfl, rfl, rfl⟩⟩ (hsv.take 0 (by omega)) (by omega) (by omega)).mono ?_
      rintro e wi ⟨g3, c3, L3, rfl, HL3, -, hbi⟩
      have HW : Hid ((L3 : Int) = valS hv ((0 : Nat) : Int)) := by show _ = _; rw [HL3.out, List.nil_append, valB_len, List.length_take, HLV.out, Nat.min_eq_left (by omega)]
      have hL3 : (L3 : Int) ≤ 4194304 := by rw [HW.out]; exact valS_le hv _ (by omega)
      replace hN := hN.step hbi
      have hwi : Below w.heap.size w wi := hwh.trans (hbi.mono hwh.size)
      clear HL3 hbi hwh hsv
      go_wp2_with fail
      have hr := proofRange_any N _ pn 0 hv none 0 idx [] [] wi hN (by rw [HLN.out]; omega) hyi (by omega) (by omega)
      rw [HLN.out, ← HV.out, ← HT.out, ← HX.out] at hr
      refine hr.mono ?_
      clear hr
      rintro e wj ⟨rfl, hbj⟩
      replace hN := hN.step hbj
      have hwj : Below w.heap.size w wj := hwi.trans (hbj.mono hwi.size)
      clear hwi hbj
      have hr := proofID_any N _ pn 0 hv none 0 idx [] [] ((0 : Nat) : Int) wj hN (by rw [HLN.out]; omega) hyi (by omega) (by omega) HD0.out
      rw [HLN.out, ← HW.out, ← HT.out, ← HX.out] at hr
      have HR : Hid (Calls Try.prog 34 #[.pointer (some ⟨N, 0, none⟩)] wj fun e w' => e = .returned (.int .i64 ((x + 2 - 2 * (n : Int)) + (L3 : Int) + (L1 : Int))) ∧ Below wj.heap.size wj w') := hr
      clear hr hN
      go_wp2_with fail
      refine HR.out.mono ?_
      rintro e wk ⟨rfl, hbk⟩
      go_wp2
      go_ret
      exact ⟨rfl, hwj.trans (hbk.mono hwj.size)⟩
    · subst hvo
      by_cases hgt : (32 : Int) < (vl : Int)
      · have hD : D = 32 := by have := HD.out; rw [if_pos hgt] at this; omega
        subst hD
        have hgb : decide ((32 : Int) < (vl : Int)) = true := by simpa using hgt
        have hg2 : (32 : Int) ≤ (vl : Int) := by omega
        go_wp2_with fail
        refine (zzAppendValue_any none (some ⟨vb, vof, none⟩) 0 32 vl hv [] (vs.take 32) wh ⟨rfl, .inl ⟨rfl, rfl, rfl⟩⟩ (hsv.take 32 (by omega)) (by omega) (by omega)).mono ?_
        rintro e wi ⟨g3, c3, L3, rfl, HL3, -, hbi⟩
        have HW : Hid ((L3 : Int) = valS hv ((32 : Nat) : Int)) := by show _ = _; rw [HL3.out, List.nil_append, valB_len, List.length_take, HLV.out, Nat.min_eq_left (by omega)]
        have hL3 : (L3 : Int) ≤ 4194304 := by rw [HW.out]; exact valS_le hv _ (by omega)
        replace hN := hN.step hbi
        have hwi : Below w.heap.size w wi := hwh.trans (hbi.mono hwh.size)
        clear HL3 hbi hwh hsv
        go_wp2_with fail
        have hr := proofRange_any N _ pn vl hv (some ⟨vb, vof, none⟩) vl idx [] [] wi hN (by rw [HLN.out]; omega) hyi (by omega) (by omega)
        rw [HLN.out, ← HV.out, ← HT.out, ← HX.out] at hr
        refine hr.mono ?_
        clear hr
        rintro e wj ⟨rfl, hbj⟩
        replace hN := hN.step hbj
        have hwj : Below w.heap.size w wj := hwi.trans (hbj.mono hwi.size)
        clear hwi hbj
        have hr := proofID_any N _ pn vl hv (some ⟨vb, vof, none⟩) vl idx [] [] ((32 : Nat) : Int) wj hN (by rw [HLN.out]; omega) hyi (by omega) (by omega) HD.out
        rw [HLN.out, ← HW.out, ← HT.out, ← HX.out] at hr
        have HR : Hid (Calls Try.prog 34 #[.pointer (some ⟨N, 0, none⟩)] wj fun e w' => e = .returned (.int .i64 ((x + 2 - 2 * (n : Int)) + (L3 : Int) + (L1 : Int))) ∧ Below wj.heap.size wj w') := hr
        clear hr hN
        go_wp2_with fail
        refine HR.out.mono ?_
        rintro e wk ⟨rfl, hbk⟩
        go_wp2
        go_ret
        exact ⟨rfl, hwj.trans (hbk.mono hwj.size)⟩
      · have hD : D = vl := by have := HD.out; rw [if_neg hgt] at this; omega
        subst hD
        have hgb : decide ((32 : Int) < (D : Int)) = false := by simpa using hgt
        go_wp2_with fail
        refine (zzAppendValue_any none (some ⟨vb, vof, none⟩) 0 D D hv [] (vs.take D) wh ⟨rfl, .inl ⟨rfl, rfl, rfl⟩⟩ (hsv.take D (by omega)) (by omega) (by omega)).mono ?_
        rintro e wi ⟨g3, c3, L3, rfl, HL3, -, hbi⟩
        have HW : Hid ((L3 : Int) = valS hv ((D : Nat) : Int)) := by show _ = _; rw [HL3.out, List.nil_append, valB_len, List.length_take, HLV.out, Nat.min_eq_left (by omega)]
        have hL3 : (L3 : Int) ≤ 4194304 := by rw [HW.out]; exact valS_le hv _ (by omega)
        replace hN := hN.step hbi
        have hwi : Below w.heap.size w wi := hwh.trans (hbi.mono hwh.size)
        clear HL3 hbi hwh hsv
        go_wp2_with fail
        have hr := proofRange_any N _ pn D hv (some ⟨vb, vof, none⟩) D idx [] [] wi hN (by rw [HLN.out]; omega) hyi (by omega) (by omega)
        rw [HLN.out, ← HV.out, ← HT.out, ← HX.out] at hr
        refine hr.mono ?_
        clear hr
        rintro e wj ⟨rfl, hbj⟩
        replace hN := hN.step hbj
        have hwj : Below w.heap.size w wj := hwi.trans (hbj.mono hwi.size)
        clear hwi hbj
        have hr := proofID_any N _ pn D hv (some ⟨vb, vof, none⟩) D idx [] [] ((D : Nat) : Int) wj hN (by rw [HLN.out]; omega) hyi (by omega) (by omega) HD.out
        rw [HLN.out, ← HW.out, ← HT.out, ← HX.out] at hr
        have HR : Hid (Calls Try.prog 34 #[.pointer (some ⟨N, 0, none⟩)] wj fun e w' => e = .returned (.int .i64 ((x + 2 - 2 * (n : Int)) + (L3 : Int) + (L1 : Int))) ∧ Below wj.heap.size wj w') := hr
        clear hr hN
        go_wp2_with fail
        refine HR.out.mono ?_
        rintro e wk ⟨rfl, hbk⟩
        go_wp2
        go_ret
        exact ⟨rfl, hwj.trans (hbk.mono hwj.size)⟩
end Go.Proofs.Qxb6003418a
