/-
  The walk of the law FnChildOffsetsShiftAndFilter.
-/
import Derived.Test.Qxb6003418aPos
namespace Go.Proofs.Qxb6003418a
open Go.RowKit
set_option linter.unusedVariables false

theorem getD_app_right (xs ys : List Int) (m l : Nat) (h : xs.length = m) : (xs ++ ys).getD (m + l) 0 = ys.getD l 0 := by
  subst h
  rw [List.getD, List.getElem?_append_right (by omega), List.getD]
  congr 2
  omega

set_option maxHeartbeats 4000000 in
set_option maxRecDepth 100000 in
theorem w9_main (a0 : Option Addr) (n cap0 : Nat) (idx : List Int) (a1 : Option Addr) (fl cap1 : Nat) (off : List Int) (a2 : Option Addr) (sl cap2 : Nat) (siz : List Int) (s d fr : Int) (a6 : Option Addr) (m cap6 : Nat) (ats : List Int) (w : World)
    (i0 : In .u8 w a0 n idx) (i1 : In .u64 w a1 fl off) (i2 : In .u64 w a2 sl siz) (i6 : In .i64 w a6 m ats) (hyi : Bytes idx) (hyo : U64s off) (hys : U64s siz)
    (hz : n + 8 * fl + 8 * sl + 8 * m ≤ 1048576) (hn : n ≤ 1024) (hs0 : -268435456 ≤ s) (hs1 : s ≤ 268435456) (hd0 : -268435456 ≤ d) (hd1 : d ≤ 268435456) (hf0 : 0 ≤ fr) :
    Calls Try.prog 9 #[.slice a0 n cap0, .slice a1 fl cap1, .slice a2 sl cap2, .int .i64 s, .int .i64 d, .int .u64 fr, .slice a6 m cap6] w fun e w' => e = .returned (.bool true) ∧ Below w.heap.size w w' := by
  have hln : idx.length = n := i0.1
  have hlm : ats.length = m := i6.1
  have hlf : off.length = fl := i1.1
  have HLN : Hid (idx.length = n) := hln
  have HLM : Hid (ats.length = m) := hlm
  have HLF : Hid (off.length = fl) := hlf
  clear hln hlm hlf
  have t1 : decide (s < -268435456) = false := by simp; omega
  have t2 : decide (268435456 < s) = false := by simp; omega
  have t3 : decide (d < -268435456) = false := by simp; omega
  have t4 : decide (268435456 < d) = false := by simp; omega
  go_enter Try.func9, Try.ntmps9
  go_wp2_with (go_at_call 35; refine (zz35_ok _ _ _ _ _ _ _ _ _ _ _ _ _ _ _ _ (by omega)).mono ?_; rintro e w' ⟨rfl, rfl⟩)
  refine (cloneBytes_any a0 n cap0 idx w i0 (by omega)).mono ?_
  rintro e wa ⟨io, rfl, hsi, hba, -⟩
  go_wp2_with fail
  refine (cloneU64_any a1 fl cap1 off wa (i1.below hba) (by omega)).mono ?_
  rintro e wb ⟨fo, rfl, hsf, hbb, -⟩
  replace hsi := hsi.step hbb
  have hwb : Below w.heap.size w wb := hba.trans (hbb.mono hba.size)
  clear hba hbb
  go_wp2_with fail
  refine (cloneU64_any a2 sl cap2 siz wb (i2.below hwb) (by omega)).mono ?_
  rintro e wc ⟨so, rfl, hss, hbc, -⟩
  replace hsi := hsi.step hbc
  replace hsf := hsf.step hbc
  have hwc : Below w.heap.size w wc := hwb.trans (hbc.mono hwb.size)
  clear hwb hbc
  go_wp2_with fail
  refine (cloneInts_any a6 m cap6 ats wc (i6.below hwc) (by omega)).mono ?_
  rintro e wd ⟨ao, rfl, hsa, hbd, -⟩
  replace hsi := hsi.step hbd
  replace hsf := hsf.step hbd
  replace hss := hss.step hbd
  have hwd : Below w.heap.size w wd := hwc.trans (hbd.mono hwc.size)
  clear hwc hbd
  go_wp2_with fail
  refine (cloneInts_any ao m m ats wd (hsa.toIn (Nat.le_refl _)) (by omega)).mono ?_
  rintro e we ⟨ko, rfl, hsk, hbe, -⟩
  replace hsi := hsi.step hbe
  replace hsf := hsf.step hbe
  replace hss := hss.step hbe
  replace hsa := hsa.step hbe
  have hwe : Below w.heap.size w we := hwd.trans (hbe.mono hwd.size)
  clear hwd hbe i0 i1 i2 i6
  go_wp2_with fail
  refine (node_any we.heap.size none none io fo so 0 0 0 0 n n fl fl sl sl 0 false idx off siz we hsi hsf hss (Nat.le_refl _) (by omega)).mono ?_
  rintro e wf ⟨rfl, hbf, hN⟩
  replace hsi := hsi.step hbf
  replace hsf := hsf.step hbf
  replace hsa := hsa.step hbf
  replace hsk := hsk.step hbf
  have hwf : Below w.heap.size w wf := hwe.trans (hbf.mono hwe.size)
  clear hss hwe hbf
  generalize we.heap.size = N at *
  go_wp2_with fail
  refine (zzChild_any N _ _ _ _ idx off siz [] s 0 none 0 wf hN ⟨rfl, .inl ⟨rfl, rfl, rfl⟩⟩ (by omega) (by rw [HLN.out]; omega) (by omega) hyi hyo hys).mono ?_
  rw [List.nil_append, HLN.out, outs0_len s idx off siz hyo]
  rintro e wg ⟨po, pc, rfl, hsp, hbg⟩
  replace hsi := hsi.step hbg
  replace hsf := hsf.step hbg
  replace hsa := hsa.step hbg
  replace hsk := hsk.step hbg
  replace hN := hN.step hbg
  have hwg : Below w.heap.size w wg := hwf.trans (hbg.mono hwf.size)
  clear hwf hbg
  have hnn : ((n : Int) != (n : Int)) = false := by simp
  go_wp2_with fail
  go_loopw [18] (fun i wr => ∃ k : Nat, k ≤ n ∧ i = .int .i64 k ∧ Below wg.heap.size wg wr) (fun i _ => n - (intOf i).toNat)
  case atStart => exact ⟨0, Nat.zero_le _, rfl, Below.refl _ _⟩
  case round =>
    obtain ⟨k, hk, rfl, hbel⟩ := hrel
    by_cases hlt : k < n
    · obtain ⟨hlp, ⟨_, h0, _⟩ | ⟨pb, pof, rfl, hpb, hpc, hpcell⟩⟩ := hsp.below hbel
      · omega
      have hxk := hpcell k hlt
      rw [outs0_at s idx off siz hyo k n hlt] at hxk
      have hpk := pos_bd s idx off siz k
      have hki : (k : Int) < (n : Int) := by omega
      clear hlp
      by_cases hk0 : k = 0
      · subst hk0
        have hp0 := pos_zero s idx off siz
        clear hpcell
        generalize pos s idx off siz 0 = x at *
        rw [Nat.add_zero] at hxk
        go_wp2
        go_roundw
        case rel => exact ⟨1, by omega, by go_num, hbel⟩
        case measure => simp [intOf]; omega
      · have hkb : ((k : Int) == 0) = false := by simp; omega
        have hxj := hpcell (k - 1) (by omega)
        rw [outs0_at s idx off siz hyo (k - 1) n (by omega)] at hxj
        have hpj := pos_bd s idx off siz (k - 1)
        have hpd := pos_next s idx off siz (k - 1)
        rw [show k - 1 + 1 = k by omega] at hpd
        clear hpcell
        generalize pos s idx off siz k = x at *
        generalize pos s idx off siz (k - 1) = y at *
        have hk1 : (1 : Int) ≤ (k : Int) := by omega
        go_wp2
        go_quiet (fail)
        go_wp2
        go_roundw
        case rel => exact ⟨k + 1, by omega, by go_num, below_drewN hbel _⟩
        case measure => simp [intOf]; omega
    · replace hsi := hsi.step hbel
      replace hsf := hsf.step hbel
      replace hsa := hsa.step hbel
      replace hsk := hsk.step hbel
      replace hsp := hsp.step hbel
      replace hN := hN.step hbel
      have hwr : Below w.heap.size w wr := hwg.trans (hbel.mono hwg.size)
      clear hwg hbel
      go_wp2_with fail
      refine (zzChild_any N _ _ _ _ idx off siz [] (s + d) 0 none 0 wr hN ⟨rfl, .inl ⟨rfl, rfl, rfl⟩⟩ (by omega) (by rw [HLN.out]; omega) (by omega) hyi hyo hys).mono ?_
      rw [List.nil_append, HLN.out, outs0_len (s + d) idx off siz hyo]
      rintro e wh ⟨qo, qc, rfl, hsq, hbh⟩
      replace hsi := hsi.step hbh
      replace hsf := hsf.step hbh
      replace hsa := hsa.step hbh
      replace hsk := hsk.step hbh
      replace hsp := hsp.step hbh
      replace hN := hN.step hbh
      have hwh : Below w.heap.size w wh := hwr.trans (hbh.mono hwr.size)
      clear hwr hbh
      go_wp2_with fail
      go_loopw [20] (fun i wr => ∃ k : Nat, k ≤ n ∧ i = .int .i64 k ∧ Below wh.heap.size wh wr) (fun i _ => n - (intOf i).toNat)
      case atStart => exact ⟨0, Nat.zero_le _, rfl, Below.refl _ _⟩
      case round =>
        obtain ⟨k2, hk2, rfl, hbel⟩ := hrel
        by_cases hlt2 : k2 < n
        · obtain ⟨hlp, ⟨_, h0, _⟩ | ⟨pb, pof, rfl, hpb, hpc, hpcell⟩⟩ := hsp.below hbel
          · omega
          obtain ⟨hlq, ⟨_, h0, _⟩ | ⟨qb, qof, rfl, hqb, hqc, hqcell⟩⟩ := hsq.below hbel
          · omega
          have hxk := hpcell k2 hlt2
          rw [outs0_at s idx off siz hyo k2 n hlt2] at hxk
          have hyk := hqcell k2 hlt2
          rw [outs0_at (s + d) idx off siz hyo k2 n hlt2, pos_shift] at hyk
          have hpk := pos_bd s idx off siz k2
          have hki : (k2 : Int) < (n : Int) := by omega
          clear hlp hlq hpcell hqcell
          generalize pos s idx off siz k2 = x at *
          have hxx : ((x + d) != (x + d)) = false := by simp
          go_wp2
          go_quiet (fail)
          go_wp2
          go_roundw
          case rel => exact ⟨k2 + 1, by omega, by go_num, below_drewN hbel _⟩
          case measure => simp [intOf]; omega
        · replace hsi := hsi.step hbel
          replace hsf := hsf.step hbel
          replace hsa := hsa.step hbel
          replace hsk := hsk.step hbel
          replace hsp := hsp.step hbel
          replace hN := hN.step hbel
          have hwr : Below w.heap.size w wr := hwh.trans (hbel.mono hwh.size)
          clear hwh hbel hsq
          go_wp2_with fail
          refine (zzChild_any N _ _ _ _ idx off siz ats s fr ao m wr hN hsa (by omega) (by rw [HLN.out]; omega) (by omega) hyi hyo hys).mono ?_
          rw [HLN.out]
          obtain ⟨L, HL⟩ : ∃ L, Hid ((ats ++ outs s idx off siz fr n).length = L) := ⟨_, rfl⟩
          rw [HL.out]
          rintro e wi ⟨to, tc, rfl, hst, hbi⟩
          replace hsi := hsi.step hbi
          replace hsf := hsf.step hbi
          replace hsk := hsk.step hbi
          replace hsp := hsp.step hbi
          have hwi : Below w.heap.size w wi := hwr.trans (hbi.mono hwr.size)
          have hLm : m ≤ L := by have := HL.out; have := HLM.out; simp at *; omega
          have hLn : L ≤ m + n := by have := HL.out; have := HLM.out; have := outs_len s idx off siz fr n; simp at *; omega
          have hLb : decide (L < m) = false := by simp; omega
          clear hwr hbi hsa hN
          go_wp2_with fail
          go_loopw [22] (fun i wr => ∃ k : Nat, k ≤ m ∧ i = .int .i64 k ∧ Below wi.heap.size wi wr) (fun i _ => m - (intOf i).toNat)
          case atStart => exact ⟨0, Nat.zero_le _, rfl, Below.refl _ _⟩
          case round =>
            obtain ⟨k3, hk3, rfl, hbel⟩ := hrel
            by_cases hlt3 : k3 < m
            · obtain ⟨hlp, ⟨_, h0, _⟩ | ⟨tb, tof, rfl, htb, htc, htcell⟩⟩ := hst.below hbel
              · omega
              obtain ⟨hlq, ⟨_, h0, _⟩ | ⟨qb, qof, rfl, hqb, hqc, hqcell⟩⟩ := hsk.below hbel
              · omega
              have hxk := htcell k3 (by omega)
              rw [show (ats ++ outs s idx off siz fr n).getD k3 0 = ats.getD k3 0 by simp [List.getD, List.getElem?_append_left (show k3 < ats.length by rw [HLM.out]; exact hlt3)]] at hxk
              have hyk := hqcell k3 hlt3
              have hki : (k3 : Int) < (m : Int) := by omega
              have hkl : (k3 : Int) < (L : Int) := by omega
              clear hlp hlq htcell hqcell
              generalize ats.getD k3 0 = x at *
              have hxx : (x != x) = false := by simp
              go_wp2
              go_quiet (fail)
              go_wp2
              go_roundw
              case rel => exact ⟨k3 + 1, by omega, by go_num, below_drewN hbel _⟩
              case measure => simp [intOf]; omega
            · replace hsf := hsf.step hbel
              replace hsp := hsp.step hbel
              replace hst := hst.step hbel
              have hwr : Below w.heap.size w wr := hwi.trans (hbel.mono hwi.size)
              clear hwi hbel hsk hsi
              generalize hwj : wr = wj at *
              clear hwj
              go_wp2_with fail
              go_loopw [23, 24] (fun j c wr => ∃ k l : Nat, k ≤ n ∧ m + l ≤ L ∧ c = .int .i64 k ∧ j = .int .i64 ((m : Int) + (l : Int)) ∧ Hid ((outs s idx off siz fr k).length = l) ∧ Below wj.heap.size wj wr) (fun _ c _ => n - (intOf c).toNat)
              case atStart => exact ⟨0, 0, Nat.zero_le _, hLm, rfl, by go_num, rfl, Below.refl _ _⟩
              case round =>
                obtain ⟨k4, l, hk4, hl4, rfl, rfl, HJ, hbel⟩ := hrel
                by_cases hlt4 : k4 < n
                · have hki : (k4 : Int) < (n : Int) := by omega
                  have hO : outs s idx off siz fr (k4 + 1) = outs s idx off siz fr k4 ++ (if fr ≤ off.getD k4 0 then [pos s idx off siz k4] else []) := rfl
                  have HO : Hid (outs s idx off siz fr (k4 + 1) = outs s idx off siz fr k4 ++ (if fr ≤ off.getD k4 0 then [pos s idx off siz k4] else [])) := hO
                  have HA : Hid (fr ≤ off.getD k4 0 → (outs s idx off siz fr k4).length < (outs s idx off siz fr n).length ∧ (outs s idx off siz fr n).getD (outs s idx off siz fr k4).length 0 = pos s idx off siz k4) := outs_at s idx off siz fr k4 n hlt4
                  clear hO
                  by_cases hkf : k4 < fl
                  · obtain ⟨hlf, ⟨_, h0, _⟩ | ⟨fb, fof, rfl, hfb, hfc, hfcell⟩⟩ := hsf.below hbel
                    · omega
                    have hfk := hfcell k4 hkf
                    have hkfi : (k4 : Int) < (fl : Int) := by omega
                    clear hfcell hlf
                    by_cases hfy : fr ≤ off.getD k4 0
                    · have hyy := hyo k4
                      have hA := HA.out hfy
                      rw [HJ.out] at hA
                      obtain ⟨hlL, hpa⟩ := hA
                      have hmL : m + l < L := by
                        have h1 := HL.out
                        have h2 := HLM.out
                        simp at h1; omega
                      obtain ⟨hlp, ⟨_, h0, _⟩ | ⟨tb, tof, rfl, htb, htc, htcell⟩⟩ := hst.below hbel
                      · omega
                      obtain ⟨hlq, ⟨_, h0, _⟩ | ⟨pb, pof, rfl, hpb, hpc, hpcell⟩⟩ := hsp.below hbel
                      · omega
                      have hxk := htcell (m + l) hmL
                      rw [getD_app_right _ _ m l HLM.out, hpa] at hxk
                      have hyk := hpcell k4 hlt4
                      rw [outs0_at s idx off siz hyo k4 n hlt4] at hyk
                      have hL1 : Hid ((outs s idx off siz fr (k4 + 1)).length = l + 1) := by
                        show _ = _
                        rw [HO.out, if_pos hfy, List.length_append, HJ.out]; rfl
                      have hjL : (m : Int) + (l : Int) < (L : Int) := by omega
                      have hgd : decide ((L : Int) ≤ (m : Int) + (l : Int)) = false := by simp; omega
                      clear hpa hlp hlq htcell hpcell HO HA
                      generalize pos s idx off siz k4 = x at *
                      have hxx : (x != x) = false := by simp
                      generalize off.getD k4 0 = y at *
                      go_wp2
                      go_quiet (fail)
                      go_wp2
                      go_roundw
                      case rel => exact ⟨k4 + 1, l + 1, by omega, by omega, by go_num, by go_num, hL1, below_drewN hbel _⟩
                      case measure => simp [intOf]; omega
                    · have hyy := hyo k4
                      have hL1 : Hid ((outs s idx off siz fr (k4 + 1)).length = l) := by
                        show _ = _
                        rw [HO.out, if_neg hfy, List.append_nil]; exact HJ.out
                      clear HO HA
                      generalize off.getD k4 0 = y at *
                      go_wp2
                      go_roundw
                      case rel => exact ⟨k4 + 1, l, by omega, by omega, by go_num, by go_num, hL1, hbel⟩
                      case measure => simp [intOf]; omega
                  · have hy0 : off.getD k4 0 = 0 := by rw [List.getD, List.getElem?_eq_none (by rw [HLF.out]; omega)]; rfl
                    rw [hy0] at HA HO
                    have hkfn : ¬ (k4 : Int) < (fl : Int) := by omega
                    clear hy0
                    by_cases hfy : fr ≤ 0
                    · skip
                      have hA := HA.out hfy
                      rw [HJ.out] at hA
                      obtain ⟨hlL, hpa⟩ := hA
                      have hmL : m + l < L := by
                        have h1 := HL.out
                        have h2 := HLM.out
                        simp at h1; omega
                      obtain ⟨hlp, ⟨_, h0, _⟩ | ⟨tb, tof, rfl, htb, htc, htcell⟩⟩ := hst.below hbel
                      · omega
                      obtain ⟨hlq, ⟨_, h0, _⟩ | ⟨pb, pof, rfl, hpb, hpc, hpcell⟩⟩ := hsp.below hbel
                      · omega
                      have hxk := htcell (m + l) hmL
                      rw [getD_app_right _ _ m l HLM.out, hpa] at hxk
                      have hyk := hpcell k4 hlt4
                      rw [outs0_at s idx off siz hyo k4 n hlt4] at hyk
                      have hL1 : Hid ((outs s idx off siz fr (k4 + 1)).length = l + 1) := by
                        show _ = _
                        rw [HO.out, if_pos hfy, List.length_append, HJ.out]; rfl
                      have hjL : (m : Int) + (l : Int) < (L : Int) := by omega
                      have hgd : decide ((L : Int) ≤ (m : Int) + (l : Int)) = false := by simp; omega
                      clear hpa hlp hlq htcell hpcell HO HA
                      generalize pos s idx off siz k4 = x at *
                      have hxx : (x != x) = false := by simp
                      go_wp2
                      go_quiet (fail)
                      go_wp2
                      go_roundw
                      case rel => exact ⟨k4 + 1, l + 1, by omega, by omega, by go_num, by go_num, hL1, below_drewN hbel _⟩
                      case measure => simp [intOf]; omega
                    · skip
                      have hL1 : Hid ((outs s idx off siz fr (k4 + 1)).length = l) := by
                        show _ = _
                        rw [HO.out, if_neg hfy, List.append_nil]; exact HJ.out
                      clear HO HA
                      go_wp2
                      go_roundw
                      case rel => exact ⟨k4 + 1, l, by omega, by omega, by go_num, by go_num, hL1, hbel⟩
                      case measure => simp [intOf]; omega
                · have HKL : Hid (m + l = L) := by
                    have h1 := HL.out
                    have h2 := HLM.out
                    have h3 := HJ.out
                    obtain rfl : k4 = n := by omega
                    show m + l = L
                    simp at h1; omega
                  have hjl : ((m : Int) + (l : Int) == (L : Int)) = true := by have := HKL.out; simp; omega
                  go_wp2
                  go_ret
                  exact ⟨rfl, hwr.trans (hbel.mono hwr.size)⟩
end Go.Proofs.Qxb6003418a
