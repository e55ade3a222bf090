/-
  The walk of the law FnAppendTokensDecodes at an empty path; the walk at every input.
-/
import Derived.Test.Qxb6003418aW6
namespace Go.Proofs.Qxb6003418a
open Go.RowKit
set_option linter.unusedVariables false

theorem uvb_zero (ps : List Int) : uvbF 9 (4 * 0) ++ tokB ps 0 = [0] := by
  have h : tokB ps 0 = [] := by simp [tokB]
  rw [h, List.append_nil]
  rfl

set_option maxHeartbeats 4000000 in
set_option maxRecDepth 100000 in
theorem w6_zero (a0 : Option Addr) (m cap0 : Nat) (zs : List Int) (a1 : Option Addr) (pl cap1 : Nat) (ps : List Int) (jk : Int) (w : World)
    (i0 : In .u8 w a0 m zs) (i1 : In .u8 w a1 pl ps) (hyp : Bytes ps) (hz : m + pl ≤ 1048576) (hj0 : 0 ≤ jk) (hj1 : jk ≤ 255) :
    Calls Try.prog 6 #[.slice a0 m cap0, .slice a1 pl cap1, .int .i64 0, .int .u8 jk] w fun e w' => e = .returned (.bool true) ∧ Below w.heap.size w w' := by
  have HLM : Hid (zs.length = m) := i0.1
  have t2 : decide (2 * (pl : Int) < 0) = false := by simp; omega
  go_enter Try.func6, Try.ntmps6
  go_wp2_with (go_at_call 23; refine (zz23_ok _ _ _ _ _ _ _ _ _ hz).mono ?_; rintro e w' ⟨rfl, rfl⟩)
  refine (cloneBytes_any a0 m cap0 zs w i0 (by omega)).mono ?_
  rintro e wa ⟨ao, rfl, hsa, hba, -⟩
  go_wp2_with fail
  refine (cloneBytes_any a1 pl cap1 ps wa (i1.below hba) (by omega)).mono ?_
  rintro e wb ⟨po, rfl, hsp, hbb, -⟩
  replace hsa := hsa.up hbb
  have hwb : Below w.heap.size w wb := hba.trans (hbb.mono hba.size)
  clear hba hbb i0 i1
  go_wp2_with fail
  refine (cloneBytes_any ao m m zs wb (hsa.toIn (Nat.le_refl _)) (by omega)).mono ?_
  rintro e wc ⟨ko, rfl, hsk, hbc, -⟩
  replace hsa := hsa.up hbc
  replace hsp := hsp.up hbc
  have hwc : Below w.heap.size w wc := hwb.trans (hbc.mono hwb.size)
  clear hwb hbc
  go_wp2_with fail
  refine (path_any po pl pl 0 wc).mono ?_
  rintro e wd ⟨rfl, hwd⟩
  have hbd : Below wc.heap.size wc wd := by rw [hwd]; exact (Below.refl _ _).alloc (Nat.le_refl _) _
  replace hsa := hsa.up hbd
  replace hsp := hsp.up hbd
  replace hsk := hsk.up hbd
  have hwd' : Below w.heap.size w wd := hwc.trans (hbd.mono hwc.size)
  clear hwd hbd hwc
  go_wp2_with fail
  have hcall := zzAppendTokens_any ao po m pl pl zs ps 0 wd hsa hsp hyp (by omega) (by omega) (by omega)
  rw [uvb_zero, Int.ofNat_zero] at hcall
  refine hcall.mono ?_
  clear hcall
  rintro e we ⟨g, cap, L, rfl, HL, hso, hbe⟩
  replace hsk := hsk.up hbe
  have hwe : Below w.heap.size w we := hwd'.trans (hbe.mono hwd'.size)
  clear hwd' hbe hsa hsp
  obtain rfl : L = m + 1 := by rw [HL.out, List.length_append, HLM.out]; rfl
  have hLc : m + 1 ≤ cap := by
    obtain ⟨_, ⟨h, _⟩ | ⟨b, o, h, _, h3, _⟩⟩ := hso
    · cases h
    · exact h3
  have hcm : ¬ cap = m := by omega
  clear HL
  go_wp2_with fail
  refine (eqBytes_same we.heap.size we.heap.size (some ⟨g, 0, none⟩) ko m cap m zs we (hso.head m HLM.out) hsk (Nat.le_refl _) (Nat.le_refl _) (by omega)).mono ?_
  rintro e wf ⟨rfl, hbf⟩
  replace hso := hso.up hbf
  have hwf : Below w.heap.size w wf := hwe.trans (hbf.mono hwe.size)
  clear hwe hbf hsk
  have hsr := hso.rest m HLM.out
  rw [Nat.zero_add, Nat.add_sub_cancel_left] at hsr
  clear hso
  go_wp2_with fail
  have hc25 : Calls Try.prog 25 #[.slice (some ⟨g, m, none⟩) 1 (cap - m)] wf fun e w' => e = .returned (.tuple #[.int .u64 0, .int .i64 1]) ∧ wf = w' := readUv_any wf.heap.size (some ⟨g, m, none⟩) 1 (cap - m) 0 [] wf hsr (by omega) (by omega)
  have hc26 : Calls Try.prog 26 #[.int .u64 0] wf fun e w' => e = .returned (.int .i64 1) ∧ wf = w' := uvLen_any 0 wf (by omega)
  refine hc25.mono ?_
  rintro e w' ⟨rfl, rfl⟩
  clear hc25
  by_cases hck : cap - m = 1
  · rw [hck] at hsr ⊢
    go_wp2_with fail
    refine hc26.mono ?_
    rintro e w' ⟨rfl, rfl⟩
    obtain ⟨i0, hi0, hz0, hz1, hz2⟩ := info_parts info5
    have hib : i0.bytes * 2 ≤ 281474976710656 := by rw [hz2]; omega
    go_wp2_with fail
    go_loop [16] (fun i => i = .int .i64 0) (fun _ => 0)
    case atStart => rfl
    case round =>
      subst hrel
      go_wp2_with (at_make; refine wpList_make_full _ rfl _ _ 22 rfl wf.heap.size 5 i0 (.int .u8 0) 1 Try.underlying22 hi0 hz0 hz1 _ _ _ _ 2 rfl rfl rfl rfl hib (by decide) (Nat.le_refl _) ?_)
      intro w1 hown hgrow
      have hown1 : w1.ownsRow wf.heap.size 5 1 (.slice (some ⟨wf.heap.size, 0, none⟩) 2 2) 2 ([0, 0].map (Value.int .u8)) := by simpa [toList_madeCells_one, List.replicate] using hown
      have hb1 : Below wf.heap.size wf w1 := (Below.refl _ _).grown hgrow (Nat.le_refl _) (by simp)
      have hfz0 := hown1.frozenAt 0
      have hfz1 := hown1.frozenAt 1
      have hce0 : w1.cell? ⟨wf.heap.size, 0, none⟩ = some (.int .u8 0) := hown1.cellAt 0 (by omega)
      have hce1 : w1.cell? ⟨wf.heap.size, 1, none⟩ = some (.int .u8 0) := hown1.cellAt 1 (by omega)
      have HS : Hid (∀ b c, ((w1.setCell ⟨wf.heap.size, 0, none⟩ (.int .u8 b)).setCell ⟨wf.heap.size, 1, none⟩ (.int .u8 c)).ownsRow wf.heap.size 5 1 (.slice (some ⟨wf.heap.size, 0, none⟩) 2 2) 2 ([b, c].map (Value.int .u8))) := by
        intro b c
        exact ((hown1.stored 0 (.int .u8 b)).1.stored 1 (.int .u8 c)).1
      clear hown hgrow hown1 hi0 hz0 hz1 hz2 hib
      go_wp2_with fail
      go_loop [18] (fun i => i = .int .i64 0) (fun _ => 0)
      case atStart => rfl
      case round =>
        subst hrel
        go_wp2_with fail
        obtain ⟨wh, hwh⟩ : ∃ wh, wh = (w1.setCell ⟨wf.heap.size, 0, none⟩ (.int .u8 jk)).setCell ⟨wf.heap.size, 1, none⟩ (.int .u8 (bits BinOp.xor IntKind.u8 IntKind.u8.max jk)) := ⟨_, rfl⟩
        rw [← hwh]
        have hxb := xor_bd jk ⟨hj0, hj1⟩
        have hsq := own_Sl (HS.out jk (bits BinOp.xor IntKind.u8 IntKind.u8.max jk))
        rw [← hwh] at hsq
        have hq1 : Bytes [jk, bits BinOp.xor IntKind.u8 IntKind.u8.max jk] := by
          intro j
          match j with
          | 0 => exact ⟨hj0, hj1⟩
          | 1 => exact hxb
          | n + 2 => simp [List.getD]
        have hbh : Below wf.heap.size wf wh := by rw [hwh]; exact (hb1.setCell (Nat.le_refl _) _).setCell (Nat.le_refl _) _
        have hsrh := hsr.up hbh
        have hwh2 : Below w.heap.size w wh := hwf.trans (hbh.mono hwf.size)
        clear hwh HS hxb hb1 hbh hfz0 hfz1 hce0 hce1 hsr hwf
        refine (path_any (some ⟨wf.heap.size, 0, none⟩) 2 2 0 wh).mono ?_
        rintro e wi ⟨rfl, hwi⟩
        have hbi : Below wh.heap.size wh wi := by rw [hwi]; exact (Below.refl _ _).alloc (Nat.le_refl _) _
        replace hsq := hsq.up hbi
        replace hsrh := hsrh.up hbi
        have hwi2 : Below w.heap.size w wi := hwh2.trans (hbi.mono hwh2.size)
        clear hwi hbi hwh2
        go_wp2_with fail
        have hcall := zzAppendTokens_any none (some ⟨wf.heap.size, 0, none⟩) 0 2 2 [] _ 0 wi ⟨rfl, .inl ⟨rfl, rfl, rfl⟩⟩ hsq hq1 (by omega) (by omega) (by omega)
        rw [uvb_zero, Int.ofNat_zero, List.nil_append] at hcall
        refine hcall.mono ?_
        clear hcall
        rintro e wj ⟨g2, cap2, L2, rfl, HL2, hso2, hbj⟩
        obtain rfl : L2 = 1 := HL2.out
        replace hsrh := hsrh.up hbj
        have hwj : Below w.heap.size w wj := hwi2.trans (hbj.mono hwi2.size)
        clear hbj hwi2 hsq
        go_wp2_with fail
        refine (eqBytes_same wj.heap.size wj.heap.size (some ⟨g2, 0, none⟩) (some ⟨g, m, none⟩) 1 cap2 1 _ wj hso2 hsrh (Nat.le_refl _) (Nat.le_refl _) (by omega)).mono ?_
        rintro e wk ⟨rfl, hbk⟩
        go_wp2
        go_ret
        exact ⟨rfl, hwj.trans (hbk.mono hwj.size)⟩
  · skip
    go_wp2_with fail
    refine hc26.mono ?_
    rintro e w' ⟨rfl, rfl⟩
    obtain ⟨i0, hi0, hz0, hz1, hz2⟩ := info_parts info5
    have hib : i0.bytes * 2 ≤ 281474976710656 := by rw [hz2]; omega
    go_wp2_with fail
    go_loop [16] (fun i => i = .int .i64 0) (fun _ => 0)
    case atStart => rfl
    case round =>
      subst hrel
      go_wp2_with (at_make; refine wpList_make_full _ rfl _ _ 22 rfl wf.heap.size 5 i0 (.int .u8 0) 1 Try.underlying22 hi0 hz0 hz1 _ _ _ _ 2 rfl rfl rfl rfl hib (by decide) (Nat.le_refl _) ?_)
      intro w1 hown hgrow
      have hown1 : w1.ownsRow wf.heap.size 5 1 (.slice (some ⟨wf.heap.size, 0, none⟩) 2 2) 2 ([0, 0].map (Value.int .u8)) := by simpa [toList_madeCells_one, List.replicate] using hown
      have hb1 : Below wf.heap.size wf w1 := (Below.refl _ _).grown hgrow (Nat.le_refl _) (by simp)
      have hfz0 := hown1.frozenAt 0
      have hfz1 := hown1.frozenAt 1
      have hce0 : w1.cell? ⟨wf.heap.size, 0, none⟩ = some (.int .u8 0) := hown1.cellAt 0 (by omega)
      have hce1 : w1.cell? ⟨wf.heap.size, 1, none⟩ = some (.int .u8 0) := hown1.cellAt 1 (by omega)
      have HS : Hid (∀ b c, ((w1.setCell ⟨wf.heap.size, 0, none⟩ (.int .u8 b)).setCell ⟨wf.heap.size, 1, none⟩ (.int .u8 c)).ownsRow wf.heap.size 5 1 (.slice (some ⟨wf.heap.size, 0, none⟩) 2 2) 2 ([b, c].map (Value.int .u8))) := by
        intro b c
        exact ((hown1.stored 0 (.int .u8 b)).1.stored 1 (.int .u8 c)).1
      clear hown hgrow hown1 hi0 hz0 hz1 hz2 hib
      go_wp2_with fail
      go_loop [18] (fun i => i = .int .i64 0) (fun _ => 0)
      case atStart => rfl
      case round =>
        subst hrel
        go_wp2_with fail
        obtain ⟨wh, hwh⟩ : ∃ wh, wh = (w1.setCell ⟨wf.heap.size, 0, none⟩ (.int .u8 jk)).setCell ⟨wf.heap.size, 1, none⟩ (.int .u8 (bits BinOp.xor IntKind.u8 IntKind.u8.max jk)) := ⟨_, rfl⟩
        rw [← hwh]
        have hxb := xor_bd jk ⟨hj0, hj1⟩
        have hsq := own_Sl (HS.out jk (bits BinOp.xor IntKind.u8 IntKind.u8.max jk))
        rw [← hwh] at hsq
        have hq1 : Bytes [jk, bits BinOp.xor IntKind.u8 IntKind.u8.max jk] := by
          intro j
          match j with
          | 0 => exact ⟨hj0, hj1⟩
          | 1 => exact hxb
          | n + 2 => simp [List.getD]
        have hbh : Below wf.heap.size wf wh := by rw [hwh]; exact (hb1.setCell (Nat.le_refl _) _).setCell (Nat.le_refl _) _
        have hsrh := hsr.up hbh
        have hwh2 : Below w.heap.size w wh := hwf.trans (hbh.mono hwf.size)
        clear hwh HS hxb hb1 hbh hfz0 hfz1 hce0 hce1 hsr hwf
        refine (path_any (some ⟨wf.heap.size, 0, none⟩) 2 2 0 wh).mono ?_
        rintro e wi ⟨rfl, hwi⟩
        have hbi : Below wh.heap.size wh wi := by rw [hwi]; exact (Below.refl _ _).alloc (Nat.le_refl _) _
        replace hsq := hsq.up hbi
        replace hsrh := hsrh.up hbi
        have hwi2 : Below w.heap.size w wi := hwh2.trans (hbi.mono hwh2.size)
        clear hwi hbi hwh2
        go_wp2_with fail
        have hcall := zzAppendTokens_any none (some ⟨wf.heap.size, 0, none⟩) 0 2 2 [] _ 0 wi ⟨rfl, .inl ⟨rfl, rfl, rfl⟩⟩ hsq hq1 (by omega) (by omega) (by omega)
        rw [uvb_zero, Int.ofNat_zero, List.nil_append] at hcall
        refine hcall.mono ?_
        clear hcall
        rintro e wj ⟨g2, cap2, L2, rfl, HL2, hso2, hbj⟩
        obtain rfl : L2 = 1 := HL2.out
        replace hsrh := hsrh.up hbj
        have hwj : Below w.heap.size w wj := hwi2.trans (hbj.mono hwi2.size)
        clear hbj hwi2 hsq
        go_wp2_with fail
        refine (eqBytes_same wj.heap.size wj.heap.size (some ⟨g2, 0, none⟩) (some ⟨g, m, none⟩) 1 cap2 (cap - m) _ wj hso2 hsrh (Nat.le_refl _) (Nat.le_refl _) (by omega)).mono ?_
        rintro e wk ⟨rfl, hbk⟩
        go_wp2
        go_ret
        exact ⟨rfl, hwj.trans (hbk.mono hwj.size)⟩
end Go.Proofs.Qxb6003418a
