/-
  The walk of the law FnComparePathsIgnoresCommonPrefix inside its bounds.
-/
import Derived.Test.Qxb6003418aW5
namespace Go.Proofs.Qxb6003418a
open Go.RowKit
set_option linter.unusedVariables false

/-- A box with a path in it. -/
def Box (w : World) (b : Nat) (ao : Option Addr) (n cap : Nat) (m : Int) : Prop := b < w.heap.size ∧ w.cell? ⟨b, 0, none⟩ = some (.slice ao n cap) ∧ w.cell? ⟨b, 1, none⟩ = some (.int .i64 m)
theorem Box.up {w w' b ao n cap m} (h : Box w b ao n cap m) (hb : Below w.heap.size w w') : Box w' b ao n cap m :=
  ⟨Nat.lt_of_lt_of_le h.1 hb.size, (hb.cell (p := ⟨b, 0, none⟩) h.1).trans h.2.1, (hb.cell (p := ⟨b, 1, none⟩) h.1).trans h.2.2⟩
theorem Box.new (w : World) (ao : Option Addr) (n cap : Nat) (m : Int) : Box (w.alloc (.cells #[.slice ao n cap, .int .i64 m] 26)) w.heap.size ao n cap m := by
  refine ⟨by simp, ?_, ?_⟩ <;> simp [go_sem]

set_option maxHeartbeats 4000000 in
set_option maxRecDepth 100000 in
theorem wk5_main (a0 : Option Addr) (cl cap0 : Nat) (cs : List Int) (cn : Nat) (a2 : Option Addr) (al cap2 : Nat) (xs : List Int) (an : Nat) (a4 : Option Addr) (bl cap4 : Nat) (ys : List Int) (bn : Nat) (w : World)
    (i0 : In .u8 w a0 cl cs) (i2 : In .u8 w a2 al xs) (i4 : In .u8 w a4 bl ys) (hyc : Bytes cs) (hyx : Bytes xs) (hyy : Bytes ys) (hz : cl + al + bl ≤ 1048576) (hcn : cn ≤ 2 * cl) (han : an ≤ 2 * al) (hbn : bn ≤ 2 * bl) :
    Calls Try.prog 5 #[.slice a0 cl cap0, .int .i64 cn, .slice a2 al cap2, .int .i64 an, .slice a4 bl cap4, .int .i64 bn] w fun e w' => e = .returned (.bool true) ∧ Below w.heap.size w w' := by
  have t1 : decide ((cn : Int) < 0) = false := by simp
  have t2 : decide (2 * (cl : Int) < (cn : Int)) = false := by simp; omega
  have t3 : decide ((an : Int) < 0) = false := by simp
  have t4 : decide (2 * (al : Int) < (an : Int)) = false := by simp; omega
  have t5 : decide ((bn : Int) < 0) = false := by simp
  have t6 : decide (2 * (bl : Int) < (bn : Int)) = false := by simp; omega
  have t7 : decide (1048576 < (cl : Int) + (al : Int) + (bl : Int)) = false := by simp; omega
  go_enter Try.func5, Try.ntmps5
  go_wp2_with (go_at_call 22; refine (zz22_ok _ _ _ _ _ _ _ _ _ _ _ _ _ hz).mono ?_; rintro e w' ⟨rfl, rfl⟩)
  refine (cloneBytes_any a0 cl cap0 cs w i0 (by omega)).mono ?_
  rintro e wa ⟨co, rfl, hsc, hba, -⟩
  go_wp2_with fail
  refine (cloneBytes_any a2 al cap2 xs wa (i2.below hba) (by omega)).mono ?_
  rintro e wb ⟨ao, rfl, hsa, hbb, -⟩
  replace hsc := hsc.up2 hbb
  have hwb : Below w.heap.size w wb := hba.trans (hbb.mono hba.size)
  clear hba hbb i0 i2
  go_wp2_with fail
  refine (cloneBytes_any a4 bl cap4 ys wb (i4.below hwb) (by omega)).mono ?_
  rintro e wc ⟨bo, rfl, hsb, hbc, -⟩
  replace hsc := hsc.up2 hbc
  replace hsa := hsa.up2 hbc
  have hwc : Below w.heap.size w wc := hwb.trans (hbc.mono hwb.size)
  clear hwb hbc i4
  go_wp2_with fail
  refine (path_any co cl cl cn wc).mono ?_
  rintro e wd ⟨rfl, hwd⟩
  have hbd : Below wc.heap.size wc wd := by rw [hwd]; exact (Below.refl _ _).alloc (Nat.le_refl _) _
  replace hsc := hsc.up2 hbd
  replace hsa := hsa.up2 hbd
  replace hsb := hsb.up2 hbd
  have hwd' : Below w.heap.size w wd := hwc.trans (hbd.mono hwc.size)
  clear hwd hbd hwc
  go_wp2_with fail
  obtain ⟨we, hwe⟩ : ∃ we, we = wd.alloc (.cells #[.slice co cl cl, .int .i64 cn] 26) := ⟨_, rfl⟩
  rw [← hwe]
  have xC : Box we wd.heap.size co cl cl cn := by rw [hwe]; exact Box.new _ _ _ _ _
  have hbe : Below wd.heap.size wd we := by rw [hwe]; exact (Below.refl _ _).alloc (Nat.le_refl _) _
  replace hsc := hsc.up2 hbe
  replace hsa := hsa.up2 hbe
  replace hsb := hsb.up2 hbe
  have hwe' : Below w.heap.size w we := hwd'.trans (hbe.mono hwd'.size)
  clear hwe hbe hwd'
  generalize wd.heap.size = nC at *
  refine (path_any ao al al an we).mono ?_
  rintro e wf ⟨rfl, hwf⟩
  have hbf : Below we.heap.size we wf := by rw [hwf]; exact (Below.refl _ _).alloc (Nat.le_refl _) _
  replace hsc := hsc.up2 hbf
  replace hsa := hsa.up2 hbf
  replace hsb := hsb.up2 hbf
  replace xC := xC.up hbf
  have hwf' : Below w.heap.size w wf := hwe'.trans (hbf.mono hwe'.size)
  clear hwf hbf hwe'
  go_wp2_with fail
  obtain ⟨wg, hwg⟩ : ∃ wg, wg = wf.alloc (.cells #[.slice ao al al, .int .i64 an] 26) := ⟨_, rfl⟩
  rw [← hwg]
  have xA : Box wg wf.heap.size ao al al an := by rw [hwg]; exact Box.new _ _ _ _ _
  have hbg : Below wf.heap.size wf wg := by rw [hwg]; exact (Below.refl _ _).alloc (Nat.le_refl _) _
  replace hsc := hsc.up2 hbg
  replace hsa := hsa.up2 hbg
  replace hsb := hsb.up2 hbg
  replace xC := xC.up hbg
  have hwg' : Below w.heap.size w wg := hwf'.trans (hbg.mono hwf'.size)
  clear hwg hbg hwf'
  generalize wf.heap.size = nA at *
  refine (path_any bo bl bl bn wg).mono ?_
  rintro e wh ⟨rfl, hwh⟩
  have hbh : Below wg.heap.size wg wh := by rw [hwh]; exact (Below.refl _ _).alloc (Nat.le_refl _) _
  replace hsc := hsc.up2 hbh
  replace hsa := hsa.up2 hbh
  replace hsb := hsb.up2 hbh
  replace xC := xC.up hbh
  replace xA := xA.up hbh
  have hwh' : Below w.heap.size w wh := hwg'.trans (hbh.mono hwg'.size)
  clear hwh hbh hwg'
  have xA0 := xA.2.1
  have xA1 := xA.2.2
  have xAl := xA.1
  go_wp2_with fail
  clear xA0 xA1 xAl
  obtain ⟨wi, hwi⟩ : ∃ wi, wi = wh.alloc (.cells #[.slice bo bl bl, .int .i64 bn] 26) := ⟨_, rfl⟩
  rw [← hwi]
  have xB : Box wi wh.heap.size bo bl bl bn := by rw [hwi]; exact Box.new _ _ _ _ _
  have hbi : Below wh.heap.size wh wi := by rw [hwi]; exact (Below.refl _ _).alloc (Nat.le_refl _) _
  replace hsc := hsc.up2 hbi
  replace hsa := hsa.up2 hbi
  replace hsb := hsb.up2 hbi
  replace xC := xC.up hbi
  replace xA := xA.up hbi
  have hwi' : Below w.heap.size w wi := hwh'.trans (hbi.mono hwh'.size)
  clear hwi hbi hwh'
  generalize wh.heap.size = nB at *
  refine (zzCompare_any wi.heap.size ao bo al al bl bl xs ys an bn wi hsa hsb (Nat.le_refl _) hyx hyy (by omega) (by omega) (by omega) (by omega) (by omega) (by omega)).mono ?_
  rintro e wj ⟨t, rfl, hcp, hbj⟩
  have HCP : Hid (CP (tokI xs) (tokI ys) (min (an : Int).toNat (bn : Int).toNat) t) := hcp
  replace hsc := hsc.up2 hbj
  replace hsa := hsa.up2 hbj
  replace hsb := hsb.up2 hbj
  replace xC := xC.up hbj
  replace xA := xA.up hbj
  replace xB := xB.up hbj
  have hwj : Below w.heap.size w wj := hwi'.trans (hbj.mono hwi'.size)
  clear hcp hbj hwi'
  go_wp2_with fail
  refine (sgn_any _ wj).mono ?_
  rintro e w' ⟨rfl, hw'⟩
  rw [hw']
  clear hw' w'
  have xC0 := xC.2.1
  have xC1 := xC.2.2
  have xCl := xC.1
  have xA0 := xA.2.1
  have xA1 := xA.2.2
  have xAl := xA.1
  have xB0 := xB.2.1
  have xB1 := xB.2.2
  have xBl := xB.1
  go_wp2_with fail
  clear xC0 xC1 xCl xA0 xA1 xAl xB0 xB1 xBl
  obtain ⟨Ma, HMa⟩ : ∃ M, Hid (M = (cn + an + 1) / 2) := ⟨_, rfl⟩
  obtain ⟨Mb, HMb⟩ : ∃ M, Hid (M = (cn + bn + 1) / 2) := ⟨_, rfl⟩
  have hMa1 : 2 * Ma ≤ cn + an + 1 := by rw [HMa.out]; omega
  have hMa2 : cn + an ≤ 2 * Ma := by rw [HMa.out]; omega
  have hMb1 : 2 * Mb ≤ cn + bn + 1 := by rw [HMb.out]; omega
  have hMb2 : cn + bn ≤ 2 * Mb := by rw [HMb.out]; omega
  refine (zzJoin_any co ao cl cl al al cs xs cn an wj hsc hsa hyc hyx hcn han (by omega)).mono ?_
  rw [← HMa.out]
  rintro e wk ⟨g1, rfl, ho1, hbk⟩
  have hsj := own_Sl ho1
  replace hsc := hsc.up2 hbk
  replace hsa := hsa.up2 hbk
  replace hsb := hsb.up2 hbk
  replace xC := xC.up hbk
  replace xA := xA.up hbk
  replace xB := xB.up hbk
  have hwk : Below w.heap.size w wk := hwj.trans (hbk.mono hwj.size)
  clear ho1 hbk hwj
  have xC0 := xC.2.1
  have xC1 := xC.2.2
  have xCl := xC.1
  have xB0 := xB.2.1
  have xB1 := xB.2.2
  have xBl := xB.1
  go_wp2_with fail
  clear xC0 xC1 xCl xB0 xB1 xBl
  obtain ⟨wl, hwl⟩ : ∃ wl, wl = wk.alloc (.cells #[.slice (some ⟨g1, 0, none⟩) Ma Ma, .int .i64 ((cn : Int) + an)] 26) := ⟨_, rfl⟩
  rw [← hwl]
  have xJ : Box wl wk.heap.size (some ⟨g1, 0, none⟩) Ma Ma ((cn : Int) + an) := by rw [hwl]; exact Box.new _ _ _ _ _
  have hbl : Below wk.heap.size wk wl := by rw [hwl]; exact (Below.refl _ _).alloc (Nat.le_refl _) _
  replace hsc := hsc.up2 hbl
  replace hsb := hsb.up2 hbl
  replace hsj := hsj.up2 hbl
  have hwl' : Below w.heap.size w wl := hwk.trans (hbl.mono hwk.size)
  clear hwl hbl hwk hsa xC xA xB
  generalize wk.heap.size = nJ at *
  refine (zzJoin_any co bo cl cl bl bl cs ys cn bn wl hsc hsb hyc hyy hcn hbn (by omega)).mono ?_
  rw [← HMb.out]
  rintro e wm ⟨g2, rfl, ho2, hbm⟩
  have hsj2 := own_Sl ho2
  replace hsj := hsj.up2 hbm
  replace xJ := xJ.up hbm
  have hwm : Below w.heap.size w wm := hwl'.trans (hbm.mono hwl'.size)
  clear ho2 hbm hwl' hsc hsb
  have xJ0 := xJ.2.1
  have xJ1 := xJ.2.2
  have xJl := xJ.1
  go_wp2_with fail
  clear xJ0 xJ1 xJl
  obtain ⟨wn, hwn⟩ : ∃ wn, wn = wm.alloc (.cells #[.slice (some ⟨g2, 0, none⟩) Mb Mb, .int .i64 ((cn : Int) + bn)] 26) := ⟨_, rfl⟩
  rw [← hwn]
  have hbn' : Below wm.heap.size wm wn := by rw [hwn]; exact (Below.refl _ _).alloc (Nat.le_refl _) _
  replace hsj := hsj.up2 hbn'
  replace hsj2 := hsj2.up2 hbn'
  have hwn' : Below w.heap.size w wn := hwm.trans (hbn'.mono hwm.size)
  clear hwn hbn' hwm xJ
  refine (zzCompare_any wn.heap.size (some ⟨g1, 0, none⟩) (some ⟨g2, 0, none⟩) Ma Ma Mb Mb _ _ ((cn : Int) + an) ((cn : Int) + bn) wn hsj hsj2 (Nat.le_refl _) (jl_bytes _ (twoT_bd hyc hyx cn) _ _) (jl_bytes _ (twoT_bd hyc hyy cn) _ _) (by omega) (by omega) (by omega) (by omega) (by omega) (by omega)).mono ?_
  rintro e wo ⟨u, rfl, hcu, hbo⟩
  rw [ahead_same cs xs ys cn an bn Ma Mb t u hyc hyx hyy hMa2 hMb2 HCP.out hcu]
  have hwo : Below w.heap.size w wo := hwn'.trans (hbo.mono hwn'.size)
  clear hcu hbo hwn' hsj hsj2
  go_wp2_with fail
  refine (sgn_any _ wo).mono ?_
  rintro e w' ⟨rfl, hw'⟩
  rw [hw']
  clear hw' w'
  have hee : (sgI (cmpV xs ys an bn t) == sgI (cmpV xs ys an bn t)) = true := by simp
  go_wp2
  go_ret
  exact ⟨rfl, hwo⟩

set_option maxHeartbeats 4000000 in
set_option maxRecDepth 100000 in
theorem wk5 (a0 : Option Addr) (len0 cap0 : Nat) (z0 : List Int) (a1 : Int) (a2 : Option Addr) (len2 cap2 : Nat) (z2 : List Int) (a3 : Int) (a4 : Option Addr) (len4 cap4 : Nat) (z4 : List Int) (a5 : Int) (w : World)
    (w0 : RowIs .u8 w a0 len0 cap0 z0) (w2 : RowIs .u8 w a2 len2 cap2 z2) (w4 : RowIs .u8 w a4 len4 cap4 z4) :
    Calls Try.prog 5 #[.slice a0 len0 cap0, .int .i64 a1, .slice a2 len2 cap2, .int .i64 a3, .slice a4 len4 cap4, .int .i64 a5] w fun e w' => e = .returned (.bool true) ∧ Below w.heap.size w w' := by
  have hl0 := row_len w0
  have hl2 := row_len w2
  have hl4 := row_len w4
  by_cases hz : len0 + len2 + len4 ≤ 1048576
  · by_cases hp : 0 ≤ a1 ∧ a1 ≤ 2 * (len0 : Int) ∧ 0 ≤ a3 ∧ a3 ≤ 2 * (len2 : Int) ∧ 0 ≤ a5 ∧ a5 ≤ 2 * (len4 : Int)
    · obtain ⟨h1, h2, h3, h4, h5, h6⟩ := hp
      obtain ⟨cn, rfl⟩ := Int.eq_ofNat_of_zero_le h1
      obtain ⟨an, rfl⟩ := Int.eq_ofNat_of_zero_le h3
      obtain ⟨bn, rfl⟩ := Int.eq_ofNat_of_zero_le h5
      exact wk5_main a0 len0 cap0 _ cn a2 len2 cap2 _ an a4 len4 cap4 _ bn w (row_In w0) (row_In w2) (row_In w4) (row_Bytes w0) (row_Bytes w2) (row_Bytes w4) hz (by omega) (by omega) (by omega)
    · have hor : a1 < 0 ∨ 2 * (len0 : Int) < a1 ∨ a3 < 0 ∨ 2 * (len2 : Int) < a3 ∨ a5 < 0 ∨ 2 * (len4 : Int) < a5 := by omega
      clear hp w0 w2 w4
      rcases hor with h | h | h | h | h | h
      all_goals
        go_enter Try.func5, Try.ntmps5
        go_wp2_with (go_at_call 22; refine (zz22_ok _ _ _ _ _ _ _ _ _ _ _ _ _ hz).mono ?_; rintro e w' ⟨rfl, rfl⟩)
      all_goals (go_ret; exact ⟨rfl, Below.refl _ _⟩)
  · clear w0 w2 w4
    go_enter Try.func5, Try.ntmps5
    go_wp2_with (go_at_call 22; refine (zz22_no _ _ _ _ _ _ _ _ _ _ _ _ _ hl0 hl2 hl4 hz).mono ?_; rintro e w' ⟨rfl, rfl⟩)
    go_ret
    exact ⟨rfl, Below.refl _ _⟩
end Go.Proofs.Qxb6003418a
