/-
  The walk of the law FnComparePathsIsTokenOrder.
-/
import Derived.Test.Qxb6003418aOrder
import Derived.Test.Qxb6003418aRowIn
namespace Go.Proofs.Qxb6003418a
open Go.RowKit
set_option linter.unusedVariables false

set_option maxHeartbeats 400000 in
theorem zz18_ok (a0 a2 : Option Addr) (n c m d : Nat) (i j : Int) (w : World) (h : n + m ≤ 1048576) :
    Calls Try.prog 18 #[.slice a0 n c, .int .i64 i, .slice a2 m d, .int .i64 j] w fun e w' => e = .returned (.bool true) ∧ w = w' := by
  go_enter Try.func18, Try.ntmps18
  go_wp2
  go_ret
  exact ⟨rfl, rfl⟩

set_option maxHeartbeats 400000 in
theorem zz18_no (a0 a2 : Option Addr) (n c m d : Nat) (i j : Int) (w : World) (hn : n ≤ 9223372036854775807) (hm : m ≤ 9223372036854775807) (h : ¬ n + m ≤ 1048576) :
    Calls Try.prog 18 #[.slice a0 n c, .int .i64 i, .slice a2 m d, .int .i64 j] w fun e w' => e = .returned (.bool false) ∧ w = w' := by
  go_enter Try.func18, Try.ntmps18
  go_wp2
  all_goals (go_ret; exact ⟨rfl, rfl⟩)

set_option maxHeartbeats 1000000 in
theorem w4 (a0 : Option Addr) (len0 cap0 : Nat) (z0 : List Int) (a1 : Int) (a2 : Option Addr) (len2 cap2 : Nat) (z2 : List Int) (a3 : Int) (w : World) (w0 : RowIs .u8 w a0 len0 cap0 z0) (w2 : RowIs .u8 w a2 len2 cap2 z2) :
    Calls Try.prog 4 #[.slice a0 len0 cap0, .int .i64 a1, .slice a2 len2 cap2, .int .i64 a3] w fun e w' => e = .returned (.bool true) ∧ Below w.heap.size w w' := by
  have hl0 := row_len w0
  have hl2 := row_len w2
  by_cases hz : len0 + len2 ≤ 1048576
  · by_cases hp : 0 ≤ a1 ∧ a1 ≤ 2 * (len0 : Int) ∧ 0 ≤ a3 ∧ a3 ≤ 2 * (len2 : Int)
    · obtain ⟨h1, h2, h3, h4⟩ := hp
      have i0 := row_In w0
      have i2 := row_In w2
      have y0 := row_Bytes w0
      have y2 := row_Bytes w2
      clear w0 w2
      generalize z0.take len0 = xs at *
      generalize z2.take len2 = ys at *
      go_enter Try.func4, Try.ntmps4
      go_wp2_with (go_at_call 18; refine (zz18_ok _ _ _ _ _ _ _ _ _ hz).mono ?_; rintro e w' ⟨rfl, rfl⟩)
      refine (cloneBytes_any a0 len0 cap0 xs w i0 (by omega)).mono ?_
      rintro e wa ⟨ao, rfl, hsa, hba, hfa⟩
      go_wp2_with fail
      refine (cloneBytes_any a2 len2 cap2 ys wa (i2.below hba) (by omega)).mono ?_
      rintro e wb ⟨bo, rfl, hsb, hbb, hfb⟩
      have hsa' := (hsa.below hbb).mono hbb.size
      have hbw : Below w.heap.size w wb := hba.trans (hbb.mono hba.size)
      clear hsa hba hbb hfa hfb i0 i2
      go_wp2_with fail
      refine (path_any ao len0 len0 a1 wb).mono ?_
      rintro e wc ⟨rfl, hwc⟩
      have hbc : Below wb.heap.size wb wc := by rw [hwc]; exact (Below.refl _ _).alloc (Nat.le_refl _) _
      clear hwc
      go_wp2_with fail
      refine (path_any bo len2 len2 a3 wc).mono ?_
      rintro e wd ⟨rfl, hwd⟩
      have hbd : Below wb.heap.size wb wd := by rw [hwd]; exact hbc.alloc hbc.size _
      clear hwd hbc
      go_wp2_with fail
      refine (zzCompare_any wb.heap.size ao bo len0 len0 len2 len2 xs ys a1 a3 wd (hsa'.below hbd) (hsb.below hbd) hbd.size y0 y2 h1 h2 h3 h4 (by omega) (by omega)).mono ?_
      rintro e we ⟨t, rfl, hcp, hbe⟩
      have hbe' : Below wb.heap.size wb we := hbd.trans (hbe.mono hbd.size)
      clear hbd hbe
      go_wp2_with fail
      refine (sgn_any _ we).mono ?_
      rintro e wf ⟨rfl, hwf⟩
      rw [sg_cmp, hwf]
      clear hwf wf
      have HCP : Hid (CP (tokI xs) (tokI ys) (min a1.toNat a3.toNat) t) := hcp
      clear hcp
      go_wp2_with fail
      refine (tokenOrder_any wb.heap.size wb.heap.size ao bo len0 len0 len2 len2 xs ys a1 a3 we (hsa'.below hbe') (hsb.below hbe') y0 y2 h1 h2 h3 h4 (by omega) (by omega)).mono ?_
      rintro e wg ⟨t', rfl, hcp', hwg⟩
      obtain rfl : t = t' := HCP.out.uniq hcp'
      rw [hwg]
      clear hwg wg hcp'
      have hee : (ordV xs ys a1 a3 t == ordV xs ys a1 a3 t) = true := by simp
      go_wp2
      go_ret
      exact ⟨rfl, hbw.trans (hbe'.mono hbw.size)⟩
    · have hor : a1 < 0 ∨ 2 * (len0 : Int) < a1 ∨ a3 < 0 ∨ 2 * (len2 : Int) < a3 := by omega
      clear hp
      rcases hor with h | h | h | h
      all_goals
        go_enter Try.func4, Try.ntmps4
        go_wp2_with (go_at_call 18; refine (zz18_ok _ _ _ _ _ _ _ _ _ hz).mono ?_; rintro e w' ⟨rfl, rfl⟩)
      all_goals (go_ret; exact ⟨rfl, Below.refl _ _⟩)
  · go_enter Try.func4, Try.ntmps4
    go_wp2_with (go_at_call 18; refine (zz18_no _ _ _ _ _ _ _ _ _ hl0 hl2 hz).mono ?_; rintro e w' ⟨rfl, rfl⟩)
    go_ret
    exact ⟨rfl, Below.refl _ _⟩
end Go.Proofs.Qxb6003418a
