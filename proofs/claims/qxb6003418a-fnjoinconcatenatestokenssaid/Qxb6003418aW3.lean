/-
  The walk of the law FnJoinConcatenatesTokens.
-/
import Derived.Test.Qxb6003418aZjoin
import Derived.Test.Qxb6003418aPaths
namespace Go.Proofs.Qxb6003418a
open Go.RowKit
set_option linter.unusedVariables false

theorem pad_zero (T : Nat → Int) (M n : Nat) (hM : M = (n + 1) / 2) (hn : n % 2 = 1) : (jl T M n).getD (M - 1) 0 % 16 = 0 := by
  rw [jl_getD T M n (M - 1) (by omega)]
  unfold jb
  rw [if_pos (by omega), if_neg (by omega)]
  omega

set_option maxHeartbeats 4000000 in
set_option maxRecDepth 100000 in
theorem w3_main (a0 : Option Addr) (pl cap0 : Nat) (ps : List Int) (pn : Nat) (a2 : Option Addr) (ql cap2 : Nat) (qs : List Int) (qn : Nat) (w : World)
    (i0 : In .u8 w a0 pl ps) (i2 : In .u8 w a2 ql qs) (hyp : Bytes ps) (hyq : Bytes qs) (hz : pl + ql ≤ 1048576) (hpn : pn ≤ 2 * pl) (hqn : qn ≤ 2 * ql) :
    Calls Try.prog 3 #[.slice a0 pl cap0, .int .i64 pn, .slice a2 ql cap2, .int .i64 qn] w fun e w' => e = .returned (.bool true) ∧ Below w.heap.size w w' := by
  have t1 : decide ((pn : Int) < 0) = false := by simp
  have t3 : decide ((qn : Int) < 0) = false := by simp
  have t5 : decide (1048576 < (pl : Int) + (ql : Int)) = false := by simp; omega
  have t2 : decide (2 * (pl : Int) < (pn : Int)) = false := by simp; omega
  have t4 : decide (2 * (ql : Int) < (qn : Int)) = false := by simp; omega
  go_enter Try.func3, Try.ntmps3
  go_wp2_with (go_at_call 10; refine (zz10_ok _ _ _ _ _ _ _ _ _ hz).mono ?_; rintro e w' ⟨rfl, rfl⟩)
  refine (cloneBytes_any a0 pl cap0 ps w i0 (by omega)).mono ?_
  rintro e wa ⟨po, rfl, hsp, hba, -⟩
  go_wp2_with fail
  refine (cloneBytes_any a2 ql cap2 qs wa (i2.below hba) (by omega)).mono ?_
  rintro e wb ⟨qo, rfl, hsq, hbb, -⟩
  replace hsp := hsp.up2 hbb
  have hwb : Below w.heap.size w wb := hba.trans (hbb.mono hba.size)
  clear hba hbb i0 i2
  go_wp2_with fail
  refine (cloneBytes_any po pl pl ps wb (hsp.toIn (Nat.le_refl _)) (by omega)).mono ?_
  rintro e wc ⟨pk, rfl, hspk, hbc, -⟩
  replace hsp := hsp.up2 hbc
  replace hsq := hsq.up2 hbc
  have hwc : Below w.heap.size w wc := hwb.trans (hbc.mono hwb.size)
  clear hwb hbc
  go_wp2_with fail
  refine (cloneBytes_any qo ql ql qs wc (hsq.toIn (Nat.le_refl _)) (by omega)).mono ?_
  rintro e wd ⟨qk, rfl, hsqk, hbd, -⟩
  replace hsp := hsp.up2 hbd
  replace hsq := hsq.up2 hbd
  replace hspk := hspk.up2 hbd
  have hwd : Below w.heap.size w wd := hwc.trans (hbd.mono hwc.size)
  clear hwc hbd
  go_wp2_with fail
  refine (path_any po pl pl pn wd).mono ?_
  rintro e we ⟨rfl, hwe⟩
  have hbe : Below wd.heap.size wd we := by rw [hwe]; exact (Below.refl _ _).alloc (Nat.le_refl _) _
  clear hwe
  go_wp2_with fail
  refine (path_any qo ql ql qn we).mono ?_
  rintro e wf ⟨rfl, hwf⟩
  have hbf : Below wd.heap.size wd wf := by rw [hwf]; exact hbe.alloc hbe.size _
  replace hsp := hsp.up2 hbf
  replace hsq := hsq.up2 hbf
  replace hspk := hspk.up2 hbf
  replace hsqk := hsqk.up2 hbf
  have hwf' : Below w.heap.size w wf := hwd.trans (hbf.mono hwd.size)
  clear hwf hbf hbe hwd
  go_wp2_with fail
  obtain ⟨M, HM⟩ : ∃ M, Hid (M = (pn + qn + 1) / 2) := ⟨_, rfl⟩
  refine (zzJoin_any po qo pl pl ql ql ps qs pn qn wf hsp hsq hyp hyq hpn hqn hz).mono ?_
  rw [← HM.out]
  rintro e wg ⟨g, rfl, ho, hbg⟩
  have hM1 : M ≤ 1048577 := by rw [HM.out]; omega
  have hM2 : 2 * M ≤ pn + qn + 1 := by rw [HM.out]; omega
  have hM3 : pn + qn ≤ 2 * M := by rw [HM.out]; omega
  replace hsp := hsp.below hbg
  replace hsq := hsq.below hbg
  replace hspk := hspk.below hbg
  replace hsqk := hsqk.below hbg
  have hwg : Below w.heap.size w wg := hwf'.trans (hbg.mono hwf'.size)
  have hsz := hbg.size
  have hszw := hwf'.size
  generalize wf.heap.size = B at *
  clear hwf' hbg
  go_wp2_with fail
  refine (pathBytes_any (some ⟨g, 0, none⟩) M M _ _).mono ?_
  rintro e wh ⟨rfl, rfl⟩
  go_wp2_with fail
  refine (pathLen_any (some ⟨g, 0, none⟩) M M _ _).mono ?_
  rintro e wi ⟨rfl, hwi⟩
  have hbi : Below wg.heap.size wg wi := by rw [hwi]; exact (((Below.refl _ _).alloc (Nat.le_refl _) _).alloc (by simp) _).alloc (by simp; omega) _
  clear hwi
  have ho' := own_below ho hbi
  replace hsp := hsp.below (hbi.mono hsz)
  replace hsq := hsq.below (hbi.mono hsz)
  replace hspk := hspk.below (hbi.mono hsz)
  replace hsqk := hsqk.below (hbi.mono hsz)
  have hwi' : Below w.heap.size w wi := hwg.trans (hbi.mono hwg.size)
  have hsz' : B ≤ wi.heap.size := Nat.le_trans hsz hbi.size
  have hsj := own_Sl ho'
  have hjy := jl_bytes (twoT ps qs pn) (twoT_bd hyp hyq pn) M (pn + qn)
  have HO : Hid (wi.ownsRow B 5 1 (.slice (some ⟨g, 0, none⟩) M M) M ((jl (twoT ps qs pn) M (pn + qn)).map (Value.int .u8))) := ho'
  clear hwg hbi hsz ho ho'
  have h1 : (((pn : Int) + (qn : Int)) != (pn : Int) + (qn : Int)) = false := by simp
  have h2 : ((M : Int) != ((pn : Int) + (qn : Int) + 1) / 2) = false := by have := HM.out; simp; omega
  go_wp2_with fail
  go_loop [14] (fun i => ∃ k : Nat, k ≤ pn ∧ i = .int .i64 k) (fun i => pn - (intOf i).toNat)
  case atStart => exact ⟨0, Nat.zero_le _, rfl⟩
  case round =>
    obtain ⟨k, hk, rfl⟩ := hrel
    by_cases hlt : k < pn
    · have cA := tok_any wi.heap.size (some ⟨g, 0, none⟩) M M (jl (twoT ps qs pn) M (pn + qn)) (k : Int) wi hsj hjy (by omega) (by omega) (by omega)
      have cB := tok_any B po pl pl ps (k : Int) wi hsp hyp (by omega) (by omega) (by omega)
      rw [Int.toNat_natCast] at cA cB
      rw [jl_tok _ (twoT_bd hyp hyq pn) M (pn + qn) k (by omega) hM3, show twoT ps qs pn k = tokI ps k by unfold twoT; rw [if_pos hlt]] at cA
      have HA : Hid (Calls Try.prog 16 #[.slice (some ⟨g, 0, none⟩) M M, .int .i64 k] wi fun e w' => e = .returned (.int .u8 (tokI ps k)) ∧ w' = wi) := cA
      have HB : Hid (Calls Try.prog 16 #[.slice po pl pl, .int .i64 k] wi fun e w' => e = .returned (.int .u8 (tokI ps k)) ∧ w' = wi) := cB
      clear cA cB
      have hxx : (tokI ps k != tokI ps k) = false := by simp
      go_wp2_with fail
      refine HA.out.mono ?_
      rintro e w' ⟨rfl, hw'⟩
      rw [hw']
      clear hw' w'
      go_wp2_with fail
      refine HB.out.mono ?_
      rintro e w' ⟨rfl, hw'⟩
      rw [hw']
      clear hw' w'
      go_wp2
      go_round
      case rel => exact ⟨k + 1, by omega, by go_num⟩
      case measure => simp [intOf]; omega
    · go_wp2_with fail
      go_loop [15] (fun i => ∃ k : Nat, k ≤ qn ∧ i = .int .i64 k) (fun i => qn - (intOf i).toNat)
      case atStart => exact ⟨0, Nat.zero_le _, rfl⟩
      case round =>
        obtain ⟨k2, hk2, rfl⟩ := hrel
        by_cases hlt2 : k2 < qn
        · have cA := tok_any wi.heap.size (some ⟨g, 0, none⟩) M M (jl (twoT ps qs pn) M (pn + qn)) ((pn : Int) + (k2 : Int)) wi hsj hjy (by omega) (by omega) (by omega)
          have cB := tok_any B qo ql ql qs (k2 : Int) wi hsq hyq (by omega) (by omega) (by omega)
          rw [Int.toNat_natCast] at cB
          rw [show ((pn : Int) + (k2 : Int)).toNat = pn + k2 by omega, jl_tok _ (twoT_bd hyp hyq pn) M (pn + qn) (pn + k2) (by omega) hM3, show twoT ps qs pn (pn + k2) = tokI qs k2 by unfold twoT; rw [if_neg (by omega), Nat.add_sub_cancel_left]] at cA
          have HA : Hid (Calls Try.prog 16 #[.slice (some ⟨g, 0, none⟩) M M, .int .i64 ((pn : Int) + (k2 : Int))] wi fun e w' => e = .returned (.int .u8 (tokI qs k2)) ∧ w' = wi) := cA
          have HB : Hid (Calls Try.prog 16 #[.slice qo ql ql, .int .i64 k2] wi fun e w' => e = .returned (.int .u8 (tokI qs k2)) ∧ w' = wi) := cB
          clear cA cB
          have hxx : (tokI qs k2 != tokI qs k2) = false := by simp
          go_wp2_with fail
          refine HA.out.mono ?_
          rintro e w' ⟨rfl, hw'⟩
          rw [hw']
          clear hw' w'
          go_wp2_with fail
          refine HB.out.mono ?_
          rintro e w' ⟨rfl, hw'⟩
          rw [hw']
          clear hw' w'
          go_wp2
          go_round
          case rel => exact ⟨k2 + 1, by omega, by go_num⟩
          case measure => simp [intOf]; omega
        · have hodd : ∃ y, (0 ≤ y ∧ y ≤ 255) ∧ Hid ((pn + qn) % 2 = 1 → y % 16 = 0 ∧ wi.cell? ⟨g, M - 1, none⟩ = some (.int .u8 y)) := by
            refine ⟨(jl (twoT ps qs pn) M (pn + qn)).getD (M - 1) 0, hjy _, fun h => ⟨pad_zero _ M (pn + qn) HM.out h, ?_⟩⟩
            have hMp : 1 ≤ M := by omega
            rw [HO.out.cellAt (M - 1) (by omega)]
            exact map_at _ _ _ (by rw [jl_len]; omega)
          obtain ⟨y, hyy, HYY⟩ := hodd
          by_cases hod : (pn + qn) % 2 = 1
          · have hob : (((pn : Int) + (qn : Int)) % 2 == 1) = true := by simp; omega
            obtain ⟨hy16, hyc⟩ := HYY.out hod
            have hyb : (y % 16 != 0) = false := by simp [hy16]
            have hM1i : (1 : Int) ≤ (M : Int) := by omega
            clear hod hy16
            go_wp2_with fail
            go_loopw [16] (fun i wr => ∃ (k : Nat) (xs : List Value), k ≤ M ∧ i = .int .i64 k ∧ Hid (wr.ownsRow B 5 1 (.slice (some ⟨g, 0, none⟩) M M) M xs) ∧ Below B wi wr) (fun i _ => M - (intOf i).toNat)
            case atStart => exact ⟨0, _, Nat.zero_le _, rfl, HO, Below.refl _ _⟩
            case round =>
              obtain ⟨k3, xs, hk3, rfl, HOX, hbel⟩ := hrel
              by_cases hlt3 : k3 < M
              · have hfz := HOX.out.frozenAt k3
                obtain ⟨v0, hv0⟩ : ∃ v0, wr.cell? ⟨g, k3, none⟩ = some v0 := by
                  rw [HOX.out.cellAt k3 (by omega)]
                  have : k3 < xs.length := by rw [HOX.out.1]; omega
                  exact ⟨_, List.getElem?_eq_getElem this⟩
                have HG : Hid (B ≤ g) := (HOX.out.lt g rfl).1
                have hki : (k3 : Int) < (M : Int) := by omega
                go_wp2
                go_roundw
                case rel => exact ⟨k3 + 1, _, by omega, by go_num, (HOX.out.stored k3 _).1, hbel.setCell (p := ⟨g, k3, none⟩) HG.out _⟩
                case measure => simp [intOf]; omega
              · replace hsp := hsp.below hbel
                replace hsq := hsq.below hbel
                replace hspk := hspk.below hbel
                replace hsqk := hsqk.below hbel
                have hBr : B ≤ wr.heap.size := Nat.le_trans hsz' hbel.size
                have hwr : Below w.heap.size w wr := hwi'.trans (hbel.mono hszw)
                go_wp2_with fail
                refine (eqBytes_same B B po pk pl pl pl ps wr hsp hspk hBr hBr (by omega)).mono ?_
                rintro e wj ⟨rfl, hbj⟩
                replace hsq := hsq.below (hbj.mono hBr)
                replace hsqk := hsqk.below (hbj.mono hBr)
                have hBj : B ≤ wj.heap.size := Nat.le_trans hBr hbj.size
                have hwj : Below w.heap.size w wj := hwr.trans (hbj.mono hwr.size)
                go_wp2_with fail
                refine (eqBytes_same B B qo qk ql ql ql qs wj hsq hsqk hBj hBj (by omega)).mono ?_
                rintro e wk ⟨rfl, hbk⟩
                go_wp2
                go_ret
                exact ⟨rfl, hwj.trans (hbk.mono hwj.size)⟩
          · have hob : (((pn : Int) + (qn : Int)) % 2 == 1) = false := by simp; omega
            clear hod
            go_wp2_with fail
            go_loopw [16] (fun i wr => ∃ (k : Nat) (xs : List Value), k ≤ M ∧ i = .int .i64 k ∧ Hid (wr.ownsRow B 5 1 (.slice (some ⟨g, 0, none⟩) M M) M xs) ∧ Below B wi wr) (fun i _ => M - (intOf i).toNat)
            case atStart => exact ⟨0, _, Nat.zero_le _, rfl, HO, Below.refl _ _⟩
            case round =>
              obtain ⟨k3, xs, hk3, rfl, HOX, hbel⟩ := hrel
              by_cases hlt3 : k3 < M
              · have hfz := HOX.out.frozenAt k3
                obtain ⟨v0, hv0⟩ : ∃ v0, wr.cell? ⟨g, k3, none⟩ = some v0 := by
                  rw [HOX.out.cellAt k3 (by omega)]
                  have : k3 < xs.length := by rw [HOX.out.1]; omega
                  exact ⟨_, List.getElem?_eq_getElem this⟩
                have HG : Hid (B ≤ g) := (HOX.out.lt g rfl).1
                have hki : (k3 : Int) < (M : Int) := by omega
                go_wp2
                go_roundw
                case rel => exact ⟨k3 + 1, _, by omega, by go_num, (HOX.out.stored k3 _).1, hbel.setCell (p := ⟨g, k3, none⟩) HG.out _⟩
                case measure => simp [intOf]; omega
              · replace hsp := hsp.below hbel
                replace hsq := hsq.below hbel
                replace hspk := hspk.below hbel
                replace hsqk := hsqk.below hbel
                have hBr : B ≤ wr.heap.size := Nat.le_trans hsz' hbel.size
                have hwr : Below w.heap.size w wr := hwi'.trans (hbel.mono hszw)
                go_wp2_with fail
                refine (eqBytes_same B B po pk pl pl pl ps wr hsp hspk hBr hBr (by omega)).mono ?_
                rintro e wj ⟨rfl, hbj⟩
                replace hsq := hsq.below (hbj.mono hBr)
                replace hsqk := hsqk.below (hbj.mono hBr)
                have hBj : B ≤ wj.heap.size := Nat.le_trans hBr hbj.size
                have hwj : Below w.heap.size w wj := hwr.trans (hbj.mono hwr.size)
                go_wp2_with fail
                refine (eqBytes_same B B qo qk ql ql ql qs wj hsq hsqk hBj hBj (by omega)).mono ?_
                rintro e wk ⟨rfl, hbk⟩
                go_wp2
                go_ret
                exact ⟨rfl, hwj.trans (hbk.mono hwj.size)⟩
end Go.Proofs.Qxb6003418a
