/-
  The walk of join.
-/
import Derived.Test.Qxb6003418aJoin
namespace Go.Proofs.Qxb6003418a
open Go.RowKit
set_option linter.unusedVariables false

/-- make([]byte, M), in whatever world. -/
theorem run_mk5 (M : Nat) (x : Int) (hx : x = (M : Int)) (hM : M ≤ 1073741824) (W : World) :
    (Instr.makeSlice 22 (.int .i64 x) (.int .i64 x)).run Try.prog W = .ok (.slice (some ⟨W.heap.size, 0, none⟩) M M) (W.alloc (.cells (madeCells #[.int .u8 0] M) 5)) := by
  obtain ⟨i0, hi, hz0, hz1, hz2⟩ := info_parts info5
  subst hx
  have h := run_make (P := Try.prog) W 22 5 i0 (.int .u8 0) Try.underlying22 hi hz0 .i64 .i64 M M (by omega) (Int.le_refl _) (by rw [hz2]; omega) (by omega)
  rw [h, hz1]
  simp [Value.cells]

theorem made_jl (T : Nat → Int) (M : Nat) : (madeCells #[.int .u8 0] M).toList = (jl T M 0).map (Value.int .u8) := by
  rw [toList_madeCells_one, jl_zero, List.map_replicate]

theorem join_a (w3 : World) (B M : Nat) (T : Nat → Int) (n : Int) (hB : B = w3.heap.size) (hM : M ≤ 1048577) : ∃ W, W = ((w3.alloc (.cells (madeCells #[.int .u8 0] M) 5)).alloc (.cells #[.slice (some ⟨w3.heap.size, 0, none⟩) M M, .int .i64 n] 26)).drew ∧
    w3.heap.size + 1 < W.heap.size ∧ W.ownsRow B 5 1 (.slice (some ⟨w3.heap.size, 0, none⟩) M M) M ((jl T M 0).map (Value.int .u8)) ∧ W.cell? ⟨w3.heap.size + 1, 0, none⟩ = some (.slice (some ⟨w3.heap.size, 0, none⟩) M M) ∧ W.cell? ⟨w3.heap.size + 1, 1, none⟩ = some (.int .i64 n) ∧ Below B w3 W := by
  subst hB
  refine ⟨_, rfl, by simp, ?_, by simp [go_sem], by simp [go_sem], (((Below.refl _ _).alloc (Nat.le_refl _) _).alloc (by simp) _).drew⟩
  rw [← made_jl T M]
  exact ((World.ownsRow_lit w3 _ M (Nat.le_refl _) (by unfold maxLen; omega) (by rw [size_madeCells]; omega)).alloc _).drew

theorem join_b (w3 : World) (B M : Nat) (T : Nat → Int) (n : Int) (hB : B = w3.heap.size) (hM : M ≤ 1048577) : ∃ W, W = ((w3.alloc (.cells #[.slice (some ⟨w3.heap.size + 1, 0, none⟩) M M, .int .i64 n] 26)).alloc (.cells (madeCells #[.int .u8 0] M) 5)).drew ∧
    w3.heap.size < W.heap.size ∧ W.ownsRow B 5 1 (.slice (some ⟨w3.heap.size + 1, 0, none⟩) M M) M ((jl T M 0).map (Value.int .u8)) ∧ W.cell? ⟨w3.heap.size, 0, none⟩ = some (.slice (some ⟨w3.heap.size + 1, 0, none⟩) M M) ∧ W.cell? ⟨w3.heap.size, 1, none⟩ = some (.int .i64 n) ∧ Below B w3 W := by
  subst hB
  refine ⟨_, rfl, by simp; omega, ?_, by simp [go_sem], by simp [go_sem], (((Below.refl _ _).alloc (Nat.le_refl _) _).alloc (by simp) _).drew⟩
  rw [← made_jl T M]
  have h := World.ownsRow_lit (base := w3.heap.size) (e := 5) (size := 1) (w3.alloc (.cells #[.slice (some ⟨w3.heap.size + 1, 0, none⟩) M M, .int .i64 n] 26)) (madeCells #[.int .u8 0] M) M (by simp) (by unfold maxLen; omega) (by rw [size_madeCells]; omega)
  rw [World.size_alloc] at h
  exact h.drew

/-- What a round of the two loops leaves. -/
theorem jround {w3 wr : World} {B g j : Nat} (i : Nat) (u : Value) (A C : Obj) (hg : B ≤ g) (hgj : g ≠ j) (hj : j < wr.heap.size) (hB : B ≤ wr.heap.size) (hbr : Below B w3 wr) :
    (∀ o, (((wr.setCell ⟨g, i, none⟩ u).alloc A).alloc C).drew.cell? ⟨j, o, none⟩ = wr.cell? ⟨j, o, none⟩) ∧ j < (((wr.setCell ⟨g, i, none⟩ u).alloc A).alloc C).drew.heap.size ∧ Below B w3 (((wr.setCell ⟨g, i, none⟩ u).alloc A).alloc C).drew := by
  have hs : (wr.setCell ⟨g, i, none⟩ u).heap.size = wr.heap.size := by simp
  refine ⟨fun o => ?_, ?_, ?_⟩
  · show ((((wr.setCell ⟨g, i, none⟩ u).alloc A).alloc C)).cell? ⟨j, o, none⟩ = _
    rw [World.cell?_alloc_past _ _ _ (by simp; omega), World.cell?_alloc_past _ _ _ (by simp; omega), World.cell?_setCell_other _ _ _ _ (by intro h; injection h with h1; exact hgj h1)]
  · show j < ((((wr.setCell ⟨g, i, none⟩ u).alloc A).alloc C)).heap.size
    simp; omega
  · exact (((hbr.setCell (p := ⟨g, i, none⟩) hg u).alloc (by simp; omega) A).alloc (by simp; omega) C).drew

set_option maxHeartbeats 3000000 in
theorem join_any (po qo : Option Addr) (pl pc ql qc : Nat) (ps qs : List Int) (pn qn : Nat) (w : World) (hp : Sl w.heap.size .u8 w po pl pc ps) (hq : Sl w.heap.size .u8 w qo ql qc qs)
    (hyp : Bytes ps) (hyq : Bytes qs) (hpn : pn ≤ 2 * pl) (hqn : qn ≤ 2 * ql) (hl : pl + ql ≤ 1048576) :
    Calls Try.prog 38 #[.agg #[.slice po pl pc, .int .i64 pn], .agg #[.slice qo ql qc, .int .i64 qn]] w fun e w' =>
      ∃ g, e = .returned (.agg #[.slice (some ⟨g, 0, none⟩) ((pn + qn + 1) / 2) ((pn + qn + 1) / 2), .int .i64 ((pn : Int) + qn)]) ∧
        w'.ownsRow w.heap.size 5 1 (.slice (some ⟨g, 0, none⟩) ((pn + qn + 1) / 2) ((pn + qn + 1) / 2)) ((pn + qn + 1) / 2) ((jl (twoT ps qs pn) ((pn + qn + 1) / 2) (pn + qn)).map (Value.int .u8)) ∧ Below w.heap.size w w' := by
  obtain ⟨M, HM⟩ : ∃ M, Hid (M = (pn + qn + 1) / 2) := ⟨_, rfl⟩
  rw [← HM.out]
  have hM1 : M ≤ 1048577 := by rw [HM.out]; omega
  have hM2 : 2 * M ≤ pn + qn + 1 := by rw [HM.out]; omega
  have hM3 : pn + qn ≤ 2 * M := by rw [HM.out]; omega
  have hmk := run_mk5 M (((pn : Int) + (qn : Int) + 1) / 2) (by rw [HM.out]; omega) (by omega)
  obtain ⟨w3, hw3⟩ : ∃ w3, w3 = ((w.alloc (.cells #[.slice po pl pc, .int .i64 pn] 26)).alloc (.cells #[.slice qo ql qc, .int .i64 qn] 26)).alloc (.cells #[.slice none 0 0, .int .i64 0] 26) := ⟨_, rfl⟩
  have hb3 : Below w.heap.size w w3 := by rw [hw3]; exact (((Below.refl _ _).alloc (Nat.le_refl _) _).alloc (by simp) _).alloc (by simp; omega) _
  have hs3 : w3.heap.size = w.heap.size + 3 := by rw [hw3]; simp
  have hA0 : w3.cell? ⟨w.heap.size, 0, none⟩ = some (.slice po pl pc) := by rw [hw3]; simp [go_sem]
  have hA1 : w3.cell? ⟨w.heap.size, 1, none⟩ = some (.int .i64 pn) := by rw [hw3]; simp [go_sem]
  have hC0 : w3.cell? ⟨w.heap.size + 1, 0, none⟩ = some (.slice qo ql qc) := by rw [hw3]; simp [go_sem]
  have hC1 : w3.cell? ⟨w.heap.size + 1, 1, none⟩ = some (.int .i64 qn) := by rw [hw3]; simp [go_sem]
  have hR0 : w3.cell? ⟨w.heap.size + 1 + 1, 0, none⟩ = some (.slice none 0 0) := by rw [hw3]; simp [go_sem]
  have hR1 : w3.cell? ⟨w.heap.size + 1 + 1, 1, none⟩ = some (.int .i64 0) := by rw [hw3]; simp [go_sem]
  have hF0 : w3.frozen? ⟨w.heap.size + 1 + 1, 0, none⟩ = false := by rw [hw3]; simp [go_sem]
  have hF1 : w3.frozen? ⟨w.heap.size + 1 + 1, 1, none⟩ = false := by rw [hw3]; simp [go_sem]
  have HW3 : Hid (w3 = ((w.alloc (.cells #[.slice po pl pc, .int .i64 pn] 26)).alloc (.cells #[.slice qo ql qc, .int .i64 qn] 26)).alloc (.cells #[.slice none 0 0, .int .i64 0] 26)) := hw3
  have HS3 : Hid (w3.heap.size = w.heap.size + 3) := hs3
  have hsa : w.heap.size < w3.heap.size := by omega
  have hsb : w.heap.size + 1 < w3.heap.size := by omega
  have hsc : w.heap.size + 1 + 1 < w3.heap.size := by omega
  clear hw3 hs3
  go_enter Try.func38, Try.ntmps38
  go_wp2_with fail
  rw [← HW3.out]
  go_cut [5] from 8 (fun p wx => ∃ g j : Nat, p = .pointer (some ⟨j, 0, none⟩) ∧ w.heap.size + 3 ≤ g ∧ w.heap.size + 3 ≤ j ∧ g ≠ j ∧ j < wx.heap.size ∧ Hid (wx.ownsRow (w.heap.size + 3) 5 1 (.slice (some ⟨g, 0, none⟩) M M) M ((jl (twoT ps qs pn) M 0).map (Value.int .u8))) ∧ wx.cell? ⟨j, 0, none⟩ = some (.slice (some ⟨g, 0, none⟩) M M) ∧ wx.cell? ⟨j, 1, none⟩ = some (.int .i64 ((pn : Int) + qn)) ∧ Below (w.heap.size + 3) w3 wx)
  case first =>
    go_region
    all_goals go_wp2
    all_goals go_meet
    · obtain ⟨W, hW, h1, h2, h3, h4, h5⟩ := join_a w3 (w.heap.size + 3) M (twoT ps qs pn) ((pn : Int) + qn) HS3.out.symm hM1
      rw [← hW]
      exact ⟨w3.heap.size, w3.heap.size + 1, rfl, Nat.le_of_eq HS3.out.symm, by have := HS3.out; omega, by omega, h1, h2, h3, h4, h5⟩
    · obtain ⟨W, hW, h1, h2, h3, h4, h5⟩ := join_b w3 (w.heap.size + 3) M (twoT ps qs pn) ((pn : Int) + qn) HS3.out.symm hM1
      rw [← hW]
      exact ⟨w3.heap.size + 1, w3.heap.size, rfl, by have := HS3.out; omega, Nat.le_of_eq HS3.out.symm, by omega, h1, h2, h3, h4, h5⟩
  case rest =>
    obtain ⟨g, j, rfl, hg, hj, hgj, hjs, HO, hJ0, hJ1, hbc⟩ := hcut
    have kA0 : wc.cell? ⟨w.heap.size, 0, none⟩ = some (.slice po pl pc) := (hbc.cell (p := ⟨w.heap.size, 0, none⟩) (by show _ < _; simp)).trans hA0
    have kA1 : wc.cell? ⟨w.heap.size, 1, none⟩ = some (.int .i64 pn) := (hbc.cell (p := ⟨w.heap.size, 1, none⟩) (by show _ < _; simp)).trans hA1
    clear hmk
    go_wp2_with fail
    go_loopw [24] (fun c wr => ∃ k : Nat, k ≤ pn ∧ c = .int .i64 k ∧ Hid (wr.ownsRow (w.heap.size + 3) 5 1 (.slice (some ⟨g, 0, none⟩) M M) M ((jl (twoT ps qs pn) M k).map (Value.int .u8))) ∧ wr.cell? ⟨j, 0, none⟩ = some (.slice (some ⟨g, 0, none⟩) M M) ∧ wr.cell? ⟨j, 1, none⟩ = some (.int .i64 ((pn : Int) + qn)) ∧ j < wr.heap.size ∧ Below (w.heap.size + 3) w3 wr) (fun c _ => pn - (intOf c).toNat)
    case atStart => exact ⟨0, Nat.zero_le _, rfl, HO, hJ0, hJ1, hjs, hbc⟩
    case round =>
      clear kA0 kA1 HO hJ0 hJ1 hjs hbc
      obtain ⟨k, hk, rfl, HO, hJ0, hJ1, hjs, hbr⟩ := hrel
      have kA0 : wr.cell? ⟨w.heap.size, 0, none⟩ = some (.slice po pl pc) := (hbr.cell (p := ⟨w.heap.size, 0, none⟩) (by show _ < _; simp)).trans hA0
      have kA1 : wr.cell? ⟨w.heap.size, 1, none⟩ = some (.int .i64 pn) := (hbr.cell (p := ⟨w.heap.size, 1, none⟩) (by show _ < _; simp)).trans hA1
      have hgs : g < wr.heap.size := (HO.out.lt g rfl).2
      have hsr := hbr.size
      have hs0 : w.heap.size < wr.heap.size := by omega
      have hs1 : w.heap.size + 1 < wr.heap.size := by omega
      have hsB : w.heap.size + 3 ≤ wr.heap.size := by have := HS3.out; omega
      by_cases hlt : k < pn
      · have har : Sl w.heap.size .u8 wr po pl pc ps := (hp.below hb3).below (hbr.mono (by omega))
        have hgc : wr.cell? ⟨g, k / 2, none⟩ = some (.int .u8 (jb (twoT ps qs pn) k (k / 2))) := by
          rw [HO.out.cellAt (k / 2) (by omega), map_at _ _ _ (by rw [jl_len]; omega), jl_getD _ _ _ _ (by omega)]
        have hgf := HO.out.frozenAt (k / 2)
        have hte : twoT ps qs pn k = tokI ps k := by unfold twoT; rw [if_pos hlt]
        have hst := (HO.out.stored (k / 2) (.int .u8 (zset (jb (twoT ps qs pn) k (k / 2)) k (twoT ps qs pn k)))).1
        rw [← List.map_set, jl_set _ _ _ (by omega), hte] at hst
        have htb := twoT_bd hyp hyq pn k
        rw [hte] at htb
        have hz1 : k % 2 = 0 → jb (twoT ps qs pn) k (k / 2) = 0 := fun h => by unfold jb; rw [if_neg (by omega), if_neg (by omega)]; rfl
        have hz2 : k % 2 = 1 → 0 ≤ jb (twoT ps qs pn) k (k / 2) ∧ jb (twoT ps qs pn) k (k / 2) ≤ 255 ∧ jb (twoT ps qs pn) k (k / 2) % 16 = 0 := fun h => by
          have := twoT_bd hyp hyq pn (2 * (k / 2))
          unfold jb; rw [if_pos (by omega), if_neg (by omega)]; omega
        have hki : (k : Int) < (pn : Int) := by omega
        obtain ⟨z, HZ⟩ : ∃ z, Hid (jb (twoT ps qs pn) k (k / 2) = z) := ⟨_, rfl⟩
        obtain ⟨t, HT⟩ : ∃ t, Hid (tokI ps k = t) := ⟨_, rfl⟩
        rw [HZ.out] at hgc hst hz1 hz2
        rw [HT.out] at hst htb
        have HST : Hid ((wr.setCell ⟨g, k / 2, none⟩ (.int .u8 (zset z k t))).ownsRow (w.heap.size + 3) 5 1 (.slice (some ⟨g, 0, none⟩) M M) M ((jl (twoT ps qs pn) M (k + 1)).map (Value.int .u8))) := hst
        have HZ1 : Hid (k % 2 = 0 → z = 0) := hz1
        have HZ2 : Hid (k % 2 = 1 → 0 ≤ z ∧ z ≤ 255 ∧ z % 16 = 0) := hz2
        clear hst hz1 hz2 hte
        go_wp2_with fail
        go_region_with (first
          | (go_at_call 46; refine (at_any w.heap.size _ _ _ ps _ _ _ ?_ ?_ hyp ?_ ?_ ?_).mono ?_; (focus (repeat (first | exact har | refine Sl.drew ?_ | refine Sl.alloc ?_ ?_ _ | omega | (simp; omega)))); (focus (first | omega | (simp; omega))); (focus omega); (focus omega); (focus omega); rw [Int.toNat_natCast, HT.out]; rintro e w' ⟨rfl, rfl⟩)
          | (go_at_call 45; refine (set_any g M M _ k t z _ ?_ ?_ ?_ ?_ ?_ htb HZ1.out HZ2.out).mono ?_; (focus (first | omega | (simp; omega))); (focus (simp [go_sem, hgc, hgs])); (focus (simp [go_sem, hgf, hgs])); (focus omega); (focus omega); rintro e w' ⟨rfl, rfl⟩))
        all_goals go_wp2
        all_goals
          go_roundw
          case rel =>
            obtain ⟨r1, r2, r3⟩ := jround (k / 2) (.int .u8 (zset z k t)) (.cells #[.slice po pl pc, .int .i64 pn] 26) (.cells #[.slice (some ⟨g, 0, none⟩) M M, .int .i64 ((pn : Int) + qn)] 26) hg hgj hjs hsB hbr
            exact ⟨k + 1, by omega, by go_num, ((HST.out.alloc _).alloc _).drew, (r1 0).trans hJ0, (r1 1).trans hJ1, r2, r3⟩
          case measure => simp [intOf]; omega
      · have hkp : k = pn := by omega
        rw [hkp] at HO
        clear hkp
        generalize hwd : wr = wd at *
        clear hwd
        have kC0 : wd.cell? ⟨w.heap.size + 1, 0, none⟩ = some (.slice qo ql qc) := (hbr.cell (p := ⟨w.heap.size + 1, 0, none⟩) (by show _ < _; simp)).trans hC0
        have kC1 : wd.cell? ⟨w.heap.size + 1, 1, none⟩ = some (.int .i64 qn) := (hbr.cell (p := ⟨w.heap.size + 1, 1, none⟩) (by show _ < _; simp)).trans hC1
        go_wp2_with fail
        go_loopw [36] (fun c wr => ∃ k2 : Nat, k2 ≤ qn ∧ c = .int .i64 k2 ∧ Hid (wr.ownsRow (w.heap.size + 3) 5 1 (.slice (some ⟨g, 0, none⟩) M M) M ((jl (twoT ps qs pn) M (pn + k2)).map (Value.int .u8))) ∧ wr.cell? ⟨j, 0, none⟩ = some (.slice (some ⟨g, 0, none⟩) M M) ∧ wr.cell? ⟨j, 1, none⟩ = some (.int .i64 ((pn : Int) + qn)) ∧ j < wr.heap.size ∧ Below (w.heap.size + 3) w3 wr) (fun c _ => qn - (intOf c).toNat)
        case atStart => exact ⟨0, Nat.zero_le _, rfl, HO, hJ0, hJ1, hjs, hbr⟩
        case round =>
          clear kA0 kA1 kC0 kC1 HO hJ0 hJ1 hjs hbr hgs hsr hs0 hs1 hsB
          obtain ⟨k2, hk2, rfl, HO, hJ0, hJ1, hjs, hbr⟩ := hrel
          have kA1 : wr.cell? ⟨w.heap.size, 1, none⟩ = some (.int .i64 pn) := (hbr.cell (p := ⟨w.heap.size, 1, none⟩) (by show _ < _; simp)).trans hA1
          have kC0 : wr.cell? ⟨w.heap.size + 1, 0, none⟩ = some (.slice qo ql qc) := (hbr.cell (p := ⟨w.heap.size + 1, 0, none⟩) (by show _ < _; simp)).trans hC0
          have kC1 : wr.cell? ⟨w.heap.size + 1, 1, none⟩ = some (.int .i64 qn) := (hbr.cell (p := ⟨w.heap.size + 1, 1, none⟩) (by show _ < _; simp)).trans hC1
          have hgs : g < wr.heap.size := (HO.out.lt g rfl).2
          have hsr := hbr.size
          have hs0 : w.heap.size < wr.heap.size := by omega
          have hs1 : w.heap.size + 1 < wr.heap.size := by omega
          have hsB : w.heap.size + 3 ≤ wr.heap.size := by have := HS3.out; omega
          by_cases hlt : k2 < qn
          · have har : Sl w.heap.size .u8 wr qo ql qc qs := (hq.below hb3).below (hbr.mono (by omega))
            have hgc : wr.cell? ⟨g, (pn + k2) / 2, none⟩ = some (.int .u8 (jb (twoT ps qs pn) (pn + k2) ((pn + k2) / 2))) := by
              rw [HO.out.cellAt ((pn + k2) / 2) (by omega), map_at _ _ _ (by rw [jl_len]; omega), jl_getD _ _ _ _ (by omega)]
            have hgf := HO.out.frozenAt ((pn + k2) / 2)
            have hte : twoT ps qs pn (pn + k2) = tokI qs k2 := by unfold twoT; rw [if_neg (by omega), Nat.add_sub_cancel_left]
            have hst := (HO.out.stored ((pn + k2) / 2) (.int .u8 (zset (jb (twoT ps qs pn) (pn + k2) ((pn + k2) / 2)) (pn + k2) (twoT ps qs pn (pn + k2))))).1
            rw [← List.map_set, jl_set _ _ _ (by omega), hte] at hst
            have htb := twoT_bd hyp hyq pn (pn + k2)
            rw [hte] at htb
            have hz1 : (pn + k2) % 2 = 0 → jb (twoT ps qs pn) (pn + k2) ((pn + k2) / 2) = 0 := fun h => by unfold jb; rw [if_neg (by omega), if_neg (by omega)]; rfl
            have hz2 : (pn + k2) % 2 = 1 → 0 ≤ jb (twoT ps qs pn) (pn + k2) ((pn + k2) / 2) ∧ jb (twoT ps qs pn) (pn + k2) ((pn + k2) / 2) ≤ 255 ∧ jb (twoT ps qs pn) (pn + k2) ((pn + k2) / 2) % 16 = 0 := fun h => by
              have := twoT_bd hyp hyq pn (2 * ((pn + k2) / 2))
              unfold jb; rw [if_pos (by omega), if_neg (by omega)]; omega
            have hki : (k2 : Int) < (qn : Int) := by omega
            obtain ⟨z, HZ⟩ : ∃ z, Hid (jb (twoT ps qs pn) (pn + k2) ((pn + k2) / 2) = z) := ⟨_, rfl⟩
            obtain ⟨t, HT⟩ : ∃ t, Hid (tokI qs k2 = t) := ⟨_, rfl⟩
            rw [HZ.out] at hgc hst hz1 hz2
            rw [HT.out] at hst htb
            have HST : Hid ((wr.setCell ⟨g, (pn + k2) / 2, none⟩ (.int .u8 (zset z (pn + k2) t))).ownsRow (w.heap.size + 3) 5 1 (.slice (some ⟨g, 0, none⟩) M M) M ((jl (twoT ps qs pn) M (pn + k2 + 1)).map (Value.int .u8))) := hst
            have HZ1 : Hid ((pn + k2) % 2 = 0 → z = 0) := hz1
            have HZ2 : Hid ((pn + k2) % 2 = 1 → 0 ≤ z ∧ z ≤ 255 ∧ z % 16 = 0) := hz2
            clear hst hz1 hz2 hte
            go_wp2_with fail
            go_region_with (first
              | (go_at_call 46; refine (at_any w.heap.size _ _ _ qs _ _ _ ?_ ?_ hyq ?_ ?_ ?_).mono ?_; (focus (repeat (first | exact har | refine Sl.drew ?_ | refine Sl.alloc ?_ ?_ _ | omega | (simp; omega)))); (focus (first | omega | (simp; omega))); (focus omega); (focus omega); (focus omega); rw [Int.toNat_natCast, HT.out]; rintro e w' ⟨rfl, rfl⟩)
              | (go_at_call 45; rw [IntWalk.i64_in ((pn : Int) + (k2 : Int)) (by omega), show ((pn : Int) + (k2 : Int)) = ((pn + k2 : Nat) : Int) by omega]; refine (set_any g M M _ (pn + k2) t z _ ?_ ?_ ?_ ?_ ?_ htb HZ1.out HZ2.out).mono ?_; (focus (first | omega | (simp; omega))); (focus (simp [go_sem, hgc, hgs])); (focus (simp [go_sem, hgf, hgs])); (focus omega); (focus omega); rintro e w' ⟨rfl, rfl⟩))
            all_goals go_wp2
            all_goals
              go_roundw
              case rel =>
                obtain ⟨r1, r2, r3⟩ := jround ((pn + k2) / 2) (.int .u8 (zset z (pn + k2) t)) (.cells #[.slice qo ql qc, .int .i64 qn] 26) (.cells #[.slice (some ⟨g, 0, none⟩) M M, .int .i64 ((pn : Int) + qn)] 26) hg hgj hjs hsB hbr
                exact ⟨k2 + 1, by omega, by go_num, ((HST.out.alloc _).alloc _).drew, (r1 0).trans hJ0, (r1 1).trans hJ1, r2, r3⟩
              case measure => simp [intOf]; omega
          · have hkp : k2 = qn := by omega
            rw [hkp] at HO
            clear hkp
            have kR0 : wr.cell? ⟨w.heap.size + 1 + 1, 0, none⟩ = some (.slice none 0 0) := (hbr.cell (p := ⟨w.heap.size + 1 + 1, 0, none⟩) (show w.heap.size + 1 + 1 < w.heap.size + 3 from by omega)).trans hR0
            have kR1 : wr.cell? ⟨w.heap.size + 1 + 1, 1, none⟩ = some (.int .i64 0) := (hbr.cell (p := ⟨w.heap.size + 1 + 1, 1, none⟩) (show w.heap.size + 1 + 1 < w.heap.size + 3 from by omega)).trans hR1
            have kF0 : wr.frozen? ⟨w.heap.size + 1 + 1, 0, none⟩ = false := (hbr.frozen (p := ⟨w.heap.size + 1 + 1, 0, none⟩) (show w.heap.size + 1 + 1 < w.heap.size + 3 from by omega)).trans hF0
            have kF1 : wr.frozen? ⟨w.heap.size + 1 + 1, 1, none⟩ = false := (hbr.frozen (p := ⟨w.heap.size + 1 + 1, 1, none⟩) (show w.heap.size + 1 + 1 < w.heap.size + 3 from by omega)).trans hF1
            have HB : Hid (Below w.heap.size w wr) := hb3.trans (hbr.mono (by omega))
            have HO2 : Hid (∀ u v, ((wr.setCell ⟨w.heap.size + 1 + 1, 0, none⟩ u).setCell ⟨w.heap.size + 1 + 1, 1, none⟩ v).ownsRow w.heap.size 5 1 (.slice (some ⟨g, 0, none⟩) M M) M ((jl (twoT ps qs pn) M (pn + qn)).map (Value.int .u8))) := fun u v =>
              (ownsRow_setCell_below (ownsRow_setCell_below HO.out (a := ⟨w.heap.size + 1 + 1, 0, none⟩) (show w.heap.size + 1 + 1 < w.heap.size + 3 from by omega) u) (a := ⟨w.heap.size + 1 + 1, 1, none⟩) (show w.heap.size + 1 + 1 < w.heap.size + 3 from by omega) v).mono (by omega)
            go_wp2_with fail
            refine bodyPost_ret (v := .agg #[.slice (some ⟨g, 0, none⟩) M M, .int .i64 ((pn : Int) + qn)]) (by simp [results, Try.results38, go_sem, kR0, kR1]) rfl ⟨g, rfl, HO2.out _ _, ?_⟩
            exact (HB.out.setCell (p := ⟨w.heap.size + 1 + 1, 0, none⟩) (show w.heap.size ≤ w.heap.size + 1 + 1 from by omega) _).setCell (p := ⟨w.heap.size + 1 + 1, 1, none⟩) (show w.heap.size ≤ w.heap.size + 1 + 1 from by omega) _
end Go.Proofs.Qxb6003418a
