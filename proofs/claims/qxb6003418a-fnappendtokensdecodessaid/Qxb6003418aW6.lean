/-
  The walk of the law FnAppendTokensDecodes.
-/
import Derived.Test.Qxb6003418aZat
namespace Go.Proofs.Qxb6003418a
open Go.RowKit
set_option linter.unusedVariables false

/-- The first k of n cells are laid. -/
def partN (ps : List Int) (n k : Nat) : List Int := ps.take k ++ List.replicate (n - k) 0

theorem partN_zero (ps : List Int) (n : Nat) : partN ps n 0 = List.replicate n 0 := by simp [partN]
theorem partN_set (ps : List Int) (n k : Nat) (hk : k < n) (hp : k < ps.length) : (partN ps n k).set k (ps.getD k 0) = partN ps n (k + 1) := by
  have hl : (ps.take k).length = k := by simp; omega
  unfold partN
  rw [List.set_append_right _ _ (by omega), hl, Nat.sub_self]
  rw [show n - k = (n - (k + 1)) + 1 by omega, List.replicate_succ, List.set_cons_zero]
  rw [show ps.take (k + 1) = ps.take k ++ [ps.getD k 0] by rw [List.take_add_one, List.getElem?_eq_getElem hp, List.getD, List.getElem?_eq_getElem hp]; rfl]
  simp
theorem partN_len (ps : List Int) (n k : Nat) (hk : k ≤ n) (hp : k ≤ ps.length) : (partN ps n k).length = n := by
  unfold partN; simp; omega

theorem getD_set (xs : List Int) (i j : Nat) (v : Int) : (xs.set i v).getD j 0 = if i = j ∧ i < xs.length then v else xs.getD j 0 := by
  rw [List.getD, List.getElem?_set]
  by_cases h : i = j
  · subst h
    by_cases h2 : i < xs.length
    · simp [h2]
    · simp [h2, List.getD]
  · rw [if_neg h, if_neg (by omega), List.getD]

theorem nib_fin : ∀ a b : Fin 16, bits BinOp.or IntKind.u8 ((a.val * 16 : Nat) : Int) (b.val : Int) = ((a.val * 16 + b.val : Nat) : Int) := by decide +kernel
theorem xor_fin : ∀ a : Fin 256, 0 ≤ bits BinOp.xor IntKind.u8 IntKind.u8.max (a.val : Int) ∧ bits BinOp.xor IntKind.u8 IntKind.u8.max (a.val : Int) ≤ 255 := by decide +kernel

theorem nib_or (y j : Int) (h0 : 0 ≤ y ∧ y ≤ 255) (hj : 0 ≤ j ∧ j ≤ 255) : bits BinOp.or IntKind.u8 (bits BinOp.and IntKind.u8 y 240) (j % 16) = y / 16 * 16 + j % 16 := by
  rw [and240 y h0.1 h0.2]
  obtain ⟨a, rfl⟩ := Int.eq_ofNat_of_zero_le h0.1
  obtain ⟨b, rfl⟩ := Int.eq_ofNat_of_zero_le hj.1
  have h := nib_fin ⟨a / 16, by omega⟩ ⟨b % 16, by omega⟩
  simp only [] at h
  rw [show ((a : Int) / 16 * 16) = ((a / 16 * 16 : Nat) : Int) by omega, show ((b : Int) % 16) = ((b % 16 : Nat) : Int) by omega, h]
  omega

theorem xor_bd (j : Int) (hj : 0 ≤ j ∧ j ≤ 255) : 0 ≤ bits BinOp.xor IntKind.u8 IntKind.u8.max j ∧ bits BinOp.xor IntKind.u8 IntKind.u8.max j ≤ 255 := by
  obtain ⟨a, rfl⟩ := Int.eq_ofNat_of_zero_le hj.1
  exact xor_fin ⟨a, by omega⟩

theorem partN_getD (ps : List Int) (n k j : Nat) (hp : k ≤ ps.length) : (partN ps n k).getD j 0 = if j < k then ps.getD j 0 else 0 := by
  unfold partN
  rw [List.getD]
  by_cases h : j < k
  · rw [List.getElem?_append_left (by simp; omega), List.getElem?_take, if_pos h, if_pos h, List.getD]
  · rw [List.getElem?_append_right (by simp; omega), if_neg h, List.getElem?_replicate]
    split <;> rfl

/-- The bytes of 'other': the path's, another pad, two bytes more. -/
theorem other_ok (ps : List Int) (M pn : Nat) (r j nj : Int) (hps : Bytes ps) (hM : M = (pn + 1) / 2) (hl : M ≤ ps.length) (hr : 0 ≤ r ∧ r ≤ 255) (hj : 0 ≤ j ∧ j ≤ 255) (hn : 0 ≤ nj ∧ nj ≤ 255) (xs : List Int)
    (hx : xs = if pn % 2 = 1 then (partN ps (M + 2) M).set (M - 1) r else partN ps (M + 2) M) (hrr : pn % 2 = 1 → r / 16 = ps.getD (M - 1) 0 / 16) :
    Bytes ((xs.set M j).set (M + 1) nj) ∧ ((xs.set M j).set (M + 1) nj).length = M + 2 ∧ tokB ((xs.set M j).set (M + 1) nj) pn = tokB ps pn := by
  have hxl : xs.length = M + 2 := by
    have := partN_len ps (M + 2) M (by omega) hl
    rw [hx]; split <;> simp [this]
  have hxg : ∀ i, i < M → xs.getD i 0 = if pn % 2 = 1 ∧ i = M - 1 then r else ps.getD i 0 := by
    intro i hi
    rw [hx]
    by_cases h : pn % 2 = 1
    · rw [if_pos h, getD_set, partN_getD ps _ _ _ hl, partN_len ps (M + 2) M (by omega) hl, if_pos hi]
      by_cases e : M - 1 = i
      · rw [if_pos ⟨e, by omega⟩, if_pos ⟨h, e.symm⟩]
      · rw [if_neg (by omega), if_neg (by omega)]
    · rw [if_neg h, partN_getD ps _ _ _ hl, if_pos hi, if_neg (by omega)]
  have hxb : Bytes xs := by
    intro i
    by_cases hi : i < M
    · rw [hxg i hi]
      split
      · exact hr
      · exact hps i
    · rw [hx]
      by_cases h : pn % 2 = 1
      · rw [if_pos h, getD_set, partN_getD ps _ _ _ hl, if_neg hi]
        split
        · exact hr
        · omega
      · rw [if_neg h, partN_getD ps _ _ _ hl, if_neg hi]; omega
  refine ⟨?_, by simp [hxl], ?_⟩
  · intro i
    rw [getD_set, getD_set]
    split
    · exact hn
    · split
      · exact hj
      · exact hxb i
  · refine tokB_congr _ _ _ (by simp; omega) (by omega) fun i hi => ?_
    have hg : ((xs.set M j).set (M + 1) nj).getD i 0 = if pn % 2 = 1 ∧ i = M - 1 then r else ps.getD i 0 := by
      rw [getD_set, if_neg (by omega), getD_set, if_neg (by omega), hxg i (by omega)]
    by_cases e : pn % 2 = 1 ∧ i = (pn + 1) / 2 - 1
    · rw [if_pos e, hg, if_pos ⟨e.1, by omega⟩, hrr e.1, show i = M - 1 by omega]
    · rw [if_neg e, hg, if_neg (by omega)]

set_option maxHeartbeats 4000000 in
set_option maxRecDepth 100000 in
theorem w6_pos (a0 : Option Addr) (m cap0 : Nat) (zs : List Int) (a1 : Option Addr) (pl cap1 : Nat) (ps : List Int) (pn : Nat) (jk : Int) (w : World)
    (i0 : In .u8 w a0 m zs) (i1 : In .u8 w a1 pl ps) (hyp : Bytes ps) (hz : m + pl ≤ 1048576) (hpn : pn ≤ 2 * pl) (hp0 : 0 < pn) (hj0 : 0 ≤ jk) (hj1 : jk ≤ 255) :
    Calls Try.prog 6 #[.slice a0 m cap0, .slice a1 pl cap1, .int .i64 pn, .int .u8 jk] w fun e w' => e = .returned (.bool true) ∧ Below w.heap.size w w' := by
  have HLM : Hid (zs.length = m) := i0.1
  have HLP : Hid (ps.length = pl) := i1.1
  have t1 : decide ((pn : Int) < 0) = false := by simp
  have t2 : decide (2 * (pl : Int) < (pn : Int)) = false := by simp; omega
  go_enter Try.func6, Try.ntmps6
  go_wp2_with (go_at_call 23; refine (zz23_ok _ _ _ _ _ _ _ _ _ hz).mono ?_; rintro e w' ⟨rfl, rfl⟩)
  refine (cloneBytes_any a0 m cap0 zs w i0 (by omega)).mono ?_
  rintro e wa ⟨ao, rfl, hsa, hba, -⟩
  go_wp2_with fail
  refine (cloneBytes_any a1 pl cap1 ps wa (i1.below hba) (by omega)).mono ?_
  rintro e wb ⟨po, rfl, hsp, hbb, -⟩
  replace hsa := hsa.up hbb
  have hwb : Below w.heap.size w wb := hba.trans (hbb.mono hba.size)
  clear hba hbb i0 i1
  go_wp2_with fail
  refine (cloneBytes_any ao m m zs wb (hsa.toIn (Nat.le_refl _)) (by omega)).mono ?_
  rintro e wc ⟨ko, rfl, hsk, hbc, -⟩
  replace hsa := hsa.up hbc
  replace hsp := hsp.up hbc
  have hwc : Below w.heap.size w wc := hwb.trans (hbc.mono hwb.size)
  clear hwb hbc
  go_wp2_with fail
  refine (path_any po pl pl pn wc).mono ?_
  rintro e wd ⟨rfl, hwd⟩
  have hbd : Below wc.heap.size wc wd := by rw [hwd]; exact (Below.refl _ _).alloc (Nat.le_refl _) _
  replace hsa := hsa.up hbd
  replace hsp := hsp.up hbd
  replace hsk := hsk.up hbd
  have hwd' : Below w.heap.size w wd := hwc.trans (hbd.mono hwc.size)
  clear hwd hbd hwc
  go_wp2_with fail
  refine (zzAppendTokens_any ao po m pl pl zs ps pn wd hsa hsp hyp (by omega) (by omega) hpn).mono ?_
  rintro e we ⟨g, cap, L, rfl, HL, hso, hbe⟩
  replace hsp := hsp.up hbe
  replace hsk := hsk.up hbe
  have hwe : Below w.heap.size w we := hwd'.trans (hbe.mono hwd'.size)
  clear hwd' hbe hsa
  have htb := tokB_len ps pn (by rw [HLP.out]; omega)
  have hub := uvbF_len 9 (4 * pn)
  have hul := ulenF_bd 9 (4 * pn)
  obtain ⟨K, HK⟩ : ∃ K, Hid (K = ulenF 9 (4 * pn)) := ⟨_, rfl⟩
  have hK1 : 1 ≤ K := by rw [HK.out]; omega
  have hK2 : K ≤ 10 := by rw [HK.out]; omega
  have HLE : Hid (L = m + K + (pn + 1) / 2) := by
    show _ = _
    rw [HL.out, List.length_append, List.length_append, HLM.out, hub, htb, ← HK.out]; omega
  have hLlo : m + K ≤ L := by rw [HLE.out]; omega
  have hLhi : L ≤ 2097170 := by rw [HLE.out]; omega
  have hLc : L ≤ cap := by
    obtain ⟨_, ⟨h, _⟩ | ⟨b, o, h, _, h3, _⟩⟩ := hso
    · cases h
    · exact h3
  have hcm : ¬ cap = m := by omega
  have hLm : decide ((L : Int) < (m : Int)) = false := by simp; omega
  have hLm' : decide (L < m) = false := by simp; omega
  have HTB : Hid ((tokB ps pn).length = (pn + 1) / 2) := htb
  have HUB : Hid ((uvbF 9 (4 * pn)).length = K) := by show _ = _; rw [hub, ← HK.out]
  clear htb hub hul
  go_wp2_with fail
  refine (eqBytes_same we.heap.size we.heap.size (some ⟨g, 0, none⟩) ko m cap m zs we (hso.head m HLM.out) hsk (Nat.le_refl _) (Nat.le_refl _) (by omega)).mono ?_
  rintro e wf ⟨rfl, hbf⟩
  replace hsp := hsp.up hbf
  replace hso := hso.up hbf
  have hwf : Below w.heap.size w wf := hwe.trans (hbf.mono hwe.size)
  clear hwe hbf hsk
  have hsr := hso.rest m HLM.out
  rw [Nat.zero_add] at hsr
  clear hso
  go_wp2_with fail
  refine (readUv_any wf.heap.size (some ⟨g, m, none⟩) (L - m) (cap - m) (4 * pn) (tokB ps pn) wf hsr (by omega) (by omega)).mono ?_
  rw [← HK.out]
  rintro e w' ⟨rfl, rfl⟩
  have hKb : ((K : Int) == 0) = false := by simp; omega
  have hKK : ((K : Int) != (K : Int)) = false := by simp
  have h4 : (((4 * pn : Nat) : Int) != 4 * (pn : Int)) = false := by simp
  have h4' : ((4 * (pn : Int)) != 4 * (pn : Int)) = false := by simp
  go_wp2_with fail
  have e4 : (4 * (pn : Int)) = ((4 * pn : Nat) : Int) := by omega
  rw [e4]
  clear e4
  refine (uvLen_any (4 * pn) wf (by omega)).mono ?_
  rw [← HK.out]
  rintro e w' ⟨rfl, rfl⟩
  have hlb : (((L - m - K : Nat) : Int) != ((pn : Int) + 1) / 2) = false := by
    have := HLE.out
    simp; omega
  have hKL : K ≤ L - m := by omega
  have hKc : K ≤ cap - m := by omega
  have hck : ¬ cap - m = K := by have := HLE.out; omega
  have HLB : Hid (L - m - K = (pn + 1) / 2) := by have := HLE.out; show _ = _; omega
  have hsb := hsr.rest K HUB.out
  go_wp2_with fail
  obtain ⟨M, HM⟩ : ∃ M, Hid (M = L - m - K) := ⟨_, rfl⟩
  rw [← HM.out] at hsb ⊢
  have hMp : M = (pn + 1) / 2 := by rw [HM.out, HLB.out]
  have HMP : Hid (M = (pn + 1) / 2) := hMp
  have hM1 : 1 ≤ M := by omega
  have hM2 : M ≤ 1048576 := by omega
  have hMpn : pn ≤ 2 * M := by omega
  have hM21 : 2 * M ≤ pn + 1 := by omega
  have hyb := bytes_tokB hyp pn
  clear hMp
  obtain ⟨y, HY⟩ : ∃ y, Hid (y = ps.getD (M - 1) 0) := ⟨_, rfl⟩
  have hyy : 0 ≤ y ∧ y ≤ 255 := by rw [HY.out]; exact hyp _
  go_loop [16] (fun i => ∃ k : Nat, k ≤ pn ∧ i = .int .i64 k) (fun i => pn - (intOf i).toNat)
  case atStart => exact ⟨0, Nat.zero_le _, rfl⟩
  case round =>
    obtain ⟨k, hk, rfl⟩ := hrel
    by_cases hlt : k < pn
    · have cA := tok_any wf.heap.size (some ⟨g, m + K, none⟩) M (cap - m - K) (tokB ps pn) (k : Int) wf hsb hyb (by omega) (by omega) hM2
      have cB := tok_any wf.heap.size po pl pl ps (k : Int) wf hsp hyp (by omega) (by omega) (by omega)
      rw [Int.toNat_natCast] at cA cB
      rw [tok_tokB hyp pn (by rw [HLP.out]; omega) k hlt] at cA
      have HA : Hid (Calls Try.prog 16 #[.slice (some ⟨g, m + K, none⟩) M (cap - m - K), .int .i64 k] wf fun e w' => e = .returned (.int .u8 (tokI ps k)) ∧ w' = wf) := cA
      have HB : Hid (Calls Try.prog 16 #[.slice po pl pl, .int .i64 k] wf fun e w' => e = .returned (.int .u8 (tokI ps k)) ∧ w' = wf) := cB
      clear cA cB
      have hxx : (tokI ps k != tokI ps k) = false := by simp
      go_wp2_with fail
      refine HA.out.mono ?_
      rintro e w' ⟨rfl, hw'⟩
      rw [hw']
      clear hw' w'
      go_wp2_with fail
      refine HB.out.mono ?_
      rintro e w' ⟨rfl, hw'⟩
      rw [hw']
      clear hw' w'
      go_wp2
      go_round
      case rel => exact ⟨k + 1, by omega, by go_num⟩
      case measure => simp [intOf]; omega
    · obtain ⟨i0, hi0, hz0, hz1, hz2⟩ := info_parts info5
      have hib : i0.bytes * (M + 2) ≤ 281474976710656 := by rw [hz2]; omega
      have hmk : ((pn : Int) + 1) / 2 + 2 = ((M + 2 : Nat) : Int) := by have := HMP.out; omega
      have HMK : Hid (((pn : Int) + 1) / 2 + 2 = ((M + 2 : Nat) : Int)) := hmk
      have hmm : ((pn : Int) + 1) / 2 = (M : Int) := by have := HMP.out; omega
      clear hmk
      by_cases hodd : pn % 2 = 1
      · have hob : ((pn : Int) % 2 == 1) = true := by simp; omega
        obtain ⟨_, ⟨h, _⟩ | ⟨gb, go, he, hgb, hgc, hgcell⟩⟩ := hsb
        · cases h
        simp at he
        obtain ⟨rfl, rfl⟩ := he
        have hlc := hgcell (M - 1) (by omega)
        rw [tokB_getD ps pn (by rw [HLP.out]; omega) (M - 1) (by omega), if_pos ⟨hodd, by have := HMP.out; omega⟩, ← HY.out] at hlc
        clear hgcell
        obtain ⟨u, HU⟩ : ∃ u, Hid (u = y / 16 * 16) := ⟨_, rfl⟩
        rw [← HU.out] at hlc
        have hu0 : 0 ≤ u ∧ u ≤ 255 := by rw [HU.out]; omega
        have hub : (u % 16 != 0) = false := by rw [HU.out]; simp
        go_wp2_with (at_make; refine wpList_make_full _ rfl _ _ 22 rfl wf.heap.size 5 i0 (.int .u8 0) 1 Try.underlying22 hi0 hz0 hz1 _ _ _ _ (M + 2) rfl rfl ?e1 ?e2 hib ?b3 (Nat.le_refl _) ?_)
        case b3 => unfold maxLen; omega
        intro w1 hown hgrow
        have HOWN : Hid (w1.ownsRow wf.heap.size 5 1 (.slice (some ⟨wf.heap.size, 0, none⟩) (M + 2) (M + 2)) (M + 2) ((partN ps (M + 2) 0).map (Value.int .u8))) := by
          show World.ownsRow _ _ _ _ _ _ _
          rw [partN_zero]; simpa [toList_madeCells_one] using hown
        have hb1 : Below wf.heap.size wf w1 := (Below.refl _ _).grown hgrow (Nat.le_refl _) (by simp)
        clear hown hgrow hi0 hz0 hz1 hz2 hib HMK
        go_wp2_with fail
        go_loopw [18] (fun i wr => ∃ k : Nat, k ≤ M ∧ i = .int .i64 k ∧ Hid (wr.ownsRow wf.heap.size 5 1 (.slice (some ⟨wf.heap.size, 0, none⟩) (M + 2) (M + 2)) (M + 2) ((partN ps (M + 2) k).map (Value.int .u8))) ∧ Below wf.heap.size wf wr)
          (fun i _ => M - (intOf i).toNat)
        case atStart => exact ⟨0, Nat.zero_le _, rfl, HOWN, hb1⟩
        case round =>
          clear HOWN hb1
          obtain ⟨k2, hk2, rfl, hown, hbel⟩ := hrel
          by_cases hlt2 : k2 < M
          · obtain ⟨_, ⟨_, h0, _⟩ | ⟨bp, op, rfl, hbp, hpc, hpcell⟩⟩ := hsp.below hbel
            · omega
            have hc1 := hpcell k2 (by omega)
            have hst := (hown.out.stored k2 (.int .u8 (ps.getD k2 0))).1
            rw [← List.map_set, partN_set ps (M + 2) k2 (by omega) (by rw [HLP.out]; omega)] at hst
            have HST : Hid ((wr.setCell ⟨wf.heap.size, k2, none⟩ (.int .u8 (ps.getD k2 0))).ownsRow wf.heap.size 5 1 (.slice (some ⟨wf.heap.size, 0, none⟩) (M + 2) (M + 2)) (M + 2) ((partN ps (M + 2) (k2 + 1)).map (Value.int .u8))) := hst
            have hfz := hown.out.frozenAt k2
            obtain ⟨v0, hv0⟩ : ∃ v0, wr.cell? ⟨wf.heap.size, k2, none⟩ = some v0 := by
              rw [hown.out.cellAt k2 (by omega)]
              have : k2 < ((partN ps (M + 2) k2).map (Value.int .u8)).length := by rw [hown.out.1]; omega
              exact ⟨_, List.getElem?_eq_getElem this⟩
            have hki : (k2 : Int) < (M : Int) := by omega
            have hkp : (k2 : Int) < (pl : Int) := by omega
            have hkm : (k2 : Int) < (M : Int) + 2 := by omega
            generalize ps.getD k2 0 = z at *
            clear hst hpcell hown
            go_wp2
            go_roundw
            case rel => exact ⟨k2 + 1, by omega, by go_num, HST.out, hbel.setCell (Nat.le_refl _) _⟩
            case measure => simp [intOf]; omega
          · have hkM : k2 = M := by omega
            have HKM : Hid (k2 = M) := hkM
            rw [hkM] at hown
            clear hkM
            have hfz1 := hown.out.frozenAt (M - 1)
            have hfz2 := hown.out.frozenAt M
            have hfz3 := hown.out.frozenAt (M + 1)
            have hcM : ∀ j, j < M + 2 → wr.cell? ⟨wf.heap.size, j, none⟩ = some (.int .u8 ((partN ps (M + 2) M).getD j 0)) := by
              intro j hj
              rw [hown.out.cellAt j (by omega)]
              exact map_at _ _ _ (by rw [partN_len ps (M + 2) M (by omega) (by rw [HLP.out]; omega)]; exact hj)
            have hc1 := hcM (M - 1) (by omega)
            have hc2 := hcM M (by omega)
            have hc3 := hcM (M + 1) (by omega)
            rw [show (partN ps (M + 2) M).getD (M - 1) 0 = y by rw [HY.out, partN, List.getD, List.getElem?_append_left (by simp; rw [HLP.out]; omega), List.getElem?_take, if_pos (by omega), List.getD]] at hc1
            clear hcM
            have hM1i : (1 : Int) ≤ (M : Int) := by omega
            go_wp2_with fail
            have HS : Hid (∀ a b c, (((wr.setCell ⟨wf.heap.size, M - 1, none⟩ (.int .u8 a)).setCell ⟨wf.heap.size, M, none⟩ (.int .u8 b)).setCell ⟨wf.heap.size, M + 1, none⟩ (.int .u8 c)).ownsRow wf.heap.size 5 1 (.slice (some ⟨wf.heap.size, 0, none⟩) (M + 2) (M + 2)) (M + 2) (((((partN ps (M + 2) M).set (M - 1) a).set M b).set (M + 1) c).map (Value.int .u8))) := by
              intro a b c
              have h := ((((hown.out.stored (M - 1) (.int .u8 a)).1).stored M (.int .u8 b)).1.stored (M + 1) (.int .u8 c)).1
              rw [← List.map_set, ← List.map_set, ← List.map_set] at h
              exact h
            obtain ⟨wh, hwh⟩ : ∃ wh, wh = ((wr.setCell ⟨wf.heap.size, M - 1, none⟩ (.int .u8 (bits BinOp.or IntKind.u8 (bits BinOp.and IntKind.u8 y 240) (jk % 16)))).setCell ⟨wf.heap.size, M, none⟩ (.int .u8 jk)).setCell ⟨wf.heap.size, M + 1, none⟩ (.int .u8 (bits BinOp.xor IntKind.u8 IntKind.u8.max jk)) := ⟨_, rfl⟩
            rw [← hwh]
            have hxb := xor_bd jk ⟨hj0, hj1⟩
            have hor := nib_or y jk hyy ⟨hj0, hj1⟩
            have hoo := other_ok ps M pn (bits BinOp.or IntKind.u8 (bits BinOp.and IntKind.u8 y 240) (jk % 16)) jk (bits BinOp.xor IntKind.u8 IntKind.u8.max jk) hyp HMP.out (by rw [HLP.out]; omega) (by rw [hor]; omega) ⟨hj0, hj1⟩ hxb _ rfl (by intro _; rw [hor, ← HY.out]; omega)
            rw [if_pos hodd] at hoo
            have hsq := own_Sl (HS.out (bits BinOp.or IntKind.u8 (bits BinOp.and IntKind.u8 y 240) (jk % 16)) jk (bits BinOp.xor IntKind.u8 IntKind.u8.max jk))
            rw [← hwh] at hsq
            have hbh : Below wf.heap.size wf wh := by rw [hwh]; exact ((hbel.setCell (Nat.le_refl _) _).setCell (Nat.le_refl _) _).setCell (Nat.le_refl _) _
            obtain ⟨qs, HQ⟩ : ∃ qs, Hid (qs = (((partN ps (M + 2) M).set (M - 1) (bits BinOp.or IntKind.u8 (bits BinOp.and IntKind.u8 y 240) (jk % 16))).set M jk).set (M + 1) (bits BinOp.xor IntKind.u8 IntKind.u8.max jk)) := ⟨_, rfl⟩
            rw [← HQ.out] at hoo hsq
            obtain ⟨hq1, hq2, hq3⟩ := hoo
            have HQ3 : Hid (tokB qs pn = tokB ps pn) := hq3
            have hsrh := hsr.up hbh
            have hwh2 : Below w.heap.size w wh := hwf.trans (hbh.mono hwf.size)
            clear hwh HS hxb hor hown hbel hbh hq3 hfz1 hfz2 hfz3 hc1 hc2 hc3 hsr hsp HQ hwf
            refine (path_any (some ⟨wf.heap.size, 0, none⟩) (M + 2) (M + 2) pn wh).mono ?_
            rintro e wi ⟨rfl, hwi⟩
            have hbi : Below wh.heap.size wh wi := by rw [hwi]; exact (Below.refl _ _).alloc (Nat.le_refl _) _
            replace hsq := hsq.up hbi
            replace hsrh := hsrh.up hbi
            have hwi2 : Below w.heap.size w wi := hwh2.trans (hbi.mono hwh2.size)
            clear hwi hbi hwh2
            go_wp2_with fail
            refine (zzAppendTokens_any none (some ⟨wf.heap.size, 0, none⟩) 0 (M + 2) (M + 2) [] qs pn wi ⟨rfl, .inl ⟨rfl, rfl, rfl⟩⟩ hsq hq1 (by omega) (by omega) (by omega)).mono ?_
            rw [List.nil_append, HQ3.out]
            rintro e wj ⟨g2, cap2, L2, rfl, HL2, hso2, hbj⟩
            replace hsrh := hsrh.up hbj
            have hwj : Below w.heap.size w wj := hwi2.trans (hbj.mono hwi2.size)
            have hL2 : L2 = L - m := by rw [HL2.out]; exact hsrh.1
            subst hL2
            clear hbj hwi2 hsq
            go_wp2_with fail
            refine (eqBytes_same wj.heap.size wj.heap.size (some ⟨g2, 0, none⟩) (some ⟨g, m, none⟩) (L - m) cap2 (cap - m) _ wj hso2 hsrh (Nat.le_refl _) (Nat.le_refl _) (by omega)).mono ?_
            rintro e wk ⟨rfl, hbk⟩
            go_wp2
            go_ret
            exact ⟨rfl, hwj.trans (hbk.mono hwj.size)⟩
      · have hob : ((pn : Int) % 2 == 1) = false := by simp; omega
        go_wp2_with (at_make; refine wpList_make_full _ rfl _ _ 22 rfl wf.heap.size 5 i0 (.int .u8 0) 1 Try.underlying22 hi0 hz0 hz1 _ _ _ _ (M + 2) rfl rfl ?e1b ?e2b hib ?b3b (Nat.le_refl _) ?_)
        case b3b => unfold maxLen; omega
        intro w1 hown hgrow
        have HOWN : Hid (w1.ownsRow wf.heap.size 5 1 (.slice (some ⟨wf.heap.size, 0, none⟩) (M + 2) (M + 2)) (M + 2) ((partN ps (M + 2) 0).map (Value.int .u8))) := by
          show World.ownsRow _ _ _ _ _ _ _
          rw [partN_zero]; simpa [toList_madeCells_one] using hown
        have hb1 : Below wf.heap.size wf w1 := (Below.refl _ _).grown hgrow (Nat.le_refl _) (by simp)
        clear hown hgrow hi0 hz0 hz1 hz2 hib HMK
        go_wp2_with fail
        go_loopw [18] (fun i wr => ∃ k : Nat, k ≤ M ∧ i = .int .i64 k ∧ Hid (wr.ownsRow wf.heap.size 5 1 (.slice (some ⟨wf.heap.size, 0, none⟩) (M + 2) (M + 2)) (M + 2) ((partN ps (M + 2) k).map (Value.int .u8))) ∧ Below wf.heap.size wf wr)
          (fun i _ => M - (intOf i).toNat)
        case atStart => exact ⟨0, Nat.zero_le _, rfl, HOWN, hb1⟩
        case round =>
          clear HOWN hb1
          obtain ⟨k2, hk2, rfl, hown, hbel⟩ := hrel
          by_cases hlt2 : k2 < M
          · obtain ⟨_, ⟨_, h0, _⟩ | ⟨bp, op, rfl, hbp, hpc, hpcell⟩⟩ := hsp.below hbel
            · omega
            have hc1 := hpcell k2 (by omega)
            have hst := (hown.out.stored k2 (.int .u8 (ps.getD k2 0))).1
            rw [← List.map_set, partN_set ps (M + 2) k2 (by omega) (by rw [HLP.out]; omega)] at hst
            have HST : Hid ((wr.setCell ⟨wf.heap.size, k2, none⟩ (.int .u8 (ps.getD k2 0))).ownsRow wf.heap.size 5 1 (.slice (some ⟨wf.heap.size, 0, none⟩) (M + 2) (M + 2)) (M + 2) ((partN ps (M + 2) (k2 + 1)).map (Value.int .u8))) := hst
            have hfz := hown.out.frozenAt k2
            obtain ⟨v0, hv0⟩ : ∃ v0, wr.cell? ⟨wf.heap.size, k2, none⟩ = some v0 := by
              rw [hown.out.cellAt k2 (by omega)]
              have : k2 < ((partN ps (M + 2) k2).map (Value.int .u8)).length := by rw [hown.out.1]; omega
              exact ⟨_, List.getElem?_eq_getElem this⟩
            have hki : (k2 : Int) < (M : Int) := by omega
            have hkp : (k2 : Int) < (pl : Int) := by omega
            have hkm : (k2 : Int) < (M : Int) + 2 := by omega
            generalize ps.getD k2 0 = z at *
            clear hst hpcell hown
            go_wp2
            go_roundw
            case rel => exact ⟨k2 + 1, by omega, by go_num, HST.out, hbel.setCell (Nat.le_refl _) _⟩
            case measure => simp [intOf]; omega
          · have hkM : k2 = M := by omega
            have HKM : Hid (k2 = M) := hkM
            rw [hkM] at hown
            clear hkM
            have hfz2 := hown.out.frozenAt M
            have hfz3 := hown.out.frozenAt (M + 1)
            have hcM : ∀ j, j < M + 2 → wr.cell? ⟨wf.heap.size, j, none⟩ = some (.int .u8 ((partN ps (M + 2) M).getD j 0)) := by
              intro j hj
              rw [hown.out.cellAt j (by omega)]
              exact map_at _ _ _ (by rw [partN_len ps (M + 2) M (by omega) (by rw [HLP.out]; omega)]; exact hj)
            have hc2 := hcM M (by omega)
            have hc3 := hcM (M + 1) (by omega)
            clear hcM
            have hM1i : (1 : Int) ≤ (M : Int) := by omega
            go_wp2_with fail
            have HS : Hid (∀ b c, ((wr.setCell ⟨wf.heap.size, M, none⟩ (.int .u8 b)).setCell ⟨wf.heap.size, M + 1, none⟩ (.int .u8 c)).ownsRow wf.heap.size 5 1 (.slice (some ⟨wf.heap.size, 0, none⟩) (M + 2) (M + 2)) (M + 2) ((((partN ps (M + 2) M).set M b).set (M + 1) c).map (Value.int .u8))) := by
              intro b c
              have h := ((hown.out.stored M (.int .u8 b)).1.stored (M + 1) (.int .u8 c)).1
              rw [← List.map_set, ← List.map_set] at h
              exact h
            obtain ⟨wh, hwh⟩ : ∃ wh, wh = (wr.setCell ⟨wf.heap.size, M, none⟩ (.int .u8 jk)).setCell ⟨wf.heap.size, M + 1, none⟩ (.int .u8 (bits BinOp.xor IntKind.u8 IntKind.u8.max jk)) := ⟨_, rfl⟩
            rw [← hwh]
            have hxb := xor_bd jk ⟨hj0, hj1⟩
            have hoo := other_ok ps M pn 0 jk (bits BinOp.xor IntKind.u8 IntKind.u8.max jk) hyp HMP.out (by rw [HLP.out]; omega) (by omega) ⟨hj0, hj1⟩ hxb _ rfl (by intro h; exact absurd h hodd)
            rw [if_neg hodd] at hoo
            have hsq := own_Sl (HS.out jk (bits BinOp.xor IntKind.u8 IntKind.u8.max jk))
            rw [← hwh] at hsq
            have hbh : Below wf.heap.size wf wh := by rw [hwh]; exact (hbel.setCell (Nat.le_refl _) _).setCell (Nat.le_refl _) _
            obtain ⟨qs, HQ⟩ : ∃ qs, Hid (qs = ((partN ps (M + 2) M).set M jk).set (M + 1) (bits BinOp.xor IntKind.u8 IntKind.u8.max jk)) := ⟨_, rfl⟩
            rw [← HQ.out] at hoo hsq
            obtain ⟨hq1, hq2, hq3⟩ := hoo
            have HQ3 : Hid (tokB qs pn = tokB ps pn) := hq3
            have hsrh := hsr.up hbh
            have hwh2 : Below w.heap.size w wh := hwf.trans (hbh.mono hwf.size)
            clear hwh HS hxb hown hbel hbh hq3 hfz2 hfz3 hc2 hc3 hsr hsp HQ hwf
            refine (path_any (some ⟨wf.heap.size, 0, none⟩) (M + 2) (M + 2) pn wh).mono ?_
            rintro e wi ⟨rfl, hwi⟩
            have hbi : Below wh.heap.size wh wi := by rw [hwi]; exact (Below.refl _ _).alloc (Nat.le_refl _) _
            replace hsq := hsq.up hbi
            replace hsrh := hsrh.up hbi
            have hwi2 : Below w.heap.size w wi := hwh2.trans (hbi.mono hwh2.size)
            clear hwi hbi hwh2
            go_wp2_with fail
            refine (zzAppendTokens_any none (some ⟨wf.heap.size, 0, none⟩) 0 (M + 2) (M + 2) [] qs pn wi ⟨rfl, .inl ⟨rfl, rfl, rfl⟩⟩ hsq hq1 (by omega) (by omega) (by omega)).mono ?_
            rw [List.nil_append, HQ3.out]
            rintro e wj ⟨g2, cap2, L2, rfl, HL2, hso2, hbj⟩
            replace hsrh := hsrh.up hbj
            have hwj : Below w.heap.size w wj := hwi2.trans (hbj.mono hwi2.size)
            have hL2 : L2 = L - m := by rw [HL2.out]; exact hsrh.1
            subst hL2
            clear hbj hwi2 hsq
            go_wp2_with fail
            refine (eqBytes_same wj.heap.size wj.heap.size (some ⟨g2, 0, none⟩) (some ⟨g, m, none⟩) (L - m) cap2 (cap - m) _ wj hso2 hsrh (Nat.le_refl _) (Nat.le_refl _) (by omega)).mono ?_
            rintro e wk ⟨rfl, hbk⟩
            go_wp2
            go_ret
            exact ⟨rfl, hwj.trans (hbk.mono hwj.size)⟩
end Go.Proofs.Qxb6003418a
