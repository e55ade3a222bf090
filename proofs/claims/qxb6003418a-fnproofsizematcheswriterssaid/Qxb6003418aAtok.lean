/-
  appendTokens.
-/
import Derived.Test.Qxb6003418aAuv
import Derived.Test.Qxb6003418aRowIn
namespace Go.Proofs.Qxb6003418a
open Go.RowKit
set_option linter.unusedVariables false

/-- The bytes that appendTokens writes behind the number: the path's, the last one's low half struck where the number of tokens is odd. -/
def tokB (ps : List Int) (pn : Nat) : List Int :=
  if pn % 2 = 1 then (ps.take ((pn + 1) / 2)).set ((pn + 1) / 2 - 1) (ps.getD ((pn + 1) / 2 - 1) 0 / 16 * 16) else ps.take ((pn + 1) / 2)

theorem tokB_len (ps : List Int) (pn : Nat) (h : (pn + 1) / 2 ≤ ps.length) : (tokB ps pn).length = (pn + 1) / 2 := by
  unfold tokB
  split <;> simp <;> omega

theorem and240_fin : ∀ r : Fin 256, bits BinOp.and IntKind.u8 (r.val : Int) 240 = ((r.val / 16 * 16 : Nat) : Int) := by decide +kernel

theorem and240 (y : Int) (h0 : 0 ≤ y) (h1 : y ≤ 255) : bits BinOp.and IntKind.u8 y 240 = y / 16 * 16 := by
  obtain ⟨n, rfl⟩ := Int.eq_ofNat_of_zero_le h0
  have h := and240_fin ⟨n, by omega⟩
  simp only [] at h
  rw [h]
  omega

theorem own_pos {w : World} {B e n : Nat} {v : Value} {xs : List Value} (h : w.ownsRow B e 1 v n xs) (hn : 0 < n) : ∃ g cap, v = .slice (some ⟨g, 0, none⟩) n cap := by
  obtain ⟨_, ⟨_, h2⟩ | ⟨g, cap, cur, rfl, _⟩⟩ := h
  · omega
  · exact ⟨g, cap, rfl⟩

theorem map_at (k : IntKind) (xs : List Int) (i : Nat) (h : i < xs.length) : (xs.map (Value.int k))[i]? = some (.int k (xs.getD i 0)) := by
  rw [List.getElem?_map, List.getElem?_eq_getElem h, List.getD, List.getElem?_eq_getElem h]
  rfl

theorem set_last (xs ys : List Int) (k : Nat) (y : Int) (hk : k < ys.length) : (xs ++ ys).set (xs.length + k) y = xs ++ ys.set k y := by
  rw [List.set_append_right _ _ (by omega)]
  congr 2
  omega

theorem getD_last (xs ys : List Int) (k : Nat) : (xs ++ ys).getD (xs.length + k) 0 = ys.getD k 0 := by
  rw [List.getD, List.getElem?_append_right (by omega), List.getD]
  congr 2
  omega

theorem tokB_odd (ps : List Int) (pn : Nat) (h : pn % 2 = 1) (xs : List Int) (hl : (pn + 1) / 2 ≤ ps.length) :
    (xs ++ ps.take ((pn + 1) / 2)).set ((xs ++ ps.take ((pn + 1) / 2)).length - 1) (ps.getD ((pn + 1) / 2 - 1) 0 / 16 * 16) = xs ++ tokB ps pn := by
  have e : (xs ++ ps.take ((pn + 1) / 2)).length - 1 = xs.length + ((pn + 1) / 2 - 1) := by simp; omega
  rw [e, set_last _ _ _ _ (by simp; omega)]
  unfold tokB
  rw [if_pos h]

theorem tokB_last (ps : List Int) (pn : Nat) (h : pn % 2 = 1) (xs : List Int) (hl : (pn + 1) / 2 ≤ ps.length) :
    (xs ++ ps.take ((pn + 1) / 2)).getD ((xs ++ ps.take ((pn + 1) / 2)).length - 1) 0 = ps.getD ((pn + 1) / 2 - 1) 0 := by
  have e : (xs ++ ps.take ((pn + 1) / 2)).length - 1 = xs.length + ((pn + 1) / 2 - 1) := by simp; omega
  rw [e, getD_last]
  rw [List.getD, List.getElem?_take, if_pos (by omega), List.getD]

theorem tokB_even (ps : List Int) (pn : Nat) (h : ¬ pn % 2 = 1) : tokB ps pn = ps.take ((pn + 1) / 2) := by unfold tokB; rw [if_neg h]

set_option maxHeartbeats 2000000 in
theorem appendTokens_any (ao po : Option Addr) (m pl pc : Nat) (zs ps : List Int) (pn : Nat) (w : World) (ha : Sl w.heap.size .u8 w ao m m zs) (hp : Sl w.heap.size .u8 w po pl pc ps) (hyp : Bytes ps)
    (hm : m ≤ 1048576) (hpl : pl ≤ 1048600) (hpn : pn ≤ 2 * pl) :
    Calls Try.prog 40 #[.slice ao m m, .agg #[.slice po pl pc, .int .i64 pn]] w fun e w' =>
      ∃ g cap, e = .returned (.slice (some ⟨g, 0, none⟩) (zs ++ (uvbF 9 (4 * pn) ++ tokB ps pn)).length cap) ∧ w'.ownsRow w.heap.size 5 1 (.slice (some ⟨g, 0, none⟩) (zs ++ (uvbF 9 (4 * pn) ++ tokB ps pn)).length cap) (zs ++ (uvbF 9 (4 * pn) ++ tokB ps pn)).length ((zs ++ (uvbF 9 (4 * pn) ++ tokB ps pn)).map (Value.int .u8)) ∧ Below w.heap.size w w' := by
  obtain ⟨i0, hi, hz0, hz1, hz2⟩ := info_parts info5
  have hlz := ha.1
  have HLZ : Hid (zs.length = m) := hlz
  have HLP : Hid (ps.length = pl) := hp.1
  clear hlz
  obtain ⟨w1, hw1⟩ : ∃ w1, w1 = w.alloc (.cells #[.slice po pl pc, .int .i64 pn] 26) := ⟨_, rfl⟩
  have hb1 : Below w.heap.size w w1 := by rw [hw1]; exact (Below.refl _ _).alloc (Nat.le_refl _) _
  have hs1 : w.heap.size < w1.heap.size := by rw [hw1]; simp
  have hA0 : w1.cell? ⟨w.heap.size, 0, none⟩ = some (.slice po pl pc) := by rw [hw1]; simp [go_sem]
  have hA1 : w1.cell? ⟨w.heap.size, 1, none⟩ = some (.int .i64 pn) := by rw [hw1]; simp [go_sem]
  have HW1 : Hid (w1 = w.alloc (.cells #[.slice po pl pc, .int .i64 pn] 26)) := hw1
  clear hw1
  go_enter Try.func40, Try.ntmps40
  go_wp2_with fail
  rw [← HW1.out]
  have e4 : (4 * (pn : Int)) = ((4 * pn : Nat) : Int) := by omega
  rw [e4]
  clear e4
  refine (appendUvarint_any w1.heap.size (.slice ao m m) zs (4 * pn) w1 (Fo.full ((ha.below hb1).mono hb1.size)) (Nat.le_refl _) (by omega) (by rw [HLZ.out]; omega)).mono ?_
  rintro e w2 ⟨v', rfl, ho, hb2⟩
  have hul := ulenF_bd 9 (4 * pn)
  rw [← uvbF_len] at hul
  have hB0 : w2.cell? ⟨w.heap.size, 0, none⟩ = some (.slice po pl pc) := (hb2.cell (p := ⟨w.heap.size, 0, none⟩) hs1).trans hA0
  have hB1 : w2.cell? ⟨w.heap.size, 1, none⟩ = some (.int .i64 pn) := (hb2.cell (p := ⟨w.heap.size, 1, none⟩) hs1).trans hA1
  have hpw2 : Sl w.heap.size .u8 w2 po pl pc ps := (hp.below hb1).below (hb2.mono hb1.size)
  have hbw2 : Below w.heap.size w w2 := hb1.trans (hb2.mono hb1.size)
  have hsz2 := hb2.size
  have HO : Hid (w2.ownsRow w1.heap.size 5 1 v' (zs ++ uvbF 9 (4 * pn)).length ((zs ++ uvbF 9 (4 * pn)).map (Value.int .u8))) := ho
  clear ho hA0 hA1 ha hp hb2
  by_cases hp0 : pn = 0
  · subst hp0
    obtain ⟨g, cap, hv'⟩ := own_pos HO.out (by rw [List.length_append]; omega)
    have HV : Hid (v' = .slice (some ⟨g, 0, none⟩) (zs ++ uvbF 9 (4 * 0)).length cap) := hv'
    clear hv' hi hz0 hz1 hz2
    go_wp2
    go_ret
    have et : zs ++ (uvbF 9 (4 * 0) ++ tokB ps 0) = zs ++ uvbF 9 (4 * 0) := by simp [tokB]
    rw [et]
    refine ⟨g, cap, congrArg Ending.returned HV.out, ?_, hbw2⟩
    rw [← HV.out]
    exact HO.out.mono hb1.size
  · obtain ⟨_, ⟨_, h0, _⟩ | ⟨bp, op, rfl, hbp, hpc, hpcell⟩⟩ := hpw2
    · omega
    have hpp : (0 : Int) < (pn : Int) := by omega
    have hmc : (pn + 1) / 2 ≤ pc := by omega
    have HPC : Hid (∀ i, i < pl → w2.cell? ⟨bp, op + i, none⟩ = some (.int .u8 (ps.getD i 0))) := hpcell
    clear hpcell
    obtain ⟨zz, HZZ⟩ : ∃ zz, Hid (zz = zs ++ uvbF 9 (4 * pn)) := ⟨_, rfl⟩
    obtain ⟨tk, HTK⟩ : ∃ tk, Hid (tk = ps.take ((pn + 1) / 2)) := ⟨_, rfl⟩
    have hzl : zz.length ≤ 1048586 := by rw [HZZ.out, List.length_append, HLZ.out]; omega
    rw [← HZZ.out] at HO
    have htl : tk.length = (pn + 1) / 2 := by rw [HTK.out, List.length_take, HLP.out]; omega
    have HTL : Hid (tk.length = (pn + 1) / 2) := htl
    clear hul htl
    go_wp2_with (at_builtin; refine wpList_append_fo _ rfl (.tmp 14) (.tmp 21) 22 rfl w1.heap.size 5 i0 .u8 1 Try.underlying22 hi hz0 hz1 hz2 v' zz rfl (.inr HO.out) hsz2 ⟨bp, op, none⟩ ((pn + 1) / 2) pc tk rfl HTL.out ?hc ?hm ?b1 (by decide) ?_)
    case hc =>
      intro j hj
      rw [WideShapes.add_plain, HPC.out j (by omega), HTK.out]
      rw [List.getD, List.getD, List.getElem?_take, if_pos hj]
    case hm => omega
    case b1 => omega
    intro v2 w3 ho3 hb3 hgr3
    have HO3 : Hid (w3.ownsRow w1.heap.size 5 1 v2 (zz ++ tk).length ((zz ++ tk).map (Value.int .u8))) := by show World.ownsRow _ _ _ _ _ _ _; simpa using ho3
    have hC1 : w3.cell? ⟨w.heap.size, 1, none⟩ = some (.int .i64 pn) := (hb3.cell (p := ⟨w.heap.size, 1, none⟩) hs1).trans hB1
    have hbw3 : Below w.heap.size w w3 := hbw2.trans (hb3.mono hb1.size)
    clear ho3 hgr3 hi hz0 hz1 hz2 hB0 hB1
    have hpos : 0 < (zz ++ tk).length := by rw [List.length_append, HTL.out]; omega
    have hle : (zz ++ tk).length ≤ 4194304 := by rw [List.length_append, HTL.out]; omega
    obtain ⟨g, cap, hv2⟩ := own_pos HO3.out hpos
    obtain ⟨L, HL⟩ : ∃ L, Hid (L = (zz ++ tk).length) := ⟨_, rfl⟩
    rw [← HL.out] at hpos hle hv2 HO3
    subst hv2
    have HZT : Hid (zs ++ (uvbF 9 (4 * pn) ++ ps.take ((pn + 1) / 2)) = zz ++ tk) := by
      show _ = _
      rw [HZZ.out, HTK.out, List.append_assoc]
    by_cases hodd : pn % 2 = 1
    · have hob : ((pn : Int) % 2 == 1) = true := by simp; omega
      have hcl : w3.cell? ⟨g, L - 1, none⟩ = some (.int .u8 (ps.getD ((pn + 1) / 2 - 1) 0)) := by
        rw [HO3.out.cellAt (L - 1) (by omega)]
        have hlt : L - 1 < (zz ++ tk).length := by rw [← HL.out]; omega
        have e := tokB_last ps pn hodd zz (by rw [HLP.out]; omega)
        rw [← HTK.out, ← HL.out] at e
        rw [← e]
        exact map_at _ _ _ hlt
      have hfz := HO3.out.frozenAt (L - 1)
      have hyb := hyp ((pn + 1) / 2 - 1)
      have HS : Hid (∀ u, (w3.setCell ⟨g, L - 1, none⟩ u).ownsRow w1.heap.size 5 1 (.slice (some ⟨g, 0, none⟩) L cap) L (((zz ++ tk).map (Value.int .u8)).set (L - 1) u)) := fun u => (HO3.out.stored (L - 1) u).1
      have HG : Hid (w1.heap.size ≤ g) := (HO3.out.lt g rfl).1
      have HSET : Hid ((zz ++ tk).set (L - 1) (ps.getD ((pn + 1) / 2 - 1) 0 / 16 * 16) = zs ++ (uvbF 9 (4 * pn) ++ tokB ps pn)) := by
        have e := tokB_odd ps pn hodd zz (by rw [HLP.out]; omega)
        rw [← HTK.out, ← HL.out] at e
        show _ = _
        rw [e, HZZ.out, List.append_assoc]
      clear hodd
      generalize ps.getD ((pn + 1) / 2 - 1) 0 = y at *
      have hLi : (1 : Int) ≤ (L : Int) := by omega
      go_wp2
      go_ret
      have hlen : (zs ++ (uvbF 9 (4 * pn) ++ tokB ps pn)).length = L := by rw [← HSET.out, List.length_set, ← HL.out]
      rw [hlen]
      refine ⟨g, cap, rfl, ?_, ?_⟩
      · have h1 := HS.out (.int .u8 (bits BinOp.and IntKind.u8 y 240))
        rw [and240 y hyb.1 hyb.2, ← List.map_set, HSET.out] at h1
        rw [and240 y hyb.1 hyb.2]
        exact h1.mono hb1.size
      · exact hbw3.setCell (Nat.le_trans hb1.size HG.out) _
    · have hob : ((pn : Int) % 2 == 1) = false := by simp; omega
      have HE := tokB_even ps pn hodd
      have HEV : Hid (tokB ps pn = ps.take ((pn + 1) / 2)) := HE
      clear HE hodd
      go_wp2
      go_ret
      rw [HEV.out, HZT.out, ← HL.out]
      exact ⟨g, cap, rfl, HO3.out.mono hb1.size, hbw3⟩
end Go.Proofs.Qxb6003418a
