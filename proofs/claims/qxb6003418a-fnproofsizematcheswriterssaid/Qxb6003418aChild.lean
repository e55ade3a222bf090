/-
  The walk of childOffsets.
-/
import Derived.Test.Qxb6003418aNode
import Derived.Test.Qxb6003418aFo
namespace Go.Proofs.Qxb6003418a
open Go.RowKit
set_option linter.unusedVariables false

/-- The position at the head of the k-th child. -/
def cur (s : Int) (idx off siz : List Int) : Nat → Int
  | 0 => s + ulen idx.length
  | k + 1 => cur s idx off siz k + (ulen (idx.getD k 0) + 32) + (ulen (off.getD k 0) + ulen (siz.getD k 0))

/-- The position of the k-th child's offset. -/
def pos (s : Int) (idx off siz : List Int) (k : Nat) : Int := cur s idx off siz k + (ulen (idx.getD k 0) + 32)

/-- The positions that are appended for the first k children. -/
def outs (s : Int) (idx off siz : List Int) (fr : Int) : Nat → List Int
  | 0 => []
  | k + 1 => outs s idx off siz fr k ++ (if fr ≤ off.getD k 0 then [pos s idx off siz k] else [])

theorem cur_bd (s : Int) (idx off siz : List Int) (k : Nat) : s ≤ cur s idx off siz k ∧ cur s idx off siz k ≤ s + 10 + 62 * k := by
  induction k with
  | zero => have := ulen_bd idx.length; simp only [cur]; omega
  | succ k ih =>
    have h1 := ulen_bd (idx.getD k 0)
    have h2 := ulen_bd (off.getD k 0)
    have h3 := ulen_bd (siz.getD k 0)
    simp only [cur]
    omega

theorem outs_len (s : Int) (idx off siz : List Int) (fr : Int) (k : Nat) : (outs s idx off siz fr k).length ≤ k := by
  induction k with
  | zero => simp [outs]
  | succ k ih => simp only [outs]; split <;> simp <;> omega

/-- Each number is a uint64. -/
def U64s (zs : List Int) : Prop := ∀ j, 0 ≤ zs.getD j 0 ∧ zs.getD j 0 ≤ 18446744073709551615

theorem info65s : (Try.prog.info? 65).map (·.size) = some 36 := by kernel_rfl

theorem chd_one (a b c : Int) : (chd a b c).toArray.all (·.oneCell') = true := by
  refine all_oneCell_toArray fun v hv => ?_
  simp [chd] at hv
  rcases hv with rfl | ⟨_, rfl⟩ | rfl | rfl | rfl <;> rfl

theorem below_setCells' {B g : Nat} (hg : B ≤ g) : ∀ (vs : List Value) (o : Nat) (w : World), Below B w (w.setCells g o vs)
  | [], _, w => Below.refl B w
  | v :: r, o, w => ((Below.refl B w).setCell (p := ⟨g, o, none⟩) hg v).trans (below_setCells' hg r (o + 1) _)

/-- A child, laid into a new box of its own. -/
theorem wpList_store_child (w : World) {ops : Array Oper} {rest : List Oper} {op : Oper} {a : Act} {Q : Exit → Act → World → Prop} (hgd : op.guard = none) (x y : Operand) (ho : op.op = .store 65 x y)
    (Z : Array Value) (hZ : Z.size = 36) (p q r : Int) (hx : a.eval x = .pointer (some ⟨w.heap.size, 0, none⟩)) (hy : a.eval y = .agg (chd p q r).toArray)
    (h : ∀ w2, w2.cell? ⟨w.heap.size, 0, none⟩ = some (.int .u8 p) → w2.cell? ⟨w.heap.size, 33, none⟩ = some (.int .u64 q) → w2.cell? ⟨w.heap.size, 34, none⟩ = some (.int .u64 r) → Below w.heap.size w w2 → w.heap.size < w2.heap.size → wpList Try.prog ops Q rest (a.put op.dst undef) w2) :
    wpList Try.prog ops Q (op :: rest) a (w.alloc (.cells Z 65)) := by
  have hth : (w.alloc (.cells Z 65)).there w.heap.size 0 36 := by
    intro j hj
    rw [Nat.zero_add]
    refine ⟨?_, ?_⟩
    · rw [World.cell?_alloc_at (w := w) Z 65 w.heap.size j rfl]
      simp [hZ, hj]
    · simp [go_sem]
  refine wpList_store_mid hgd 65 x y ho w.heap.size 0 (chd p q r).toArray hx hy (by simpa [chd_len] using hth) (by simpa [chd_len] using info65s) (chd_one p q r) ?_
  have hr := World.rangeAt_setCells_same (w.alloc (.cells Z 65)) w.heap.size 0 (chd p q r) (by simpa [chd_len] using hth)
  refine h _ (hr 0 _ rfl) (hr 33 _ rfl) (hr 34 _ rfl) ?_ ?_
  · exact ((Below.refl _ _).alloc (Nat.le_refl _) _).trans (below_setCells' (Nat.le_refl _) _ _ _)
  · have := (below_setCells' (Nat.le_refl w.heap.size) (chd p q r) 0 (w.alloc (.cells Z 65))).size
    simp at this
    exact this

set_option maxHeartbeats 2000000 in
theorem childOffsets_any (B N : Nat) (p pn hv vv : Value) (idx off siz ats : List Int) (s fr : Int) (ao : Option Addr) (m : Nat) (w : World)
    (hN : NodeAt B w N p pn hv vv idx off siz) (hB : B ≤ w.heap.size) (ha : Sl B .i64 w ao m m ats) (hs : -1073741824 ≤ s ∧ s ≤ 1073741824) (hn : idx.length ≤ 1048576) (hm : m ≤ 1048576)
    (hyi : Bytes idx) (hyo : U64s off) (hys : U64s siz) :
    Calls Try.prog 43 #[.pointer (some ⟨N, 0, none⟩), .int .i64 s, .int .u64 fr, .slice ao m m] w fun e w' =>
      ∃ ro rc, e = .returned (.slice ro (ats ++ outs s idx off siz fr idx.length).length rc) ∧ Sl w'.heap.size .i64 w' ro (ats ++ outs s idx off siz fr idx.length).length rc (ats ++ outs s idx off siz fr idx.length) ∧ Below w.heap.size w w' := by
  obtain ⟨i0, hi0, hz0, hz1, hz2⟩ := info_parts info3
  obtain ⟨hNB, co, hNC, hkids⟩ := hN
  obtain ⟨n, hnl⟩ : ∃ n, n = idx.length := ⟨_, rfl⟩
  rw [← hnl] at hNC hkids hn ⊢
  have h4 := hNC.2.2.2.2
  have HNL : Hid (n = idx.length) := hnl
  clear hnl
  go_enter Try.func43, Try.ntmps43
  go_wp2_with fail
  refine (ulen_any _ w (by omega) (by omega)).mono ?_
  rintro e w1 ⟨rfl, hb1⟩
  have hul := ulen_bd (n : Int)
  have h41 : w1.cell? ⟨N, 4, none⟩ = some (.slice co n n) := (hb1.cell (p := ⟨N, 4, none⟩) (by show N < _; omega)).trans h4
  go_wp2_with fail
  go_loopw [3, 9, 26] (fun a i c wr => ∃ k : Nat, k ≤ n ∧ c = .int .i64 k ∧ i = .int .i64 (cur s idx off siz k) ∧ Hid (Fo w.heap.size 3 .i64 wr a (ats ++ outs s idx off siz fr k)) ∧ Below w.heap.size w wr) (fun _ _ c _ => n - (intOf c).toNat)
  case atStart =>
    refine ⟨0, Nat.zero_le _, rfl, by simp only [cur]; rw [← HNL.out], ?_, hb1⟩
    have : ats ++ outs s idx off siz fr 0 = ats := by simp [outs]
    rw [this]
    exact Fo.full ((ha.below (hb1.mono hB)).mono hB)
  case round =>
    obtain ⟨k, hk, rfl, rfl, hfo, hbel⟩ := hrel
    by_cases hlt : k < n
    · obtain ⟨g, rfl, hgB, hK⟩ : ∃ g, co = some ⟨g, 0, none⟩ ∧ g < B ∧ Kids w g n n idx off siz := by
        rcases hkids with h | h
        · exfalso
          have := HNL.out
          rw [h] at this
          simp at this
          omega
        · exact h
      have hR := hK k hlt
      rw [if_pos hlt] at hR
      have hcb := cur_bd s idx off siz k
      have hx0 := hyi k
      have hy0 := hyo k
      have hz0' := hys k
      have ux := ulen_bd (idx.getD k 0)
      have uy := ulen_bd (off.getD k 0)
      have uz := ulen_bd (siz.getD k 0)
      have HC : Hid (cur s idx off siz (k + 1) = cur s idx off siz k + (ulen (idx.getD k 0) + 32) + (ulen (off.getD k 0) + ulen (siz.getD k 0))) := rfl
      have HP : Hid (pos s idx off siz k = cur s idx off siz k + (ulen (idx.getD k 0) + 32)) := rfl
      have HO : Hid (outs s idx off siz fr (k + 1) = outs s idx off siz fr k ++ (if fr ≤ off.getD k 0 then [pos s idx off siz k] else [])) := rfl
      generalize idx.getD k 0 = x at *
      generalize off.getD k 0 = y at *
      generalize siz.getD k 0 = z at *
      generalize cur s idx off siz k = q at *
      have HR : Hid (wr.rangeAt g (k * 36) (chd x y z)) := fun j v hv => (hbel.cell (p := ⟨g, k * 36 + j, none⟩) (by show g < _; omega)).trans (hR j v hv)
      have hfl := hfo.out.lt hbel.size
      clear hR hK hkids
      go_wp2_with (first
        | (refine wpList_load_mid rfl 65 _ rfl g (k * 36) rfl (chd x y z) _ HR.out Try.underlying65 rfl info65s ?_)
        | (refine wpList_store_child wr rfl (.tmp 11) (.tmp 29) rfl _ rfl x y z rfl rfl ?_))
      intro w2 c0 c33 c34 hb2 hs2
      go_wp2_with fail
      refine (ulen_any x w2 (by omega) (by omega)).mono ?_
      rintro e w3 ⟨rfl, hb3⟩
      have d33 : w3.cell? ⟨wr.heap.size, 33, none⟩ = some (.int .u64 y) := (hb3.cell (p := ⟨wr.heap.size, 33, none⟩) hs2).trans c33
      have d34 : w3.cell? ⟨wr.heap.size, 34, none⟩ = some (.int .u64 z) := (hb3.cell (p := ⟨wr.heap.size, 34, none⟩) hs2).trans c34
      have hs3 : wr.heap.size < w3.heap.size := Nat.lt_of_lt_of_le hs2 hb3.size
      have hb3' : Below wr.heap.size wr w3 := hb2.trans (hb3.mono (by omega))
      clear c0 c33 c34 hb2 hb3 hs2
      by_cases hfy : fr ≤ y
      · go_wp2_with (at_builtin; refine wpList_append_fo _ rfl (.tmp 42) (.tmp 44) 49 rfl w.heap.size 3 i0 .i64 8 Try.underlying49 hi0 hz0 hz1 hz2 u3 (ats ++ outs s idx off siz fr k) rfl ?hfo ?hB ⟨w3.heap.size, 0, none⟩ 1 1 [q + (ulen x + 32)] rfl rfl ?hc (by decide) ?b1 (by decide) ?_)
        case hfo => exact (hfo.out.below (hb3'.alloc hb3'.size _) hbel.size)
        case hB => exact Nat.le_trans hbel.size (Nat.le_trans hb3'.size (by simp))
        case hc =>
          intro j hj
          obtain rfl : j = 0 := by omega
          simp [go_sem, Addr.add]
        case b1 =>
          have := outs_len s idx off siz fr k
          have := ha.1
          simp
          omega
        intro v' w4 ho hb4 hgr4
        have hgr3 : w3.grownBy w4 u3.ownBlock := ⟨hgr4.os, hgr4.tape, hgr4.output, by have := hgr4.size; simp at this; omega, fun k hk hne => (hgr4.block k (by simp; omega) hne).trans (Below.heap_alloc _ _ _ hk)⟩
        have hne : ∀ o, some (⟨wr.heap.size, o, none⟩ : Addr).block ≠ u3.ownBlock := fun o h => Nat.lt_irrefl _ (hfl _ h.symm)
        have e33 : w4.cell? ⟨wr.heap.size, 33, none⟩ = some (.int .u64 y) := hgr3.cell d33 (hne 33)
        have e34 : w4.cell? ⟨wr.heap.size, 34, none⟩ = some (.int .u64 z) := hgr3.cell d34 (hne 34)
        have hs4 : wr.heap.size < w4.heap.size := Nat.lt_of_lt_of_le hs3 hgr3.size
        have hb4w : Below w.heap.size w w4 := (hbel.trans ((hb3'.mono hbel.size).alloc (by have := hbel.size; have := hb3'.size; omega) _)).trans hb4
        have HFO : Hid (Fo w.heap.size 3 .i64 w4 v' (ats ++ outs s idx off siz fr (k + 1))) := by rw [HO.out, if_pos hfy, HP.out, ← List.append_assoc]; exact .inr (by simpa using ho)
        clear d33 d34 hs3 ho hb4 hgr4 hgr3 hne hfo hfl hfy hb3'
        go_wp2_with fail
        go_region_with (first
          | (go_at_call_of 49 (Value.int .u64 y); refine (ulen_any y _ (by omega) (by omega)).mono ?_; rintro e wy ⟨rfl, hby⟩; have f33 : wy.cell? ⟨wr.heap.size, 33, none⟩ = some (.int .u64 y) := (hby.cell (p := ⟨wr.heap.size, 33, none⟩) hs4).trans e33; have f34 : wy.cell? ⟨wr.heap.size, 34, none⟩ = some (.int .u64 z) := (hby.cell (p := ⟨wr.heap.size, 34, none⟩) hs4).trans e34; have hby' : Below w4.heap.size w4 wy := (Below.refl _ _).drew.trans hby; clear hby)
          | (go_at_call_of 49 (Value.int .u64 z); refine (ulen_any z _ (by omega) (by omega)).mono ?_; rintro e wz ⟨rfl, hbz⟩))
        all_goals go_wp2
        all_goals
          have hz4 : Below w4.heap.size w4 wz := hby'.trans (hbz.mono hby'.size)
          go_roundw
          case rel => exact ⟨k + 1, by omega, by go_num, by rw [HC.out], HFO.out.below hz4 (Nat.le_trans hb4w.size (Nat.le_refl _)), hb4w.trans (hz4.mono hb4w.size)⟩
          case measure => simp [intOf]; omega
      · skip
        have e33 : w3.cell? ⟨wr.heap.size, 33, none⟩ = some (.int .u64 y) := d33
        have e34 : w3.cell? ⟨wr.heap.size, 34, none⟩ = some (.int .u64 z) := d34
        have hs4 : wr.heap.size < w3.heap.size := hs3
        have hb4w : Below w.heap.size w w3 := hbel.trans (hb3'.mono hbel.size)
        have HFO : Hid (Fo w.heap.size 3 .i64 w3 u3 (ats ++ outs s idx off siz fr (k + 1))) := by rw [HO.out, if_neg hfy, List.append_nil]; exact hfo.out.below hb3' hbel.size
        clear d33 d34 hs3 hfo hfl hb3'
        go_wp2_with fail
        go_region_with (first
          | (go_at_call_of 49 (Value.int .u64 y); refine (ulen_any y _ (by omega) (by omega)).mono ?_; rintro e wy ⟨rfl, hby⟩; have f33 : wy.cell? ⟨wr.heap.size, 33, none⟩ = some (.int .u64 y) := (hby.cell (p := ⟨wr.heap.size, 33, none⟩) hs4).trans e33; have f34 : wy.cell? ⟨wr.heap.size, 34, none⟩ = some (.int .u64 z) := (hby.cell (p := ⟨wr.heap.size, 34, none⟩) hs4).trans e34; have hby' : Below w3.heap.size w3 wy := (Below.refl _ _).drew.trans hby; clear hby)
          | (go_at_call_of 49 (Value.int .u64 z); refine (ulen_any z _ (by omega) (by omega)).mono ?_; rintro e wz ⟨rfl, hbz⟩))
        all_goals go_wp2
        all_goals
          have hz4 : Below w3.heap.size w3 wz := hby'.trans (hbz.mono hby'.size)
          go_roundw
          case rel => exact ⟨k + 1, by omega, by go_num, by rw [HC.out], HFO.out.below hz4 (Nat.le_trans hb4w.size (Nat.le_refl _)), hb4w.trans (hz4.mono hb4w.size)⟩
          case measure => simp [intOf]; omega
    · have hkn : k = n := by omega
      subst hkn
      obtain ⟨ro, rc, hv', hsl⟩ := hfo.out.form hbel.size
      have HV : Hid (u3 = .slice ro (ats ++ outs s idx off siz fr k).length rc) := hv'
      clear hv'
      go_wp2
      go_ret
      exact ⟨ro, rc, congrArg Ending.returned HV.out, hsl, hbel⟩
end Go.Proofs.Qxb6003418a
