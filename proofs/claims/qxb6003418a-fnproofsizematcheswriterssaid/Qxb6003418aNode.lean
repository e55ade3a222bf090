/-
  A node in memory; the walk of ZZNode_rootg2.
-/
import Derived.Test.Qxb6003418aUv
import Derived.Deep.MidRow
namespace Go.Proofs.Qxb6003418a
open Go.RowKit
set_option linter.unusedVariables false

/-- The 36 cells of a child. -/
def chd (a b c : Int) : List Value := .int .u8 a :: (List.replicate 32 (.int .u8 0) ++ [.int .u64 b, .int .u64 c, .pointer none])

theorem chd_len (a b c : Int) : (chd a b c).length = 36 := by simp [chd]
theorem chd_set0 (a b c x : Int) : (chd a b c).set 0 (.int .u8 x) = chd x b c := by simp [chd]
theorem chd_set33 (a b c x : Int) : (chd a b c).set 33 (.int .u64 x) = chd a x c := by simp [chd, List.replicate]
theorem chd_set34 (a b c x : Int) : (chd a b c).set 34 (.int .u64 x) = chd a b x := by simp [chd, List.replicate]

theorem info65 : (Try.prog.info? 65).map (fun i => (i.zero, i.size, i.bytes)) = some (some (.agg (chd 0 0 0).toArray), 36, 64) := by kernel_rfl

theorem rangeAt_setCell {w : World} {b o j : Nat} {cs : List Value} (h : w.rangeAt b o cs) (hj : j < cs.length) (v : Value) : (w.setCell ⟨b, o + j, none⟩ v).rangeAt b o (cs.set j v) := by
  intro i u hi
  rw [List.getElem?_set] at hi
  by_cases e : j = i
  · subst e
    simp [hj] at hi
    subst hi
    obtain ⟨u, hu⟩ : ∃ u, cs[j]? = some u := ⟨_, List.getElem?_eq_getElem hj⟩
    exact World.cell?_setCell_same _ _ _ (h j u hu)
  · rw [if_neg e] at hi
    rw [World.cell?_setCell_other _ _ _ _ (by intro h; injection h with h1 h2 h3; omega)]
    exact h i u hi

theorem rangeAt_setCell_apart {w : World} {b o b' o' : Nat} {cs : List Value} (h : w.rangeAt b o cs) (v : Value) (hap : b' ≠ b ∨ o' < o ∨ o + cs.length ≤ o') : (w.setCell ⟨b', o', none⟩ v).rangeAt b o cs := by
  intro i u hi
  have hl : i < cs.length := (List.getElem?_eq_some_iff.1 hi).1
  rw [World.cell?_setCell_other _ _ _ _ (by intro h; injection h with h1 h2 h3; omega)]
  exact h i u hi

/-- After k rounds: the first k children are laid, the others hold zeros. -/
def Kids (w : World) (g n k : Nat) (idx off siz : List Int) : Prop :=
  ∀ i, i < n → w.rangeAt g (i * 36) (if i < k then chd (idx.getD i 0) (off.getD i 0) (siz.getD i 0) else chd 0 0 0)

/-- In the k-th round: the k-th child holds a, b, c. -/
def KidsM (w : World) (g n k : Nat) (idx off siz : List Int) (a b c : Int) : Prop :=
  ∀ i, i < n → w.rangeAt g (i * 36) (if i < k then chd (idx.getD i 0) (off.getD i 0) (siz.getD i 0) else if i = k then chd a b c else chd 0 0 0)

theorem Kids.enter {w g n k idx off siz} (h : Kids w g n k idx off siz) : KidsM w g n k idx off siz 0 0 0 := by
  intro i hi
  have := h i hi
  by_cases h1 : i < k
  · simpa [h1] using this
  · simpa [h1] using this

theorem KidsM.leave {w g n k idx off siz a b c} (h : KidsM w g n k idx off siz a b c) (ha : a = idx.getD k 0) (hb : b = off.getD k 0) (hc : c = siz.getD k 0) : Kids w g n (k + 1) idx off siz := by
  intro i hi
  have := h i hi
  by_cases h1 : i < k
  · simpa [h1, show i < k + 1 by omega] using this
  · by_cases h2 : i = k
    · subst h2; subst ha; subst hb; subst hc
      simpa using this
    · simpa [h1, h2, show ¬ i < k + 1 by omega] using this

theorem KidsM.store {w g n k idx off siz a b c} (h : KidsM w g n k idx off siz a b c) (hk : k < n) (j : Nat) (hj : j < 36) (v : Value) (a' b' c' : Int) (hs : (chd a b c).set j v = chd a' b' c') :
    KidsM (w.setCell ⟨g, k * 36 + j, none⟩ v) g n k idx off siz a' b' c' := by
  intro i hi
  have h0 := h i hi
  by_cases h1 : i < k
  · rw [if_pos h1] at h0 ⊢
    exact rangeAt_setCell_apart h0 v (by rw [chd_len]; omega)
  · rw [if_neg h1] at h0 ⊢
    by_cases h2 : i = k
    · subst h2
      rw [if_pos rfl] at h0 ⊢
      rw [← hs]
      exact rangeAt_setCell h0 (by rw [chd_len]; exact hj) v
    · rw [if_neg h2] at h0 ⊢
      exact rangeAt_setCell_apart h0 v (by rw [chd_len]; omega)

theorem KidsM.drew {w g n k idx off siz a b c} (h : KidsM w g n k idx off siz a b c) : KidsM w.drew g n k idx off siz a b c := h
theorem KidsM.drewN {w g n k idx off siz a b c} (h : KidsM w g n k idx off siz a b c) (q : Nat) : KidsM (w.drewN q) g n k idx off siz a b c := h

theorem kids_made {w : World} {B g n : Nat} (idx off siz : List Int) (h : w.ownsRow B 65 36 (.slice (some ⟨g, 0, none⟩) n n) n (madeCells (chd 0 0 0).toArray (n * 36)).toList) : Kids w g n 0 idx off siz := by
  intro i hi
  rw [if_neg (Nat.not_lt_zero _)]
  intro j v hv
  have hj : j < 36 := by have := (List.getElem?_eq_some_iff.1 hv).1; rwa [chd_len] at this
  rw [h.cellAt (i * 36 + j) (by omega)]
  have e : (chd 0 0 0).toArray.size = 36 := by simp [chd_len]
  simp only [madeCells, Array.toList_map, List.getElem?_map, Array.toList_range]
  rw [List.getElem?_range (by omega)]
  simp only [Option.map_some, e]
  rw [show (i * 36 + j) % 36 = j by omega]
  have : (chd 0 0 0).toArray[j]? = some v := by simpa using hv
  rw [Array.getElem!_eq_getD, Array.getD_eq_getD_getElem?, this]
  rfl

/-- The five cells of a node. -/
def NodeC (w : World) (N : Nat) (v0 v1 v2 v3 v4 : Value) : Prop :=
  w.cell? ⟨N, 0, none⟩ = some v0 ∧ w.cell? ⟨N, 1, none⟩ = some v1 ∧ w.cell? ⟨N, 2, none⟩ = some v2 ∧ w.cell? ⟨N, 3, none⟩ = some v3 ∧ w.cell? ⟨N, 4, none⟩ = some v4

theorem NodeC.below {B w w' N v0 v1 v2 v3 v4} (h : NodeC w N v0 v1 v2 v3 v4) (hN : N < B) (hb : Below B w w') : NodeC w' N v0 v1 v2 v3 v4 :=
  ⟨(hb.cell (p := ⟨N, 0, none⟩) hN).trans h.1, (hb.cell (p := ⟨N, 1, none⟩) hN).trans h.2.1, (hb.cell (p := ⟨N, 2, none⟩) hN).trans h.2.2.1, (hb.cell (p := ⟨N, 3, none⟩) hN).trans h.2.2.2.1, (hb.cell (p := ⟨N, 4, none⟩) hN).trans h.2.2.2.2⟩

theorem NodeC.new (w : World) (t : TypeId) (v0 v1 v2 v3 v4 : Value) : NodeC (w.alloc (.cells #[v0, v1, v2, v3, v4] t)) w.heap.size v0 v1 v2 v3 v4 := by
  refine ⟨?_, ?_, ?_, ?_, ?_⟩ <;> simp [go_sem]

theorem NodeC.grown {w w' N v0 v1 v2 v3 v4} (h : NodeC w N v0 v1 v2 v3 v4) (hg : w.grownBy w' none) : NodeC w' N v0 v1 v2 v3 v4 :=
  ⟨hg.cell h.1 (by simp), hg.cell h.2.1 (by simp), hg.cell h.2.2.1 (by simp), hg.cell h.2.2.2.1 (by simp), hg.cell h.2.2.2.2 (by simp)⟩

theorem NodeC.set4 {w N v0 v1 v2 v3 v4} (h : NodeC w N v0 v1 v2 v3 v4) (v : Value) : NodeC (w.setCell ⟨N, 4, none⟩ v) N v0 v1 v2 v3 v := by
  refine ⟨?_, ?_, ?_, ?_, World.cell?_setCell_same _ _ _ h.2.2.2.2⟩
  · rw [World.cell?_setCell_other _ _ _ _ (by simp)]; exact h.1
  · rw [World.cell?_setCell_other _ _ _ _ (by simp)]; exact h.2.1
  · rw [World.cell?_setCell_other _ _ _ _ (by simp)]; exact h.2.2.1
  · rw [World.cell?_setCell_other _ _ _ _ (by simp)]; exact h.2.2.2.1

/-- A node: its block N, and its children's, lie below B. -/
def NodeAt (B : Nat) (w : World) (N : Nat) (p pn hv v : Value) (idx off siz : List Int) : Prop :=
  N < B ∧ ∃ co : Option Addr, NodeC w N p pn hv v (.slice co idx.length idx.length) ∧ (idx = [] ∨ ∃ g, co = some ⟨g, 0, none⟩ ∧ g < B ∧ Kids w g idx.length idx.length idx off siz)

theorem NodeAt.below {B w w' N p pn hv v idx off siz} (h : NodeAt B w N p pn hv v idx off siz) (hb : Below B w w') : NodeAt B w' N p pn hv v idx off siz := by
  obtain ⟨h1, co, h2, h3⟩ := h
  refine ⟨h1, co, h2.below h1 hb, ?_⟩
  rcases h3 with h3 | ⟨g, e1, e2, e3⟩
  · exact .inl h3
  · exact .inr ⟨g, e1, e2, fun i hi j v hv => (hb.cell (p := ⟨g, i * 36 + j, none⟩) e2).trans (e3 i hi j v hv)⟩

set_option maxHeartbeats 1000000 in
theorem node_any (B : Nat) (po vo io fo so : Option Addr) (pl pc vl vc n ic fl fc sl sc : Nat) (pn : Int) (hv : Bool) (idx off siz : List Int) (w : World)
    (hi : Sl B .u8 w io n ic idx) (hf : Sl B .u64 w fo fl fc off) (hs : Sl B .u64 w so sl sc siz) (hB : B ≤ w.heap.size) (hn : n ≤ 1048576) :
    Calls Try.prog 31 #[.slice po pl pc, .int .i64 pn, .bool hv, .slice vo vl vc, .slice io n ic, .slice fo fl fc, .slice so sl sc] w fun e w' => e = .returned (.pointer (some ⟨w.heap.size, 0, none⟩)) ∧ Below w.heap.size w w' ∧ NodeAt w'.heap.size w' w.heap.size (.slice po pl pc) (.int .i64 pn) (.bool hv) (.slice vo vl vc) idx off siz := by
  obtain ⟨i0, hi0, hz0, hz1, hz2⟩ := info_parts info65
  have hib : i0.bytes * n ≤ 281474976710656 := by rw [hz2]; omega
  by_cases hn0 : n = 0
  · subst hn0
    have hidx : idx = [] := List.eq_nil_of_length_eq_zero hi.1
    subst hidx
    clear hi hf hs hi0 hz0 hz1 hz2 hib
    go_enter Try.func31, Try.ntmps31
    go_wp2
    go_ret
    exact ⟨rfl, (Below.refl _ _).alloc (Nat.le_refl _) _, by simp, none, NodeC.new _ _ _ _ _ _ _, .inl rfl⟩
  · have hnp : 0 < n := by omega
    go_enter Try.func31, Try.ntmps31
    go_wp2_with (first | (at_make; refine wpList_make_full _ rfl _ _ 57 rfl w.heap.size 65 i0 _ 36 Try.underlying57 hi0 hz0 hz1 _ _ _ _ n rfl rfl rfl rfl hib ?b3 ?b4 ?_) | go_in)
    case b3 => unfold maxLen; omega
    case b4 => simp
    intro w1 hown hgrow
    have hsz : w.heap.size + 1 < w1.heap.size := by
      have := hown.lt _ rfl; simp at this; omega
    have hN := (NodeC.new w 59 (.slice po pl pc) (.int .i64 pn) (.bool hv) (.slice vo vl vc) (.slice none 0 0)).grown hgrow
    have hK := kids_made idx off siz hown
    have hF := hown.frozenAt
    have hfN : w1.frozen? ⟨w.heap.size, 4, none⟩ = false := by
      have e : w1.heap[w.heap.size]? = _ := hgrow.block w.heap.size (by simp) (by simp)
      rw [World.frozen?_of_block (w := w.alloc _) (a := ⟨w.heap.size, 4, none⟩) e]
      simp [go_sem]
    have hbel : Below w.heap.size w w1 := ((Below.refl _ _).alloc (Nat.le_refl _) _).grown hgrow (by simp) (by simp)
    have hN4 := hN.2.2.2.2
    have HN : Hid (NodeC w1 w.heap.size (.slice po pl pc) (.int .i64 pn) (.bool hv) (.slice vo vl vc) (.slice none 0 0)) := hN
    have HK : Hid (Kids w1 (w.heap.size + 1) n 0 idx off siz) := hK
    have HF : Hid (∀ o, w1.frozen? ⟨w.heap.size + 1, o, none⟩ = false) := hF
    clear hown hgrow hN hK hF hi0 hz0 hz1 hz2 hib
    have hl : idx.length = n := hi.1
    have HL : Hid (idx.length = n) := hl
    clear hl
    go_wp2
    go_loopw [35] (fun i wr => ∃ k : Nat, k ≤ n ∧ i = .int .i64 k ∧ Hid (Kids wr (w.heap.size + 1) n k idx off siz) ∧ Hid (∀ o, wr.frozen? ⟨w.heap.size + 1, o, none⟩ = false) ∧
        Hid (NodeC wr w.heap.size (.slice po pl pc) (.int .i64 pn) (.bool hv) (.slice vo vl vc) (.slice (some ⟨w.heap.size + 1, 0, none⟩) n n)) ∧ Below w.heap.size w wr ∧ w.heap.size + 1 < wr.heap.size)
      (fun i _ => n - (intOf i).toNat)
    case atStart =>
      refine ⟨0, Nat.zero_le _, rfl, ?_, ?_, HN.out.set4 _, hbel.setCell (Nat.le_refl _) _, by simpa using hsz⟩
      · intro i hi
        exact rangeAt_setCell_apart (HK.out i hi) _ (by left; omega)
      · intro o
        rw [World.frozen?_setCell]
        exact HF.out o
    case round =>
      clear HN HK HF hbel hsz hN4 hfN
      obtain ⟨k, hk, rfl, HK, HF, HN, hbel, hsz⟩ := hrel
      by_cases hlt : k < n
      · have h4 := HN.out.2.2.2.2
        have hir := hi.below (hbel.mono hB)
        have hfr := hf.below (hbel.mono hB)
        have hsr := hs.below (hbel.mono hB)
        obtain ⟨hli, ⟨_, h0, _⟩ | ⟨bi, oi, rfl, hbi, hci, hcelli⟩⟩ := hir
        · omega
        clear hli
        have hx := hcelli k hlt
        have hM := HK.out.enter
        have hR := hM k hlt
        have HM : Hid (KidsM wr (w.heap.size + 1) n k idx off siz 0 0 0) := hM
        rw [if_neg (Nat.lt_irrefl _), if_pos rfl] at hR
        have hq0 : wr.cell? ⟨w.heap.size + 1, k * 36, none⟩ = some (.int .u8 0) := hR 0 _ rfl
        have hq33 : wr.cell? ⟨w.heap.size + 1, k * 36 + 33, none⟩ = some (.int .u64 0) := hR 33 _ rfl
        have hq34 : wr.cell? ⟨w.heap.size + 1, k * 36 + 34, none⟩ = some (.int .u64 0) := hR 34 _ rfl
        have hg0 := HF.out (k * 36)
        have hg33 := HF.out (k * 36 + 33)
        have hg34 := HF.out (k * 36 + 34)
        have hbiw : bi < w.heap.size := by omega
        have hki : (k : Int) < (n : Int) := by omega
        obtain ⟨x, HX⟩ : ∃ x, Hid (x = idx.getD k 0) := ⟨_, rfl⟩
        obtain ⟨y, HY⟩ : ∃ y, Hid (y = off.getD k 0) := ⟨_, rfl⟩
        obtain ⟨z, HZ⟩ : ∃ z, Hid (z = siz.getD k 0) := ⟨_, rfl⟩
        rw [← HX.out] at hx
        clear hcelli hR hM HK
        by_cases hfl : k < fl
        · by_cases hsl : k < sl
          · skip
            obtain ⟨_, ⟨_, h0, _⟩ | ⟨bf, of, rfl, hbf, hcf, hcellf⟩⟩ := hfr
            · omega
            have hxf := hcellf k hfl
            rw [← HY.out] at hxf
            have hbfw : bf < w.heap.size := by omega
            have hkf : (k : Int) < (fl : Int) := by omega
            clear hcellf
            obtain ⟨_, ⟨_, h0, _⟩ | ⟨bs, os, rfl, hbs, hcs, hcells⟩⟩ := hsr
            · omega
            have hxs := hcells k hsl
            rw [← HZ.out] at hxs
            have hbsw : bs < w.heap.size := by omega
            have hks : (k : Int) < (sl : Int) := by omega
            clear hcells
            go_wp2
            go_region
            go_wp2
            go_region
            go_wp2
            go_region
            go_wp2
            go_roundw
            case rel =>
              refine ⟨k + 1, by omega, by go_num, (show KidsM _ _ n k idx off siz x y z from (((HM.out.store hlt 0 (by omega) _ x 0 0 (chd_set0 _ _ _ _)).drew.store hlt 33 (by omega) _ x y 0 (chd_set33 _ _ _ _)).drew.store hlt 34 (by omega) _ x y z (chd_set34 _ _ _ _)).drew).leave HX.out HY.out HZ.out, ?_, ?_, ?_, ?_⟩
              · intro o
                simp only [World.frozen?_setCell, World.frozen?_drew]
                exact HF.out o
              · refine HN.out.below (B := w.heap.size + 1) (by omega) ?_
                repeat (first | exact Below.refl _ _ | refine Below.drew ?_ | refine Below.setCell ?_ ?_ _ | exact Nat.le_refl _)
              · repeat (first | exact hbel | refine Below.drew ?_ | refine Below.setCell ?_ ?_ _ | exact Nat.le_succ _)
              · simpa using hsz
            case measure => simp [intOf]; omega
          · skip
            obtain ⟨_, ⟨_, h0, _⟩ | ⟨bf, of, rfl, hbf, hcf, hcellf⟩⟩ := hfr
            · omega
            have hxf := hcellf k hfl
            rw [← HY.out] at hxf
            have hbfw : bf < w.heap.size := by omega
            have hkf : (k : Int) < (fl : Int) := by omega
            clear hcellf
            obtain rfl : z = 0 := by rw [HZ.out, List.getD, List.getElem?_eq_none (by rw [hsr.1]; omega)]; rfl
            clear hsr
            go_wp2
            go_region
            go_wp2
            go_region
            go_wp2
            go_roundw
            case rel =>
              refine ⟨k + 1, by omega, by go_num, (show KidsM _ _ n k idx off siz x y 0 from ((HM.out.store hlt 0 (by omega) _ x 0 0 (chd_set0 _ _ _ _)).drew.store hlt 33 (by omega) _ x y 0 (chd_set33 _ _ _ _)).drew).leave HX.out HY.out HZ.out, ?_, ?_, ?_, ?_⟩
              · intro o
                simp only [World.frozen?_setCell, World.frozen?_drew]
                exact HF.out o
              · refine HN.out.below (B := w.heap.size + 1) (by omega) ?_
                repeat (first | exact Below.refl _ _ | refine Below.drew ?_ | refine Below.setCell ?_ ?_ _ | exact Nat.le_refl _)
              · repeat (first | exact hbel | refine Below.drew ?_ | refine Below.setCell ?_ ?_ _ | exact Nat.le_succ _)
              · simpa using hsz
            case measure => simp [intOf]; omega
        · by_cases hsl : k < sl
          · skip
            obtain rfl : y = 0 := by rw [HY.out, List.getD, List.getElem?_eq_none (by rw [hfr.1]; omega)]; rfl
            clear hfr
            obtain ⟨_, ⟨_, h0, _⟩ | ⟨bs, os, rfl, hbs, hcs, hcells⟩⟩ := hsr
            · omega
            have hxs := hcells k hsl
            rw [← HZ.out] at hxs
            have hbsw : bs < w.heap.size := by omega
            have hks : (k : Int) < (sl : Int) := by omega
            clear hcells
            go_wp2
            go_region
            go_wp2
            go_region
            go_wp2
            go_roundw
            case rel =>
              refine ⟨k + 1, by omega, by go_num, (show KidsM _ _ n k idx off siz x 0 z from ((HM.out.store hlt 0 (by omega) _ x 0 0 (chd_set0 _ _ _ _)).drew.store hlt 34 (by omega) _ x 0 z (chd_set34 _ _ _ _)).drew).leave HX.out HY.out HZ.out, ?_, ?_, ?_, ?_⟩
              · intro o
                simp only [World.frozen?_setCell, World.frozen?_drew]
                exact HF.out o
              · refine HN.out.below (B := w.heap.size + 1) (by omega) ?_
                repeat (first | exact Below.refl _ _ | refine Below.drew ?_ | refine Below.setCell ?_ ?_ _ | exact Nat.le_refl _)
              · repeat (first | exact hbel | refine Below.drew ?_ | refine Below.setCell ?_ ?_ _ | exact Nat.le_succ _)
              · simpa using hsz
            case measure => simp [intOf]; omega
          · skip
            obtain rfl : y = 0 := by rw [HY.out, List.getD, List.getElem?_eq_none (by rw [hfr.1]; omega)]; rfl
            clear hfr
            obtain rfl : z = 0 := by rw [HZ.out, List.getD, List.getElem?_eq_none (by rw [hsr.1]; omega)]; rfl
            clear hsr
            go_wp2
            go_region
            go_wp2
            go_roundw
            case rel =>
              refine ⟨k + 1, by omega, by go_num, (show KidsM _ _ n k idx off siz x 0 0 from (HM.out.store hlt 0 (by omega) _ x 0 0 (chd_set0 _ _ _ _)).drew).leave HX.out HY.out HZ.out, ?_, ?_, ?_, ?_⟩
              · intro o
                simp only [World.frozen?_setCell, World.frozen?_drew]
                exact HF.out o
              · refine HN.out.below (B := w.heap.size + 1) (by omega) ?_
                repeat (first | exact Below.refl _ _ | refine Below.drew ?_ | refine Below.setCell ?_ ?_ _ | exact Nat.le_refl _)
              · repeat (first | exact hbel | refine Below.drew ?_ | refine Below.setCell ?_ ?_ _ | exact Nat.le_succ _)
              · simpa using hsz
            case measure => simp [intOf]; omega
      · have hkn : k = n := by omega
        subst hkn
        go_wp2
        go_ret
        refine ⟨rfl, hbel, by omega, _, ?_, .inr ⟨_, rfl, by omega, ?_⟩⟩
        · rw [HL.out]; exact HN.out
        · rw [HL.out]; exact HK.out
end Go.Proofs.Qxb6003418a
