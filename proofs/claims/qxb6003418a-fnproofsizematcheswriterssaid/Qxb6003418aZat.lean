/-
  ZZAppendTokens; cuts of slices; plain facts on tokens.
-/
import Derived.Test.Qxb6003418aAtok
import Derived.Test.Qxb6003418aRuv
import Derived.Test.Qxb6003418aPaths
namespace Go.Proofs.Qxb6003418a
open Go.RowKit
set_option linter.unusedVariables false

theorem Sl.up {k w w' ao n cap zs} (h : Sl w.heap.size k w ao n cap zs) (hb : Below w.heap.size w w') : Sl w'.heap.size k w' ao n cap zs := (h.below hb).mono hb.size

theorem Sl.head {B k w b o n cap} {xs ys : List Int} (h : Sl B k w (some ⟨b, o, none⟩) n cap (xs ++ ys)) (m : Nat) (hm : xs.length = m) : Sl B k w (some ⟨b, o, none⟩) m cap xs := by
  obtain ⟨hl, ⟨h, _⟩ | ⟨b', o', h, h2, h3, h4⟩⟩ := h
  · cases h
  · simp at h
    obtain ⟨rfl, rfl⟩ := h
    simp at hl
    refine ⟨hm, .inr ⟨b, o, rfl, h2, by omega, fun i hi => ?_⟩⟩
    rw [h4 i (by omega)]
    rw [List.getD, List.getElem?_append_left (by omega), List.getD]

theorem Sl.rest {B k w b o n cap} {xs ys : List Int} (h : Sl B k w (some ⟨b, o, none⟩) n cap (xs ++ ys)) (m : Nat) (hm : xs.length = m) : Sl B k w (some ⟨b, o + m, none⟩) (n - m) (cap - m) ys := by
  obtain ⟨hl, ⟨h, _⟩ | ⟨b', o', h, h2, h3, h4⟩⟩ := h
  · cases h
  · simp at h
    obtain ⟨rfl, rfl⟩ := h
    simp at hl
    refine ⟨by omega, .inr ⟨b, o + m, rfl, h2, by omega, fun i hi => ?_⟩⟩
    rw [Nat.add_assoc, h4 (m + i) (by omega)]
    rw [List.getD, List.getElem?_append_right (by omega), List.getD]
    rw [show m + i - xs.length = i by omega]

theorem bytes_tokB {ps : List Int} (h : Bytes ps) (pn : Nat) : Bytes (tokB ps pn) := by
  intro j
  have ht : ∀ j, 0 ≤ (ps.take ((pn + 1) / 2)).getD j 0 ∧ (ps.take ((pn + 1) / 2)).getD j 0 ≤ 255 := by
    intro j
    rw [List.getD, List.getElem?_take]
    split
    · have := h j; rw [List.getD] at this; exact this
    · simp
  unfold tokB
  split
  · rw [List.getD, List.getElem?_set]
    split
    · split
      · have := h ((pn + 1) / 2 - 1); simp only [Option.getD_some]; omega
      · simp
    · have := ht j; rw [List.getD] at this; exact this
  · exact ht j

theorem tokB_getD (ps : List Int) (pn : Nat) (hl : (pn + 1) / 2 ≤ ps.length) (j : Nat) (hj : j < (pn + 1) / 2) : (tokB ps pn).getD j 0 = if pn % 2 = 1 ∧ j = (pn + 1) / 2 - 1 then ps.getD j 0 / 16 * 16 else ps.getD j 0 := by
  unfold tokB
  by_cases h : pn % 2 = 1
  · rw [if_pos h, List.getD, List.getElem?_set]
    by_cases e : (pn + 1) / 2 - 1 = j
    · rw [if_pos e, if_pos (by simp; omega), if_pos ⟨h, e.symm⟩, e]; rfl
    · rw [if_neg e, if_neg (by omega), List.getElem?_take, if_pos hj, List.getD]
  · rw [if_neg h, if_neg (by omega), List.getD, List.getElem?_take, if_pos hj, List.getD]

theorem tok_tokB {ps : List Int} (h : Bytes ps) (pn : Nat) (hl : (pn + 1) / 2 ≤ ps.length) (i : Nat) (hi : i < pn) : tokI (tokB ps pn) i = tokI ps i := by
  have hb := h (i / 2)
  unfold tokI
  rw [tokB_getD ps pn hl (i / 2) (by omega)]
  by_cases e : pn % 2 = 1 ∧ i / 2 = (pn + 1) / 2 - 1
  · rw [if_pos e, if_pos (by omega), if_pos (by omega)]; omega
  · rw [if_neg e]

/-- Two paths whose bytes agree but for the pad. -/
theorem tokB_congr (ps qs : List Int) (pn : Nat) (hp : (pn + 1) / 2 ≤ ps.length) (hq : (pn + 1) / 2 ≤ qs.length)
    (h : ∀ j, j < (pn + 1) / 2 → (if pn % 2 = 1 ∧ j = (pn + 1) / 2 - 1 then ps.getD j 0 / 16 = qs.getD j 0 / 16 else ps.getD j 0 = qs.getD j 0)) : tokB ps pn = tokB qs pn := by
  have e1 := tokB_len ps pn hp
  have e2 := tokB_len qs pn hq
  apply List.ext_getElem?
  intro j
  by_cases hj : j < (pn + 1) / 2
  · have a1 : (tokB ps pn)[j]? = some ((tokB ps pn).getD j 0) := by rw [List.getD, List.getElem?_eq_getElem (by omega)]; rfl
    have a2 : (tokB qs pn)[j]? = some ((tokB qs pn).getD j 0) := by rw [List.getD, List.getElem?_eq_getElem (by omega)]; rfl
    rw [a1, a2, tokB_getD ps pn hp j hj, tokB_getD qs pn hq j hj]
    have := h j hj
    by_cases e : pn % 2 = 1 ∧ j = (pn + 1) / 2 - 1
    · rw [if_pos e] at this ⊢; rw [if_pos e, this]
    · rw [if_neg e] at this ⊢; rw [if_neg e, this]
  · rw [List.getElem?_eq_none (by omega), List.getElem?_eq_none (by omega)]

set_option maxHeartbeats 1000000 in
theorem zzAppendTokens_any (ao po : Option Addr) (m pl pc : Nat) (zs ps : List Int) (pn : Nat) (w : World) (ha : Sl w.heap.size .u8 w ao m m zs) (hp : Sl w.heap.size .u8 w po pl pc ps) (hyp : Bytes ps)
    (hm : m ≤ 1048576) (hpl : pl ≤ 1048600) (hpn : pn ≤ 2 * pl) :
    Calls Try.prog 24 #[.slice ao m m, .agg #[.slice po pl pc, .int .i64 pn]] w fun e w' =>
      ∃ g cap L, e = .returned (.slice (some ⟨g, 0, none⟩) L cap) ∧ Hid (L = (zs ++ (uvbF 9 (4 * pn) ++ tokB ps pn)).length) ∧ Sl w'.heap.size .u8 w' (some ⟨g, 0, none⟩) L cap (zs ++ (uvbF 9 (4 * pn) ++ tokB ps pn)) ∧ Below w.heap.size w w' := by
  go_enter Try.func24, Try.ntmps24
  go_wp2_with fail
  have hb1 : Below w.heap.size w (w.alloc (.cells #[.slice po pl pc, .int .i64 pn] 26)) := (Below.refl _ _).alloc (Nat.le_refl _) _
  refine (appendTokens_any ao po m pl pc zs ps pn _ (ha.up hb1) (hp.up hb1) hyp hm hpl hpn).mono ?_
  obtain ⟨L, HL⟩ : ∃ L, Hid (L = (zs ++ (uvbF 9 (4 * pn) ++ tokB ps pn)).length) := ⟨_, rfl⟩
  rw [← HL.out]
  rintro e w1 ⟨g, cap, rfl, ho, hb2⟩
  have HO : Hid (Sl w1.heap.size .u8 w1 (some ⟨g, 0, none⟩) L cap (zs ++ (uvbF 9 (4 * pn) ++ tokB ps pn))) := own_Sl ho
  clear ho
  go_wp2
  go_ret
  exact ⟨g, cap, L, rfl, HL, HO.out, hb1.trans (hb2.mono hb1.size)⟩

set_option maxHeartbeats 400000 in
theorem zz23_ok (a0 a2 : Option Addr) (n c m d : Nat) (i j : Int) (w : World) (h : n + m ≤ 1048576) :
    Calls Try.prog 23 #[.slice a0 n c, .slice a2 m d, .int .i64 i, .int .u8 j] w fun e w' => e = .returned (.bool true) ∧ w = w' := by
  go_enter Try.func23, Try.ntmps23
  go_wp2
  go_ret
  exact ⟨rfl, rfl⟩

set_option maxHeartbeats 400000 in
theorem zz23_no (a0 a2 : Option Addr) (n c m d : Nat) (i j : Int) (w : World) (hn : n ≤ 9223372036854775807) (hm : m ≤ 9223372036854775807) (h : ¬ n + m ≤ 1048576) :
    Calls Try.prog 23 #[.slice a0 n c, .slice a2 m d, .int .i64 i, .int .u8 j] w fun e w' => e = .returned (.bool false) ∧ w = w' := by
  go_enter Try.func23, Try.ntmps23
  go_wp2
  all_goals (go_ret; exact ⟨rfl, rfl⟩)
end Go.Proofs.Qxb6003418a
