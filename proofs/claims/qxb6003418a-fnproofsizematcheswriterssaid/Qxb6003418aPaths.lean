/-
  The walks of eqBytes, commonPrefix, comparePaths, tokenOrder.
-/
import Derived.Test.Qxb6003418aBase
namespace Go.Proofs.Qxb6003418a
open Go.RowKit
set_option linter.unusedVariables false

set_option maxHeartbeats 400000 in
theorem eqBytes_same (B B' : Nat) (ao bo : Option Addr) (n ca cb : Nat) (zs : List Int) (w : World) (h1 : Sl B .u8 w ao n ca zs) (h2 : Sl B' .u8 w bo n cb zs) (hB : B ≤ w.heap.size) (hB' : B' ≤ w.heap.size) (hn : n ≤ 1048576 * 4) :
    Calls Try.prog 17 #[.slice ao n ca, .slice bo n cb] w fun e w' => e = .returned (.bool true) ∧ Below w.heap.size w w' := by
  have hne : ((n : Int) != (n : Int)) = false := by simp
  obtain ⟨hl, h1⟩ := h1
  obtain ⟨_, h2⟩ := h2
  have HL : Hid (zs.length = n) := hl
  clear hl
  go_enter Try.func17, Try.ntmps17
  go_wp2
  go_loopw [5] (fun i wr => ∃ k : Nat, k ≤ n ∧ i = .int .i64 k ∧ Below w.heap.size w wr) (fun i _ => n - (intOf i).toNat)
  case atStart => exact ⟨0, Nat.zero_le _, rfl, Below.refl _ _⟩
  case round =>
    obtain ⟨k, hk, rfl, hbel⟩ := hrel
    by_cases hlt : k < n
    · obtain ⟨_, h0, _⟩ | ⟨b, o, rfl, hb, hc, hcell⟩ := h1
      · omega
      obtain ⟨_, h0, _⟩ | ⟨b', o', rfl, hb', hc', hcell'⟩ := h2
      · omega
      have hx1 : wr.cell? ⟨b, o + k, none⟩ = some (.int .u8 (zs.getD k 0)) := (hbel.cell (p := ⟨b, o + k, none⟩) (by show b < _; omega)).trans (hcell k hlt)
      have hx2 : wr.cell? ⟨b', o' + k, none⟩ = some (.int .u8 (zs.getD k 0)) := (hbel.cell (p := ⟨b', o' + k, none⟩) (by show b' < _; omega)).trans (hcell' k hlt)
      generalize zs.getD k 0 = z at *
      have hnz : (z != z) = false := by simp
      clear hcell hcell'
      have hki : (k : Int) < (n : Int) := by omega
      go_wp2
      go_quiet (fail)
      go_wp2
      go_roundw
      case rel => exact ⟨k + 1, by omega, by go_num, by first | exact hbel.drew | exact below_drewN hbel _⟩
      case measure => simp [intOf]; omega
    · go_wp2
      go_ret
      exact ⟨rfl, hbel⟩

/-- t is the number of tokens, of the first m, that f and g begin with alike. -/
def CP (f g : Nat → Int) (m t : Nat) : Prop := t ≤ m ∧ (∀ i, i < t → f i = g i) ∧ (t < m → f t ≠ g t)

theorem CP.uniq {f g : Nat → Int} {m t u : Nat} (h : CP f g m t) (k : CP f g m u) : t = u := by
  obtain ⟨h1, h2, h3⟩ := h
  obtain ⟨k1, k2, k3⟩ := k
  rcases Nat.lt_trichotomy t u with h | h | h
  · exact absurd (k2 t h) (h3 (by omega))
  · exact h
  · exact absurd (h2 u h) (k3 (by omega))

theorem tok_alike {xs ys : List Int} {k : Nat} (h : ∀ j, j < k → xs.getD j 0 = ys.getD j 0) (i : Nat) (hi : i < 2 * k) : tokI xs i = tokI ys i := by
  unfold tokI
  rw [h (i / 2) (by omega)]

/-- The head of the last pair of tokens parts: so does the prefix. -/
theorem cp_part {xs ys : List Int} {k m : Nat} (h : ∀ j, j < k → xs.getD j 0 = ys.getD j 0) (hk : 2 * k < m) (ht : tokI xs (2 * k) ≠ tokI ys (2 * k)) : CP (tokI xs) (tokI ys) m (2 * k) :=
  ⟨by omega, fun i hi => tok_alike h i hi, fun _ => ht⟩

theorem cp_next {xs ys : List Int} {k m : Nat} (h : ∀ j, j < k → xs.getD j 0 = ys.getD j 0) (hk : 2 * k < m) (ht : tokI xs (2 * k) = tokI ys (2 * k)) (hx : 2 * k + 1 < m → xs.getD k 0 ≠ ys.getD k 0) : CP (tokI xs) (tokI ys) m (2 * k + 1) := by
  refine ⟨by omega, fun i hi => ?_, fun hm e => hx hm ?_⟩
  · by_cases hi' : i = 2 * k
    · rw [hi']; exact ht
    · exact tok_alike h i (by omega)
  · unfold tokI at ht e
    have e1 : 2 * k / 2 = k := by omega
    have e2 : (2 * k + 1) / 2 = k := by omega
    rw [if_pos (by omega), if_pos (by omega), e1] at ht
    rw [if_neg (by omega), if_neg (by omega), e2] at e
    omega

theorem cp_all {xs ys : List Int} {k m : Nat} (h : ∀ j, j < k → xs.getD j 0 = ys.getD j 0) (hk : 2 * k = m) : CP (tokI xs) (tokI ys) m (2 * k) :=
  ⟨by omega, fun i hi => tok_alike h i hi, fun hm => by omega⟩

theorem ret_int {k : IntKind} {a b : Int} (h : a = b) : Ending.returned (.int k a) = .returned (.int k b) := by rw [h]

theorem two_toNat (k : Nat) : (2 * (k : Int)).toNat = 2 * k := by omega

set_option maxHeartbeats 1000000 in
theorem commonPrefix_core (B : Nat) (ao bo : Option Addr) (na ca nb cb : Nat) (xs ys : List Int) (an bn : Int) (m : Nat) (w : World) (ha : Sl B .u8 w ao na ca xs) (hb : Sl B .u8 w bo nb cb ys) (hB : B ≤ w.heap.size)
    (hya : Bytes xs) (hyb : Bytes ys) (hna : na ≤ 1048576) (hnb : nb ≤ 1048576) (hm : (if bn < an then bn else an) = (m : Int)) (hma : m ≤ 2 * na) (hmb : m ≤ 2 * nb) :
    Calls Try.prog 47 #[.agg #[.slice ao na ca, .int .i64 an], .agg #[.slice bo nb cb, .int .i64 bn]] w fun e w' =>
      ∃ t : Nat, e = .returned (.int .i64 t) ∧ CP (tokI xs) (tokI ys) m t ∧ Below w.heap.size w w' := by
  obtain ⟨w2, hw2⟩ : ∃ w2, w2 = (w.alloc (.cells #[.slice ao na ca, .int .i64 an] 26)).alloc (.cells #[.slice bo nb cb, .int .i64 bn] 26) := ⟨_, rfl⟩
  have hb2 : Below w.heap.size w w2 := by rw [hw2]; exact ((Below.refl _ _).alloc (Nat.le_refl _) _).alloc (by simp) _
  have hs2 : w2.heap.size = w.heap.size + 2 := by rw [hw2]; simp
  have hA0 : w2.cell? ⟨w.heap.size, 0, none⟩ = some (.slice ao na ca) := by rw [hw2]; simp [go_sem]
  have hA1 : w2.cell? ⟨w.heap.size, 1, none⟩ = some (.int .i64 an) := by rw [hw2]; simp [go_sem]
  have hC0 : w2.cell? ⟨w.heap.size + 1, 0, none⟩ = some (.slice bo nb cb) := by rw [hw2]; simp [go_sem]
  have hC1 : w2.cell? ⟨w.heap.size + 1, 1, none⟩ = some (.int .i64 bn) := by rw [hw2]; simp [go_sem]
  have HW2 : Hid (w2 = (w.alloc (.cells #[.slice ao na ca, .int .i64 an] 26)).alloc (.cells #[.slice bo nb cb, .int .i64 bn] 26)) := hw2
  clear hw2
  go_enter Try.func47, Try.ntmps47
  go_wp2
  rw [← HW2.out]
  go_loopw [6] (fun i wr => ∃ k : Nat, 2 * k ≤ m ∧ i = .int .i64 k ∧ Hid (∀ j, j < k → xs.getD j 0 = ys.getD j 0) ∧ Below (w.heap.size + 2) w2 wr)
    (fun i _ => m - (intOf i).toNat)
  case atStart => exact ⟨0, Nat.zero_le _, rfl, fun j hj => absurd hj (Nat.not_lt_zero _), Below.refl _ _⟩
  case round =>
    obtain ⟨k, hk, rfl, heq, hbel⟩ := hrel
    have h1 : wr.cell? ⟨w.heap.size, 0, none⟩ = some (.slice ao na ca) := (hbel.cell (p := ⟨w.heap.size, 0, none⟩) (by simp)).trans hA0
    have h1' : wr.cell? ⟨w.heap.size, 1, none⟩ = some (.int .i64 an) := (hbel.cell (p := ⟨w.heap.size, 1, none⟩) (by simp)).trans hA1
    have h2 : wr.cell? ⟨w.heap.size + 1, 0, none⟩ = some (.slice bo nb cb) := (hbel.cell (p := ⟨w.heap.size + 1, 0, none⟩) (by simp)).trans hC0
    have h2' : wr.cell? ⟨w.heap.size + 1, 1, none⟩ = some (.int .i64 bn) := (hbel.cell (p := ⟨w.heap.size + 1, 1, none⟩) (by simp)).trans hC1
    have hsr := hbel.size
    rw [hs2] at hsr
    have hsr0 : w.heap.size < wr.heap.size := by omega
    have hsr1 : w.heap.size + 1 < wr.heap.size := by omega
    have har : Sl B .u8 wr ao na ca xs := (ha.below (hb2.mono hB)).below (hbel.mono (by omega))
    have hbr : Sl B .u8 wr bo nb cb ys := (hb.below (hb2.mono hB)).below (hbel.mono (by omega))
    clear hA0 hA1 hC0 hC1
    by_cases hlt : k < m / 2
    · have har2 := har
      have hbr2 := hbr
      obtain ⟨hla, ⟨_, h0, _⟩ | ⟨b, o, rfl, hbb, hc, hcell⟩⟩ := har2
      · omega
      obtain ⟨hlb, ⟨_, h0, _⟩ | ⟨b', o', rfl, hbb', hc', hcell'⟩⟩ := hbr2
      · omega
      have hx1 := hcell k (by omega)
      have hx2 := hcell' k (by omega)
      obtain ⟨x, hx⟩ : ∃ x, x = xs.getD k 0 := ⟨_, rfl⟩
      obtain ⟨y, hy⟩ : ∃ y, y = ys.getD k 0 := ⟨_, rfl⟩
      rw [← hx] at hx1
      rw [← hy] at hx2
      have HX : Hid (x = xs.getD k 0) := hx
      have HY : Hid (y = ys.getD k 0) := hy
      clear hx hy hcell hcell' hla hlb
      have hki : (k : Int) < (m : Int) / 2 := by omega
      have hka : (k : Int) < (na : Int) := by omega
      have hkb : (k : Int) < (nb : Int) := by omega
      by_cases hxy : x = y
      · subst hxy
        have hbb : (x == x) = true := by simp
        go_wp2
        go_quiet (fail)
        go_wp2
        go_roundw
        case rel => exact ⟨k + 1, by omega, by go_num, fun j hj => (by
          by_cases h : j = k
          · subst h; exact HX.out.symm.trans HY.out
          · exact heq.out j (by omega)), by first | exact hbel.drew | exact below_drewN hbel _⟩
        case measure => simp [intOf]; omega
      · have hbb : (x == y) = false := by simp [hxy]
        have hxy2 : xs.getD k 0 ≠ ys.getD k 0 := by rw [← HX.out, ← HY.out]; exact hxy
        go_wp2
        go_quiet (fail)
        go_wp2
        have hgd : 2 * (k : Int) < (m : Int) := by omega
        have g0 : ∀ q O, ((wr.drewN q).alloc O).cell? ⟨w.heap.size, 0, none⟩ = some (.slice (some ⟨b, o, none⟩) na ca) := fun q O => (World.cell?_alloc_past (w := wr.drewN q) O _ _ hsr0).trans h1
        have g1 : ∀ q O, ((wr.drewN q).alloc O).cell? ⟨w.heap.size, 1, none⟩ = some (.int .i64 an) := fun q O => (World.cell?_alloc_past (w := wr.drewN q) O _ _ hsr0).trans h1'
        have g2 : ∀ q O, ((wr.drewN q).alloc O).cell? ⟨w.heap.size + 1, 0, none⟩ = some (.slice (some ⟨b', o', none⟩) nb cb) := fun q O => (World.cell?_alloc_past (w := wr.drewN q) O _ _ hsr1).trans h2
        have g3 : ∀ q O, ((wr.drewN q).alloc O).cell? ⟨w.heap.size + 1, 1, none⟩ = some (.int .i64 bn) := fun q O => (World.cell?_alloc_past (w := wr.drewN q) O _ _ hsr1).trans h2'
        have HC1 : Hid (tokI xs (2 * k) = tokI ys (2 * k) → CP (tokI xs) (tokI ys) m (2 * k + 1)) := fun ht => cp_next heq.out (by omega) ht (fun _ => hxy2)
        have HC2 : Hid (tokI xs (2 * k) ≠ tokI ys (2 * k) → CP (tokI xs) (tokI ys) m (2 * k)) := fun ht => cp_part heq.out (by omega) ht
        have hbw : Below w.heap.size w wr := hb2.trans (hbel.mono (by omega))
        go_region_with (first
          | (go_at_call_of 46 (Value.slice (some ⟨b, o, none⟩) na ca); refine (at_any B _ _ _ xs _ _ _ ?_ ?_ hya ?_ ?_ hna).mono ?_; (focus (repeat (first | exact har | refine Sl.drew ?_ | refine Sl.drewN ?_ _ | refine Sl.alloc ?_ ?_ _ | (simp; omega)))); (focus (simp; omega)); (focus omega); (focus omega); rw [two_toNat]; rintro e w' ⟨rfl, rfl⟩)
          | (go_at_call_of 46 (Value.slice (some ⟨b', o', none⟩) nb cb); refine (at_any B _ _ _ ys _ _ _ ?_ ?_ hyb ?_ ?_ hnb).mono ?_; (focus (repeat (first | exact hbr | refine Sl.drew ?_ | refine Sl.drewN ?_ _ | refine Sl.alloc ?_ ?_ _ | (simp; omega)))); (focus (simp; omega)); (focus omega); (focus omega); rw [two_toNat]; rintro e w' ⟨rfl, rfl⟩))
        all_goals go_wp2
        all_goals go_ret
        all_goals first
          | (have e : (tokI xs (2 * k) == tokI ys (2 * k)) = true := by assumption
             refine ⟨2 * k + 1, ret_int (by omega), HC1.out (by simpa using e), ?_⟩)
          | (have e : (tokI xs (2 * k) == tokI ys (2 * k)) = false := by assumption
             refine ⟨2 * k, ret_int (by omega), HC2.out (by simpa using e), ?_⟩)
        all_goals (repeat (first | exact hbw | refine Below.alloc ?_ ?_ _ | refine below_drewN ?_ _ | refine Below.drew ?_ | (simp; omega)))
    · have hgk : decide ((k : Int) < (m : Int) / 2) = false := by simp; omega
      by_cases hodd : 2 * k < m
      · go_wp2
        go_quiet (fail)
        go_wp2
        have hgd : 2 * (k : Int) < (m : Int) := by omega
        have g0 : ∀ q O, ((wr.drewN q).alloc O).cell? ⟨w.heap.size, 0, none⟩ = some (.slice ao na ca) := fun q O => (World.cell?_alloc_past (w := wr.drewN q) O _ _ hsr0).trans h1
        have g1 : ∀ q O, ((wr.drewN q).alloc O).cell? ⟨w.heap.size, 1, none⟩ = some (.int .i64 an) := fun q O => (World.cell?_alloc_past (w := wr.drewN q) O _ _ hsr0).trans h1'
        have g2 : ∀ q O, ((wr.drewN q).alloc O).cell? ⟨w.heap.size + 1, 0, none⟩ = some (.slice bo nb cb) := fun q O => (World.cell?_alloc_past (w := wr.drewN q) O _ _ hsr1).trans h2
        have g3 : ∀ q O, ((wr.drewN q).alloc O).cell? ⟨w.heap.size + 1, 1, none⟩ = some (.int .i64 bn) := fun q O => (World.cell?_alloc_past (w := wr.drewN q) O _ _ hsr1).trans h2'
        have HC1 : Hid (tokI xs (2 * k) = tokI ys (2 * k) → CP (tokI xs) (tokI ys) m (2 * k + 1)) := fun ht => cp_next heq.out (by omega) ht (fun h => by omega)
        have HC2 : Hid (tokI xs (2 * k) ≠ tokI ys (2 * k) → CP (tokI xs) (tokI ys) m (2 * k)) := fun ht => cp_part heq.out (by omega) ht
        have hbw : Below w.heap.size w wr := hb2.trans (hbel.mono (by omega))
        go_region_with (first
          | (go_at_call_of 46 (Value.slice ao na ca); refine (at_any B _ _ _ xs _ _ _ ?_ ?_ hya ?_ ?_ hna).mono ?_; (focus (repeat (first | exact har | refine Sl.drew ?_ | refine Sl.drewN ?_ _ | refine Sl.alloc ?_ ?_ _ | (simp; omega)))); (focus (simp; omega)); (focus omega); (focus omega); rw [two_toNat]; rintro e w' ⟨rfl, rfl⟩)
          | (go_at_call_of 46 (Value.slice bo nb cb); refine (at_any B _ _ _ ys _ _ _ ?_ ?_ hyb ?_ ?_ hnb).mono ?_; (focus (repeat (first | exact hbr | refine Sl.drew ?_ | refine Sl.drewN ?_ _ | refine Sl.alloc ?_ ?_ _ | (simp; omega)))); (focus (simp; omega)); (focus omega); (focus omega); rw [two_toNat]; rintro e w' ⟨rfl, rfl⟩))
        all_goals go_wp2
        all_goals go_ret
        all_goals first
          | (have e : (tokI xs (2 * k) == tokI ys (2 * k)) = true := by assumption
             refine ⟨2 * k + 1, ret_int (by omega), HC1.out (by simpa using e), ?_⟩)
          | (have e : (tokI xs (2 * k) == tokI ys (2 * k)) = false := by assumption
             refine ⟨2 * k, ret_int (by omega), HC2.out (by simpa using e), ?_⟩)
        all_goals (repeat (first | exact hbw | refine Below.alloc ?_ ?_ _ | refine below_drewN ?_ _ | refine Below.drew ?_ | (simp; omega)))
      · have hgd : decide (2 * (k : Int) < (m : Int)) = false := by simp; omega
        have HC : Hid (CP (tokI xs) (tokI ys) m (2 * k)) := cp_all heq.out (by omega)
        have hbw : Below w.heap.size w wr := hb2.trans (hbel.mono (by omega))
        go_wp2
        go_quiet (fail)
        go_wp2
        go_quiet (fail)
        go_wp2
        go_ret
        exact ⟨2 * k, ret_int (by omega), HC.out, below_drewN (below_drewN hbw _) _⟩

theorem commonPrefix_any (B : Nat) (ao bo : Option Addr) (na ca nb cb : Nat) (xs ys : List Int) (an bn : Int) (w : World) (ha : Sl B .u8 w ao na ca xs) (hb : Sl B .u8 w bo nb cb ys) (hB : B ≤ w.heap.size)
    (hya : Bytes xs) (hyb : Bytes ys) (ha0 : 0 ≤ an) (ha1 : an ≤ 2 * na) (hb0 : 0 ≤ bn) (hb1 : bn ≤ 2 * nb) (hna : na ≤ 1048576) (hnb : nb ≤ 1048576) :
    Calls Try.prog 47 #[.agg #[.slice ao na ca, .int .i64 an], .agg #[.slice bo nb cb, .int .i64 bn]] w fun e w' =>
      ∃ t : Nat, e = .returned (.int .i64 t) ∧ CP (tokI xs) (tokI ys) (min an.toNat bn.toNat) t ∧ Below w.heap.size w w' :=
  commonPrefix_core B ao bo na ca nb cb xs ys an bn (min an.toNat bn.toNat) w ha hb hB hya hyb hna hnb (by split <;> omega) (by omega) (by omega)
end Go.Proofs.Qxb6003418a
