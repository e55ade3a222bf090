/-
  The walks of comparePaths, ZZComparePaths, tokenOrder.
-/
import Derived.Test.Qxb6003418aPaths
namespace Go.Proofs.Qxb6003418a
open Go.RowKit
set_option linter.unusedVariables false

/-- What comparePaths answers, t the tokens that are alike. -/
def cmpV (xs ys : List Int) (an bn : Int) (t : Nat) : Int := if (t : Int) < an ∧ (t : Int) < bn then tokI xs t - tokI ys t else an - bn

theorem tokI_bd {xs : List Int} (h : Bytes xs) (i : Nat) : 0 ≤ tokI xs i ∧ tokI xs i ≤ 15 := by
  have := h (i / 2)
  unfold tokI
  split <;> omega

theorem wrap_sub15 (a b : Int) (ha : 0 ≤ a ∧ a ≤ 15) (hb : 0 ≤ b ∧ b ≤ 15) : IntKind.i64.wrap (IntKind.i64.wrap a - IntKind.i64.wrap b) = a - b := by
  simp (disch := omega) only [IntWalk.i64_in]

theorem cells2_new (w : World) (a b c d : Value) :
    ((w.alloc (.cells #[a, b] 26)).alloc (.cells #[c, d] 26)).cell? ⟨w.heap.size, 0, none⟩ = some a ∧ ((w.alloc (.cells #[a, b] 26)).alloc (.cells #[c, d] 26)).cell? ⟨w.heap.size, 1, none⟩ = some b ∧
    ((w.alloc (.cells #[a, b] 26)).alloc (.cells #[c, d] 26)).cell? ⟨w.heap.size + 1, 0, none⟩ = some c ∧ ((w.alloc (.cells #[a, b] 26)).alloc (.cells #[c, d] 26)).cell? ⟨w.heap.size + 1, 1, none⟩ = some d := by
  refine ⟨?_, ?_, ?_, ?_⟩ <;> simp [go_sem]

set_option maxHeartbeats 1000000 in
theorem comparePaths_any (B : Nat) (ao bo : Option Addr) (na ca nb cb : Nat) (xs ys : List Int) (an bn : Int) (w : World) (ha : Sl B .u8 w ao na ca xs) (hb : Sl B .u8 w bo nb cb ys) (hB : B ≤ w.heap.size)
    (hya : Bytes xs) (hyb : Bytes ys) (ha0 : 0 ≤ an) (ha1 : an ≤ 2 * na) (hb0 : 0 ≤ bn) (hb1 : bn ≤ 2 * nb) (hna : na ≤ 1048576) (hnb : nb ≤ 1048576) :
    Calls Try.prog 39 #[.agg #[.slice ao na ca, .int .i64 an], .agg #[.slice bo nb cb, .int .i64 bn]] w fun e w' =>
      ∃ t : Nat, e = .returned (.int .i64 (cmpV xs ys an bn t)) ∧ CP (tokI xs) (tokI ys) (min an.toNat bn.toNat) t ∧ Below w.heap.size w w' := by
  obtain ⟨w2, hw2⟩ : ∃ w2, w2 = (w.alloc (.cells #[.slice ao na ca, .int .i64 an] 26)).alloc (.cells #[.slice bo nb cb, .int .i64 bn] 26) := ⟨_, rfl⟩
  have hb2 : Below w.heap.size w w2 := by rw [hw2]; exact ((Below.refl _ _).alloc (Nat.le_refl _) _).alloc (by simp) _
  have hs2 : w2.heap.size = w.heap.size + 2 := by rw [hw2]; simp
  have hcs := cells2_new w (.slice ao na ca) (.int .i64 an) (.slice bo nb cb) (.int .i64 bn)
  rw [← hw2] at hcs
  obtain ⟨hA0, hA1, hC0, hC1⟩ := hcs
  have HW2 : Hid (w2 = (w.alloc (.cells #[.slice ao na ca, .int .i64 an] 26)).alloc (.cells #[.slice bo nb cb, .int .i64 bn] 26)) := hw2
  clear hw2
  have ha2 := ha.below (hb2.mono hB)
  have hb2' := hb.below (hb2.mono hB)
  go_enter Try.func39, Try.ntmps39
  go_wp2_with fail
  rw [← HW2.out]
  refine (commonPrefix_any B ao bo na ca nb cb xs ys an bn w2 ha2 hb2' (by omega) hya hyb ha0 ha1 hb0 hb1 hna hnb).mono ?_
  rintro e w3 ⟨t, rfl, hcp, hb3⟩
  have h1 : w3.cell? ⟨w.heap.size, 0, none⟩ = some (.slice ao na ca) := (hb3.cell (p := ⟨w.heap.size, 0, none⟩) (by show _ < _; rw [hs2]; simp)).trans hA0
  have h1' : w3.cell? ⟨w.heap.size, 1, none⟩ = some (.int .i64 an) := (hb3.cell (p := ⟨w.heap.size, 1, none⟩) (by show _ < _; rw [hs2]; simp)).trans hA1
  have h2 : w3.cell? ⟨w.heap.size + 1, 0, none⟩ = some (.slice bo nb cb) := (hb3.cell (p := ⟨w.heap.size + 1, 0, none⟩) (by show _ < _; rw [hs2]; simp)).trans hC0
  have h2' : w3.cell? ⟨w.heap.size + 1, 1, none⟩ = some (.int .i64 bn) := (hb3.cell (p := ⟨w.heap.size + 1, 1, none⟩) (by show _ < _; rw [hs2]; simp)).trans hC1
  have hsr := hb3.size
  rw [hs2] at hsr
  have hsr0 : w.heap.size < w3.heap.size := by omega
  have hsr1 : w.heap.size + 1 < w3.heap.size := by omega
  have hbw : Below w.heap.size w w3 := hb2.trans (hb3.mono (by omega))
  have har : Sl B .u8 w3 ao na ca xs := ha2.below (hb3.mono (by omega))
  have hbr : Sl B .u8 w3 bo nb cb ys := hb2'.below (hb3.mono (by omega))
  have HCP : Hid (CP (tokI xs) (tokI ys) (min an.toNat bn.toNat) t) := hcp
  have htm := hcp.1
  have HS2 : Hid (w2.heap.size = w.heap.size + 2) := hs2
  clear hcp hA0 hA1 hC0 hC1 ha2 hb2' hs2 hb2 hb3
  by_cases ht : (t : Int) < an ∧ (t : Int) < bn
  · have HV : Hid (cmpV xs ys an bn t = tokI xs t - tokI ys t) := by unfold cmpV; rw [if_pos ht]; rfl
    obtain ⟨ht1, ht2⟩ := ht
    have gx := tokI_bd hya t
    have gy := tokI_bd hyb t
    have g0 : ∀ q O, ((w3.drewN q).alloc O).cell? ⟨w.heap.size, 0, none⟩ = some (.slice ao na ca) := fun q O => (World.cell?_alloc_past (w := w3.drewN q) O _ _ hsr0).trans h1
    have g1 : ∀ q O, ((w3.drewN q).alloc O).cell? ⟨w.heap.size, 1, none⟩ = some (.int .i64 an) := fun q O => (World.cell?_alloc_past (w := w3.drewN q) O _ _ hsr0).trans h1'
    have g2 : ∀ q O, ((w3.drewN q).alloc O).cell? ⟨w.heap.size + 1, 0, none⟩ = some (.slice bo nb cb) := fun q O => (World.cell?_alloc_past (w := w3.drewN q) O _ _ hsr1).trans h2
    have g3 : ∀ q O, ((w3.drewN q).alloc O).cell? ⟨w.heap.size + 1, 1, none⟩ = some (.int .i64 bn) := fun q O => (World.cell?_alloc_past (w := w3.drewN q) O _ _ hsr1).trans h2'
    go_wp2_with fail
    go_region_with (first
      | (go_at_call_of 46 (Value.slice ao na ca); refine (at_any B _ _ _ xs _ _ _ ?_ ?_ hya ?_ ?_ hna).mono ?_; (focus (repeat (first | exact har | refine Sl.drew ?_ | refine Sl.drewN ?_ _ | refine Sl.alloc ?_ ?_ _ | omega | (simp; omega)))); (focus (first | omega | (simp; omega))); (focus omega); (focus omega); rw [Int.toNat_natCast]; rintro e w' ⟨rfl, rfl⟩)
      | (go_at_call_of 46 (Value.slice bo nb cb); refine (at_any B _ _ _ ys _ _ _ ?_ ?_ hyb ?_ ?_ hnb).mono ?_; (focus (repeat (first | exact hbr | refine Sl.drew ?_ | refine Sl.drewN ?_ _ | refine Sl.alloc ?_ ?_ _ | omega | (simp; omega)))); (focus (first | omega | (simp; omega))); (focus omega); (focus omega); rw [Int.toNat_natCast]; rintro e w' ⟨rfl, rfl⟩))
    all_goals go_wp2
    all_goals go_ret
    all_goals refine ⟨t, ret_int ?_, HCP.out, ?_⟩
    all_goals first
      | (rw [HV.out]; exact wrap_sub15 _ _ gx gy)
      | (repeat (first | exact hbw | refine Below.alloc ?_ ?_ _ | refine below_drewN ?_ _ | refine Below.drew ?_ | omega | (simp; omega)))
  · have HV : Hid (cmpV xs ys an bn t = an - bn) := by unfold cmpV; rw [if_neg ht]; rfl
    have hor : (t : Int) < an → bn ≤ (t : Int) := fun h => by omega
    clear ht
    by_cases ht1 : (t : Int) < an
    · have ht2 := hor ht1
      clear hor
      go_wp2
      go_ret
      exact ⟨t, ret_int HV.out.symm, HCP.out, hbw⟩
    · clear hor
      go_wp2
      go_ret
      exact ⟨t, ret_int HV.out.symm, HCP.out, hbw⟩

set_option maxHeartbeats 1000000 in
theorem zzCompare_any (B : Nat) (ao bo : Option Addr) (na ca nb cb : Nat) (xs ys : List Int) (an bn : Int) (w : World) (ha : Sl B .u8 w ao na ca xs) (hb : Sl B .u8 w bo nb cb ys) (hB : B ≤ w.heap.size)
    (hya : Bytes xs) (hyb : Bytes ys) (ha0 : 0 ≤ an) (ha1 : an ≤ 2 * na) (hb0 : 0 ≤ bn) (hb1 : bn ≤ 2 * nb) (hna : na ≤ 1048576) (hnb : nb ≤ 1048576) :
    Calls Try.prog 20 #[.agg #[.slice ao na ca, .int .i64 an], .agg #[.slice bo nb cb, .int .i64 bn]] w fun e w' =>
      ∃ t : Nat, e = .returned (.int .i64 (cmpV xs ys an bn t)) ∧ CP (tokI xs) (tokI ys) (min an.toNat bn.toNat) t ∧ Below w.heap.size w w' := by
  go_enter Try.func20, Try.ntmps20
  go_wp2_with fail
  have hb2 : Below w.heap.size w ((w.alloc (.cells #[.slice ao na ca, .int .i64 an] 26)).alloc (.cells #[.slice bo nb cb, .int .i64 bn] 26)) := ((Below.refl _ _).alloc (Nat.le_refl _) _).alloc (by simp) _
  refine (comparePaths_any B ao bo na ca nb cb xs ys an bn _ (ha.below (hb2.mono hB)) (hb.below (hb2.mono hB)) (by simp; omega) hya hyb ha0 ha1 hb0 hb1 hna hnb).mono ?_
  rintro e w3 ⟨t, rfl, hcp, hb3⟩
  have HCP : Hid (CP (tokI xs) (tokI ys) (min an.toNat bn.toNat) t) := hcp
  clear hcp
  go_wp2
  go_ret
  exact ⟨t, rfl, HCP.out, hb2.trans (hb3.mono (by simp; omega))⟩

/-- What tokenOrder answers. -/
def ordV (xs ys : List Int) (an bn : Int) (t : Nat) : Int := if (t : Int) < an ∧ (t : Int) < bn then sgI (tokI xs t - tokI ys t) else sgI (an - bn)

theorem sg_cmp (xs ys : List Int) (an bn : Int) (t : Nat) : sgI (cmpV xs ys an bn t) = ordV xs ys an bn t := by
  unfold cmpV ordV
  split <;> rfl

end Go.Proofs.Qxb6003418a
