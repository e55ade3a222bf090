/-
  ZZJoin, ZZPathBytes, ZZPathLen.
-/
import Derived.Test.Qxb6003418aJoinW
namespace Go.Proofs.Qxb6003418a
open Go.RowKit
set_option linter.unusedVariables false

theorem Sl.up2 {k w w' ao n cap zs} (h : Sl w.heap.size k w ao n cap zs) (hb : Below w.heap.size w w') : Sl w'.heap.size k w' ao n cap zs := (h.below hb).mono hb.size

set_option maxHeartbeats 2000000 in
theorem zzJoin_any (po qo : Option Addr) (pl pc ql qc : Nat) (ps qs : List Int) (pn qn : Nat) (w : World) (hp : Sl w.heap.size .u8 w po pl pc ps) (hq : Sl w.heap.size .u8 w qo ql qc qs)
    (hyp : Bytes ps) (hyq : Bytes qs) (hpn : pn ≤ 2 * pl) (hqn : qn ≤ 2 * ql) (hl : pl + ql ≤ 1048576) :
    Calls Try.prog 12 #[.agg #[.slice po pl pc, .int .i64 pn], .agg #[.slice qo ql qc, .int .i64 qn]] w fun e w' =>
      ∃ g, e = .returned (.agg #[.slice (some ⟨g, 0, none⟩) ((pn + qn + 1) / 2) ((pn + qn + 1) / 2), .int .i64 ((pn : Int) + qn)]) ∧
        w'.ownsRow w.heap.size 5 1 (.slice (some ⟨g, 0, none⟩) ((pn + qn + 1) / 2) ((pn + qn + 1) / 2)) ((pn + qn + 1) / 2) ((jl (twoT ps qs pn) ((pn + qn + 1) / 2) (pn + qn)).map (Value.int .u8)) ∧ Below w.heap.size w w' := by
  obtain ⟨M, HM⟩ : ∃ M, Hid (M = (pn + qn + 1) / 2) := ⟨_, rfl⟩
  rw [← HM.out]
  obtain ⟨w3, hw3⟩ : ∃ w3, w3 = ((w.alloc (.cells #[.slice po pl pc, .int .i64 pn] 26)).alloc (.cells #[.slice qo ql qc, .int .i64 qn] 26)).alloc (.cells #[.slice none 0 0, .int .i64 0] 26) := ⟨_, rfl⟩
  have hb3 : Below w.heap.size w w3 := by rw [hw3]; exact (((Below.refl _ _).alloc (Nat.le_refl _) _).alloc (by simp) _).alloc (by simp; omega) _
  have hs3 : w3.heap.size = w.heap.size + 3 := by rw [hw3]; simp
  have hR0 : w3.cell? ⟨w.heap.size + 1 + 1, 0, none⟩ = some (.slice none 0 0) := by rw [hw3]; simp [go_sem]
  have hR1 : w3.cell? ⟨w.heap.size + 1 + 1, 1, none⟩ = some (.int .i64 0) := by rw [hw3]; simp [go_sem]
  have hF0 : w3.frozen? ⟨w.heap.size + 1 + 1, 0, none⟩ = false := by rw [hw3]; simp [go_sem]
  have hF1 : w3.frozen? ⟨w.heap.size + 1 + 1, 1, none⟩ = false := by rw [hw3]; simp [go_sem]
  have HW3 : Hid (w3 = ((w.alloc (.cells #[.slice po pl pc, .int .i64 pn] 26)).alloc (.cells #[.slice qo ql qc, .int .i64 qn] 26)).alloc (.cells #[.slice none 0 0, .int .i64 0] 26)) := hw3
  have HS3 : Hid (w3.heap.size = w.heap.size + 3) := hs3
  clear hw3 hs3
  go_enter Try.func12, Try.ntmps12
  go_wp2_with fail
  rw [← HW3.out]
  refine (join_any po qo pl pc ql qc ps qs pn qn w3 (hp.up2 hb3) (hq.up2 hb3) hyp hyq hpn hqn hl).mono ?_
  rw [← HM.out]
  rintro e w4 ⟨g, rfl, ho, hb4⟩
  have hlt : w.heap.size + 1 + 1 < w3.heap.size := by have := HS3.out; omega
  have kR0 : w4.cell? ⟨w.heap.size + 1 + 1, 0, none⟩ = some (.slice none 0 0) := (hb4.cell (p := ⟨w.heap.size + 1 + 1, 0, none⟩) hlt).trans hR0
  have kR1 : w4.cell? ⟨w.heap.size + 1 + 1, 1, none⟩ = some (.int .i64 0) := (hb4.cell (p := ⟨w.heap.size + 1 + 1, 1, none⟩) hlt).trans hR1
  have kF0 : w4.frozen? ⟨w.heap.size + 1 + 1, 0, none⟩ = false := (hb4.frozen (p := ⟨w.heap.size + 1 + 1, 0, none⟩) hlt).trans hF0
  have kF1 : w4.frozen? ⟨w.heap.size + 1 + 1, 1, none⟩ = false := (hb4.frozen (p := ⟨w.heap.size + 1 + 1, 1, none⟩) hlt).trans hF1
  have HB : Hid (Below w.heap.size w w4) := hb3.trans (hb4.mono hb3.size)
  have HO2 : Hid (∀ u v, ((w4.setCell ⟨w.heap.size + 1 + 1, 0, none⟩ u).setCell ⟨w.heap.size + 1 + 1, 1, none⟩ v).ownsRow w.heap.size 5 1 (.slice (some ⟨g, 0, none⟩) M M) M ((jl (twoT ps qs pn) M (pn + qn)).map (Value.int .u8))) := fun u v =>
    (ownsRow_setCell_below (ownsRow_setCell_below ho (a := ⟨w.heap.size + 1 + 1, 0, none⟩) hlt u) (a := ⟨w.heap.size + 1 + 1, 1, none⟩) hlt v).mono hb3.size
  clear ho hR0 hR1 hF0 hF1 hb4
  go_wp2_with fail
  refine bodyPost_ret (v := .agg #[.slice (some ⟨g, 0, none⟩) M M, .int .i64 ((pn : Int) + qn)]) (by simp [results, Try.results12, go_sem, kR0, kR1]) rfl ⟨g, rfl, HO2.out _ _, ?_⟩
  exact (HB.out.setCell (p := ⟨w.heap.size + 1 + 1, 0, none⟩) (show w.heap.size ≤ w.heap.size + 1 + 1 from by omega) _).setCell (p := ⟨w.heap.size + 1 + 1, 1, none⟩) (show w.heap.size ≤ w.heap.size + 1 + 1 from by omega) _

set_option maxHeartbeats 400000 in
theorem pathBytes_any (ao : Option Addr) (n cap : Nat) (m : Int) (w : World) :
    Calls Try.prog 14 #[.agg #[.slice ao n cap, .int .i64 m]] w fun e w' => e = .returned (.slice ao n cap) ∧ w' = w.alloc (.cells #[.slice ao n cap, .int .i64 m] 26) := by
  go_enter Try.func14, Try.ntmps14
  go_wp2
  go_ret
  exact ⟨rfl, rfl⟩

set_option maxHeartbeats 400000 in
theorem pathLen_any (ao : Option Addr) (n cap : Nat) (m : Int) (w : World) :
    Calls Try.prog 15 #[.agg #[.slice ao n cap, .int .i64 m]] w fun e w' => e = .returned (.int .i64 m) ∧ w' = w.alloc (.cells #[.slice ao n cap, .int .i64 m] 26) := by
  go_enter Try.func15, Try.ntmps15
  go_wp2
  go_ret
  exact ⟨rfl, rfl⟩

set_option maxHeartbeats 400000 in
theorem zz10_ok (a0 a2 : Option Addr) (n c m d : Nat) (i j : Int) (w : World) (h : n + m ≤ 1048576) :
    Calls Try.prog 10 #[.slice a0 n c, .int .i64 i, .slice a2 m d, .int .i64 j] w fun e w' => e = .returned (.bool true) ∧ w = w' := by
  go_enter Try.func10, Try.ntmps10
  go_wp2
  go_ret
  exact ⟨rfl, rfl⟩

set_option maxHeartbeats 400000 in
theorem zz10_no (a0 a2 : Option Addr) (n c m d : Nat) (i j : Int) (w : World) (hn : n ≤ 9223372036854775807) (hm : m ≤ 9223372036854775807) (h : ¬ n + m ≤ 1048576) :
    Calls Try.prog 10 #[.slice a0 n c, .int .i64 i, .slice a2 m d, .int .i64 j] w fun e w' => e = .returned (.bool false) ∧ w = w' := by
  go_enter Try.func10, Try.ntmps10
  go_wp2
  all_goals (go_ret; exact ⟨rfl, rfl⟩)
end Go.Proofs.Qxb6003418a
