/-
  Plain facts on the positions that childOffsets gives; ZZChildOffsets; the test of total length of law 9.
-/
import Derived.Test.Qxb6003418aChild
import Derived.Test.Qxb6003418aRowIn
namespace Go.Proofs.Qxb6003418a
open Go.RowKit
set_option linter.unusedVariables false

theorem Sl.step {k w w' ao n cap zs} (h : Sl w.heap.size k w ao n cap zs) (hb : Below w.heap.size w w') : Sl w'.heap.size k w' ao n cap zs := (h.below hb).mono hb.size
theorem NodeAt.step {w w' N p pn hv v idx off siz} (h : NodeAt w.heap.size w N p pn hv v idx off siz) (hb : Below w.heap.size w w') : NodeAt w'.heap.size w' N p pn hv v idx off siz := by
  obtain ⟨h1, co, h2, h3⟩ := h.below hb
  refine ⟨Nat.lt_of_lt_of_le h1 hb.size, co, h2, ?_⟩
  rcases h3 with h3 | ⟨g, e1, e2, e3⟩
  · exact .inl h3
  · exact .inr ⟨g, e1, Nat.lt_of_lt_of_le e2 hb.size, e3⟩

theorem pos_bd (s : Int) (idx off siz : List Int) (k : Nat) : s ≤ pos s idx off siz k ∧ pos s idx off siz k ≤ s + 52 + 62 * k := by
  have h := cur_bd s idx off siz k
  have h1 := ulen_bd (idx.getD k 0)
  unfold pos
  omega

theorem pos_zero (s : Int) (idx off siz : List Int) : s + 34 ≤ pos s idx off siz 0 := by
  have h := ulen_bd idx.length
  have h1 := ulen_bd (idx.getD 0 0)
  simp only [pos, cur]
  omega

theorem pos_next (s : Int) (idx off siz : List Int) (k : Nat) : 35 ≤ pos s idx off siz (k + 1) - pos s idx off siz k := by
  have h1 := ulen_bd (idx.getD (k + 1) 0)
  have h2 := ulen_bd (off.getD k 0)
  have h3 := ulen_bd (siz.getD k 0)
  simp only [pos, cur]
  omega

theorem cur_shift (s d : Int) (idx off siz : List Int) (k : Nat) : cur (s + d) idx off siz k = cur s idx off siz k + d := by
  induction k with
  | zero => simp only [cur]; omega
  | succ k ih => simp only [cur, ih]; omega

theorem pos_shift (s d : Int) (idx off siz : List Int) (k : Nat) : pos (s + d) idx off siz k = pos s idx off siz k + d := by
  simp only [pos, cur_shift]; omega

theorem outs_zero (s : Int) (idx off siz : List Int) (h : U64s off) (k : Nat) : outs s idx off siz 0 (k + 1) = outs s idx off siz 0 k ++ [pos s idx off siz k] := by
  simp only [outs]; rw [if_pos (h k).1]

theorem outs0_len (s : Int) (idx off siz : List Int) (h : U64s off) (k : Nat) : (outs s idx off siz 0 k).length = k := by
  induction k with
  | zero => rfl
  | succ k ih => rw [outs_zero s idx off siz h]; simp [ih]

theorem outs_take (s : Int) (idx off siz : List Int) (fr : Int) (k n : Nat) (h : k ≤ n) : ∃ r, outs s idx off siz fr n = outs s idx off siz fr k ++ r := by
  induction n with
  | zero =>
    obtain rfl : k = 0 := by omega
    exact ⟨[], by simp⟩
  | succ n ih =>
    by_cases e : k = n + 1
    · subst e; exact ⟨[], by simp⟩
    · obtain ⟨r, hr⟩ := ih (by omega)
      exact ⟨r ++ (if fr ≤ off.getD n 0 then [pos s idx off siz n] else []), by simp only [outs, hr, List.append_assoc]⟩

theorem outs_at (s : Int) (idx off siz : List Int) (fr : Int) (k n : Nat) (h : k < n) (hf : fr ≤ off.getD k 0) : (outs s idx off siz fr k).length < (outs s idx off siz fr n).length ∧ (outs s idx off siz fr n).getD (outs s idx off siz fr k).length 0 = pos s idx off siz k := by
  obtain ⟨r, hr⟩ := outs_take s idx off siz fr (k + 1) n (by omega)
  simp only [outs] at hr
  rw [if_pos hf] at hr
  rw [hr]
  simp [List.getD]

theorem outs0_at (s : Int) (idx off siz : List Int) (h : U64s off) (k n : Nat) (hk : k < n) : (outs s idx off siz 0 n).getD k 0 = pos s idx off siz k := by
  have := (outs_at s idx off siz 0 k n hk (h k).1).2
  rwa [outs0_len s idx off siz h] at this

set_option maxHeartbeats 1000000 in
theorem zzChild_any (N : Nat) (p pn hv vv : Value) (idx off siz ats : List Int) (s fr : Int) (ao : Option Addr) (m : Nat) (w : World)
    (hN : NodeAt w.heap.size w N p pn hv vv idx off siz) (ha : Sl w.heap.size .i64 w ao m m ats) (hs : -1073741824 ≤ s ∧ s ≤ 1073741824) (hn : idx.length ≤ 1048576) (hm : m ≤ 1048576)
    (hyi : Bytes idx) (hyo : U64s off) (hys : U64s siz) :
    Calls Try.prog 32 #[.pointer (some ⟨N, 0, none⟩), .int .i64 s, .int .u64 fr, .slice ao m m] w fun e w' =>
      ∃ ro rc, e = .returned (.slice ro (ats ++ outs s idx off siz fr idx.length).length rc) ∧ Sl w'.heap.size .i64 w' ro (ats ++ outs s idx off siz fr idx.length).length rc (ats ++ outs s idx off siz fr idx.length) ∧ Below w.heap.size w w' := by
  go_enter Try.func32, Try.ntmps32
  go_wp2_with fail
  refine (childOffsets_any w.heap.size N p pn hv vv idx off siz ats s fr ao m w hN (Nat.le_refl _) ha hs hn hm hyi hyo hys).mono ?_
  rintro e w1 ⟨ro, rc, rfl, h1, h2⟩
  have H1 : Hid (Sl w1.heap.size .i64 w1 ro (ats ++ outs s idx off siz fr idx.length).length rc (ats ++ outs s idx off siz fr idx.length)) := h1
  clear h1
  obtain ⟨L, HL⟩ : ∃ L, Hid ((ats ++ outs s idx off siz fr idx.length).length = L) := ⟨_, rfl⟩
  rw [HL.out]
  go_wp2
  go_ret
  refine ⟨ro, rc, ?_, H1.out, h2⟩
  rw [HL.out]
  rfl

set_option maxHeartbeats 400000 in
theorem zz35_ok (a0 a1 a2 a6 : Option Addr) (n c m d p q r t : Nat) (i j k : Int) (w : World) (h : n + m + p + r ≤ 1048576) :
    Calls Try.prog 35 #[.slice a0 n c, .slice a1 m d, .slice a2 p q, .int .i64 i, .int .i64 j, .int .u64 k, .slice a6 r t] w fun e w' => e = .returned (.bool true) ∧ w = w' := by
  go_enter Try.func35, Try.ntmps35
  go_wp2
  go_ret
  exact ⟨rfl, rfl⟩

set_option maxHeartbeats 400000 in
theorem zz35_no (a0 a1 a2 a6 : Option Addr) (n c m d p q r t : Nat) (i j k : Int) (w : World) (hn : n ≤ 9223372036854775807) (hm : m ≤ 9223372036854775807) (hp : p ≤ 9223372036854775807) (hr : r ≤ 9223372036854775807) (h : ¬ n + m + p + r ≤ 1048576) :
    Calls Try.prog 35 #[.slice a0 n c, .slice a1 m d, .slice a2 p q, .int .i64 i, .int .i64 j, .int .u64 k, .slice a6 r t] w fun e w' => e = .returned (.bool false) ∧ w = w' := by
  go_enter Try.func35, Try.ntmps35
  go_wp2
  all_goals (go_ret; exact ⟨rfl, rfl⟩)
end Go.Proofs.Qxb6003418a
