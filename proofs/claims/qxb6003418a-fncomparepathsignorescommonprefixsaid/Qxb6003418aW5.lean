/-
  The walk of the law FnComparePathsIgnoresCommonPrefix.
-/
import Derived.Test.Qxb6003418aZjoin
import Derived.Test.Qxb6003418aCmp
import Derived.Test.Qxb6003418aRowIn
namespace Go.Proofs.Qxb6003418a
open Go.RowKit
set_option linter.unusedVariables false

/-- The same tokens ahead of both: the common part is longer by them. -/
theorem cp_ahead {f g f' g' : Nat → Int} {m c t : Nat} (h : CP f g m t) (h0 : ∀ i, i < c → f' i = g' i) (h1 : ∀ i, i < m → f' (c + i) = f i) (h2 : ∀ i, i < m → g' (c + i) = g i) : CP f' g' (c + m) (c + t) := by
  obtain ⟨a, b, d⟩ := h
  refine ⟨by omega, fun i hi => ?_, fun hm => ?_⟩
  · by_cases e : i < c
    · exact h0 i e
    · have e1 := h1 (i - c) (by omega)
      have e2 := h2 (i - c) (by omega)
      rw [show c + (i - c) = i by omega] at e1 e2
      rw [e1, e2]
      exact b (i - c) (by omega)
  · rw [h1 t (by omega), h2 t (by omega)]
    exact d (by omega)

/-- What comparePaths answers does not hang on the tokens ahead. -/
theorem ahead_same (cs xs ys : List Int) (cn an bn Ma Mb : Nat) (t u : Nat) (hyc : Bytes cs) (hyx : Bytes xs) (hyy : Bytes ys) (hMa : cn + an ≤ 2 * Ma) (hMb : cn + bn ≤ 2 * Mb)
    (ht : CP (tokI xs) (tokI ys) (min (an : Int).toNat (bn : Int).toNat) t)
    (hu : CP (tokI (jl (twoT cs xs cn) Ma (cn + an))) (tokI (jl (twoT cs ys cn) Mb (cn + bn))) (min ((cn : Int) + an).toNat ((cn : Int) + bn).toNat) u) :
    cmpV (jl (twoT cs xs cn) Ma (cn + an)) (jl (twoT cs ys cn) Mb (cn + bn)) ((cn : Int) + an) ((cn : Int) + bn) u = cmpV xs ys an bn t := by
  have ha : ∀ i, i < cn + an → tokI (jl (twoT cs xs cn) Ma (cn + an)) i = twoT cs xs cn i := fun i hi => jl_tok _ (twoT_bd hyc hyx cn) Ma (cn + an) i hi hMa
  have hb : ∀ i, i < cn + bn → tokI (jl (twoT cs ys cn) Mb (cn + bn)) i = twoT cs ys cn i := fun i hi => jl_tok _ (twoT_bd hyc hyy cn) Mb (cn + bn) i hi hMb
  have e : min ((cn : Int) + an).toNat ((cn : Int) + bn).toNat = cn + min (an : Int).toNat (bn : Int).toNat := by omega
  rw [e] at hu
  have hx2 : ∀ i, i < an → tokI (jl (twoT cs xs cn) Ma (cn + an)) (cn + i) = tokI xs i := fun i hi => by
    rw [ha _ (by omega)]; unfold twoT; rw [if_neg (by omega), Nat.add_sub_cancel_left]
  have hy2 : ∀ i, i < bn → tokI (jl (twoT cs ys cn) Mb (cn + bn)) (cn + i) = tokI ys i := fun i hi => by
    rw [hb _ (by omega)]; unfold twoT; rw [if_neg (by omega), Nat.add_sub_cancel_left]
  have hc : CP (tokI (jl (twoT cs xs cn) Ma (cn + an))) (tokI (jl (twoT cs ys cn) Mb (cn + bn))) (cn + min (an : Int).toNat (bn : Int).toNat) (cn + t) := by
    refine cp_ahead ht (fun i hi => ?_) (fun i hi => hx2 i (by omega)) (fun i hi => hy2 i (by omega))
    rw [ha i (by omega), hb i (by omega)]
    unfold twoT
    rw [if_pos hi, if_pos hi]
  obtain rfl := hu.uniq hc
  unfold cmpV
  by_cases h : (t : Int) < an ∧ (t : Int) < bn
  · rw [if_pos (by omega), if_pos h, hx2 t (by omega), hy2 t (by omega)]
  · rw [if_neg (by omega), if_neg h]; omega

set_option maxHeartbeats 400000 in
theorem zz22_ok (a0 a2 a4 : Option Addr) (n c m d p q : Nat) (i j k : Int) (w : World) (h : n + m + p ≤ 1048576) :
    Calls Try.prog 22 #[.slice a0 n c, .int .i64 i, .slice a2 m d, .int .i64 j, .slice a4 p q, .int .i64 k] w fun e w' => e = .returned (.bool true) ∧ w = w' := by
  go_enter Try.func22, Try.ntmps22
  go_wp2
  go_ret
  exact ⟨rfl, rfl⟩

set_option maxHeartbeats 400000 in
theorem zz22_no (a0 a2 a4 : Option Addr) (n c m d p q : Nat) (i j k : Int) (w : World) (hn : n ≤ 9223372036854775807) (hm : m ≤ 9223372036854775807) (hp : p ≤ 9223372036854775807) (h : ¬ n + m + p ≤ 1048576) :
    Calls Try.prog 22 #[.slice a0 n c, .int .i64 i, .slice a2 m d, .int .i64 j, .slice a4 p q, .int .i64 k] w fun e w' => e = .returned (.bool false) ∧ w = w' := by
  go_enter Try.func22, Try.ntmps22
  go_wp2
  all_goals (go_ret; exact ⟨rfl, rfl⟩)
end Go.Proofs.Qxb6003418a
