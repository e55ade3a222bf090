/-
  path.set, join.
-/
import Derived.Test.Qxb6003418aAtok
namespace Go.Proofs.Qxb6003418a
open Go.RowKit
set_option linter.unusedVariables false

/-- What 'set' makes of a byte. -/
def zset (z : Int) (i : Nat) (t : Int) : Int := if i % 2 = 0 then z + t * 16 else z + t

theorem orhi_fin : ∀ t : Fin 16, bits BinOp.or IntKind.u8 0 (t.val * 16 : Int) = (t.val * 16 : Int) := by decide +kernel
theorem orlo_fin : ∀ a t : Fin 16, bits BinOp.or IntKind.u8 ((a.val * 16 : Nat) : Int) (t.val : Int) = ((a.val * 16 + t.val : Nat) : Int) := by decide +kernel

theorem or_hi (t : Int) (h : 0 ≤ t ∧ t ≤ 15) : bits BinOp.or IntKind.u8 0 (t * 16) = t * 16 := by
  obtain ⟨a, rfl⟩ := Int.eq_ofNat_of_zero_le h.1
  exact orhi_fin ⟨a, by omega⟩
theorem or_lo (z t : Int) (hz : 0 ≤ z ∧ z ≤ 255) (hm : z % 16 = 0) (h : 0 ≤ t ∧ t ≤ 15) : bits BinOp.or IntKind.u8 z t = z + t := by
  obtain ⟨a, rfl⟩ := Int.eq_ofNat_of_zero_le hz.1
  obtain ⟨b, rfl⟩ := Int.eq_ofNat_of_zero_le h.1
  have e := orlo_fin ⟨a / 16, by omega⟩ ⟨b, by omega⟩
  simp only [] at e
  rw [show a / 16 * 16 = a by omega] at e
  rw [e]
  omega

set_option maxHeartbeats 1000000 in
theorem set_any (g n cap : Nat) (mm : Int) (i : Nat) (t z : Int) (w : World) (hg : g < w.heap.size) (hc : w.cell? ⟨g, i / 2, none⟩ = some (.int .u8 z)) (hf : w.frozen? ⟨g, i / 2, none⟩ = false) (hi : i < 2 * n) (hn : n ≤ 1073741824)
    (ht : 0 ≤ t ∧ t ≤ 15) (he : i % 2 = 0 → z = 0) (ho : i % 2 = 1 → 0 ≤ z ∧ z ≤ 255 ∧ z % 16 = 0) :
    Calls Try.prog 45 #[.agg #[.slice (some ⟨g, 0, none⟩) n cap, .int .i64 mm], .int .i64 i, .int .u8 t] w fun e w' => e = .returned (.tuple #[]) ∧ w' = (w.setCell ⟨g, i / 2, none⟩ (.int .u8 (zset z i t))).alloc (.cells #[.slice (some ⟨g, 0, none⟩) n cap, .int .i64 mm] 26) := by
  by_cases hev : i % 2 = 0
  · have hz := he hev
    subst hz
    have hb : ((i : Int) % 2 == 0) = true := by simp; omega
    have HV : Hid (zset 0 i t = t * 16) := by show _ = _; unfold zset; rw [if_pos hev]; omega
    clear he ho hev
    go_enter Try.func45, Try.ntmps45
    go_wp2
    go_end0
    exact ⟨rfl, by rw [HV.out, or_hi t ht]⟩
  · have ho' := ho (by omega)
    have hb : ((i : Int) % 2 == 0) = false := by simp; omega
    have HV : Hid (zset z i t = z + t) := by show _ = _; unfold zset; rw [if_neg hev]
    clear he ho hev
    go_enter Try.func45, Try.ntmps45
    go_wp2
    go_end0
    exact ⟨rfl, by rw [HV.out, or_lo z t ⟨ho'.1, ho'.2.1⟩ ho'.2.2 ht]⟩

/-- The b-th byte when the first k tokens have been laid. -/
def jb (T : Nat → Int) (k b : Nat) : Int := (if 2 * b < k then T (2 * b) * 16 else 0) + (if 2 * b + 1 < k then T (2 * b + 1) else 0)
/-- The M bytes when the first k tokens have been laid. -/
def jl (T : Nat → Int) (M k : Nat) : List Int := (List.range M).map (jb T k)

theorem jl_len (T : Nat → Int) (M k : Nat) : (jl T M k).length = M := by simp [jl]
theorem jl_getD (T : Nat → Int) (M k b : Nat) (h : b < M) : (jl T M k).getD b 0 = jb T k b := by simp [jl, List.getD, h]
theorem jl_zero (T : Nat → Int) (M : Nat) : jl T M 0 = List.replicate M 0 := by
  apply List.ext_getElem?
  intro i
  by_cases h : i < M
  · simp [jl, jb, h]
  · simp [jl, h]

theorem jl_set (T : Nat → Int) (M k : Nat) (hk : k < 2 * M) : (jl T M k).set (k / 2) (zset (jb T k (k / 2)) k (T k)) = jl T M (k + 1) := by
  apply List.ext_getElem?
  intro i
  rw [List.getElem?_set]
  by_cases hi : i < M
  · by_cases e : k / 2 = i
    · subst e
      rw [if_pos rfl, if_pos (by rw [jl_len]; exact hi)]
      simp only [jl, List.getElem?_map, List.getElem?_range hi, Option.map_some]
      congr 1
      unfold zset jb
      by_cases hev : k % 2 = 0
      · rw [if_pos hev, if_neg (by omega), if_neg (by omega), if_pos (by omega), if_neg (by omega), show 2 * (k / 2) = k by omega]; omega
      · rw [if_neg hev, if_pos (by omega), if_neg (by omega), if_pos (by omega), if_pos (by omega), show 2 * (k / 2) + 1 = k by omega]; omega
    · rw [if_neg e]
      simp only [jl, List.getElem?_map, List.getElem?_range hi, Option.map_some]
      congr 1
      unfold jb
      have p1 : (2 * i < k + 1) = (2 * i < k) := propext (by omega)
      have p2 : (2 * i + 1 < k + 1) = (2 * i + 1 < k) := propext (by omega)
      simp only [p1, p2]
  · by_cases e : k / 2 = i
    · omega
    · rw [if_neg e]
      simp [jl, hi]

theorem jb_bd (T : Nat → Int) (hT : ∀ i, 0 ≤ T i ∧ T i ≤ 15) (k b : Nat) : 0 ≤ jb T k b ∧ jb T k b ≤ 255 := by
  have h1 := hT (2 * b)
  have h2 := hT (2 * b + 1)
  unfold jb
  split <;> split <;> omega

theorem jl_bytes (T : Nat → Int) (hT : ∀ i, 0 ≤ T i ∧ T i ≤ 15) (M k : Nat) : Bytes (jl T M k) := by
  intro j
  by_cases h : j < M
  · rw [jl_getD T M k j h]; exact jb_bd T hT k j
  · simp [jl, List.getD, h]

theorem jl_tok (T : Nat → Int) (hT : ∀ i, 0 ≤ T i ∧ T i ≤ 15) (M k i : Nat) (hi : i < k) (hM : k ≤ 2 * M) : tokI (jl T M k) i = T i := by
  have h1 := hT (2 * (i / 2))
  have h2 := hT (2 * (i / 2) + 1)
  unfold tokI
  rw [jl_getD T M k (i / 2) (by omega)]
  unfold jb
  by_cases hev : i % 2 = 0
  · have e : T i = T (2 * (i / 2)) := congrArg T (by omega)
    rw [if_pos hev, if_pos (by omega), e]
    generalize T (2 * (i / 2)) = x at *
    generalize T (2 * (i / 2) + 1) = y at *
    split <;> omega
  · have e : T i = T (2 * (i / 2) + 1) := congrArg T (by omega)
    rw [if_neg hev, if_pos (by omega), if_pos (by omega), e]
    generalize T (2 * (i / 2)) = x at *
    generalize T (2 * (i / 2) + 1) = y at *
    omega

/-- The tokens of p, then those of q. -/
def twoT (ps qs : List Int) (pn : Nat) (i : Nat) : Int := if i < pn then tokI ps i else tokI qs (i - pn)

theorem twoT_bd {ps qs : List Int} (hp : Bytes ps) (hq : Bytes qs) (pn : Nat) (i : Nat) : 0 ≤ twoT ps qs pn i ∧ twoT ps qs pn i ≤ 15 := by
  unfold twoT
  split
  · have h := hp (i / 2); unfold tokI; split <;> omega
  · have h := hq ((i - pn) / 2); unfold tokI; split <;> omega
end Go.Proofs.Qxb6003418a
