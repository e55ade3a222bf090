/-
  The plain side of the law's checks.
-/
import Derived.Test.Qxb6602686aNcr
namespace Go.Proofs.Qxb6602686a
open Go.RowKit
set_option linter.unusedVariables false

theorem asc_inj (ms : List Int) (ha : Asc ms) (i j : Nat) (hi : i < ms.length) (hj : j < ms.length) (e : ms.getD i 0 = ms.getD j 0) : i = j := by
  rcases Nat.lt_trichotomy i j with h | h | h
  · have := ha i j h hj; omega
  · exact h
  · have := ha j i h hi; omega

/-- Which member sits at place p. -/
def sig (f p : Nat) : Nat := if p = 0 then f else if p ≤ f then p - 1 else p

theorem ids_sig (ms : List Int) (ha : Asc ms) (f : Nat) (hf : f < ms.length) (p : Nat) (hp : p < ms.length) : (idsOf (ms.getD f 0) ms).getD p 0 = ms.getD (sig f p) 0 := by
  rw [ids_at ms ha f hf p hp]
  unfold sig
  by_cases h0 : p = 0
  · rw [if_pos h0, if_pos h0]
  · rw [if_neg h0, if_neg h0]
    by_cases h1 : p ≤ f
    · rw [if_pos h1, if_pos h1]
    · rw [if_neg h1, if_neg h1]

theorem sig_lt (f p n : Nat) (hf : f < n) (hp : p < n) : sig f p < n := by
  unfold sig
  split
  · exact hf
  · split <;> omega

theorem sig_inj (f p q : Nat) (h : sig f p = sig f q) : p = q := by
  unfold sig at h
  by_cases h0 : p = 0 <;> by_cases h1 : q = 0 <;> by_cases h2 : p ≤ f <;> by_cases h3 : q ≤ f <;> simp [h0, h1, h2, h3] at h <;> omega

theorem sig_onto (f k : Nat) : ∃ p, sig f p = k ∧ (∀ n, f < n → k < n → p < n) := by
  by_cases h : k = f
  · exact ⟨0, by simp [sig, h], fun n h1 h2 => by omega⟩
  · by_cases h2 : k < f
    · exact ⟨k + 1, by unfold sig; rw [if_neg (by omega), if_pos (by omega)]; omega, fun n h1 h2 => by omega⟩
    · exact ⟨k, by unfold sig; rw [if_neg (by omega), if_neg (by omega)], fun n h1 h2 => h2⟩

/-- No id stands at two places. -/
def Inj (ids : List Int) (n : Nat) : Prop := ∀ i j, i < n → j < n → ids.getD i 0 = ids.getD j 0 → i = j

theorem ids_inj (ms : List Int) (ha : Asc ms) (f : Nat) (hf : f < ms.length) : Inj (idsOf (ms.getD f 0) ms) ms.length := by
  intro i j hi hj e
  rw [ids_sig ms ha f hf i hi, ids_sig ms ha f hf j hj] at e
  exact sig_inj f i j (asc_inj ms ha _ _ (sig_lt f i _ hf hi) (sig_lt f j _ hf hj) e)

theorem lastK_some (zs : List Int) (id : Int) (k i : Nat) (h : lastK zs id k = some i) : zs.getD i 0 = id := by
  induction k with
  | zero => cases h
  | succ k ih =>
    unfold lastK at h
    split at h
    · cases h; assumption
    · exact ih h

theorem lastK_none (zs : List Int) (id : Int) (k : Nat) (h : ∀ i, i < k → zs.getD i 0 ≠ id) : lastK zs id k = none := by
  cases hl : lastK zs id k with
  | none => rfl
  | some i => exact absurd (lastK_some _ _ _ _ hl) (h i (lastK_lt _ _ _ _ hl))

theorem lastK_ex (zs : List Int) (id : Int) (k i : Nat) (hi : i < k) (e : zs.getD i 0 = id) : ∃ j, lastK zs id k = some j := by
  induction k with
  | zero => omega
  | succ k ih =>
    unfold lastK
    by_cases h : zs.getD k 0 = id
    · exact ⟨k, by rw [if_pos h]⟩
    · rw [if_neg h]
      have : i ≠ k := fun e' => h (by rw [← e']; exact e)
      exact ih (by omega)

theorem plc_rank (ids : List Int) (n : Nat) (hl : ids.length = n) (hj : Inj ids n) (t r : Int) (h : RankOf ids t r) : (∃ p : Nat, p < n ∧ r = p ∧ ids.getD p 0 = t ∧ plc ids n t = some (p : Int)) ∨ (r = -1 ∧ plc ids n t = none) := by
  rcases h with ⟨k, hk, e, rfl⟩ | ⟨hno, rfl⟩
  · left
    refine ⟨k, by omega, rfl, e, ?_⟩
    obtain ⟨j, hjk⟩ := lastK_ex ids t n k (by omega) e
    have h1 := lastK_some _ _ _ _ hjk
    have h2 := lastK_lt _ _ _ _ hjk
    have : k = j := hj k j (by omega) h2 (by rw [h1, e])
    subst this
    unfold plc
    rw [hjk]
    rfl
  · right
    refine ⟨rfl, ?_⟩
    unfold plc
    rw [lastK_none ids t n (fun i hi => hno i (by omega))]
    rfl

theorem nxt_get (ids : List Int) (n : Nat) (zs : List Int) (q : Nat) (hq : q < zs.length) (r : Int) (h : plc ids n (zs.getD q 0) = some r) : (nxt ids n (zs.take q)).length < (nxt ids n zs).length ∧ (nxt ids n zs).getD (nxt ids n (zs.take q)).length 0 = r := by
  have e : nxt ids n zs = nxt ids n (zs.take q) ++ (r :: nxt ids n (zs.drop (q + 1))) := by
    have h1 : zs = zs.take q ++ (zs.getD q 0 :: zs.drop (q + 1)) := by
      have h1 : zs.drop q = zs.getD q 0 :: zs.drop (q + 1) := by
        rw [List.drop_eq_getElem_cons hq]
        simp [List.getD, hq]
      rw [← h1, List.take_append_drop]
    generalize zs.getD q 0 = t at *
    conv => lhs; rw [h1]
    unfold nxt
    rw [List.filterMap_append, List.filterMap_cons, h]
  constructor
  · rw [e]; simp
  · rw [e, List.getD, List.getElem?_append_right (Nat.le_refl _)]
    simp

/-- The row that zzLookup hands over. -/
theorem rowV_sl {B : Nat} {w : World} {to : Option Addr} {m cap : Nat} {A : Nat → Option Addr} {L C : Nat → Nat} {Z : Nat → List Int} (h : Sls B w to m cap A L C Z) (hL : ∀ r, r < m → L r ≤ 131072 ∧ U64s (Z r)) (ks : List Int) (id : Int) :
    ∃ ra rl rc, rowV A L C (lastK ks id m) = .slice ra rl rc ∧ Sl B .u64 w ra rl rc (zrow (fun x => lastK ks x m) Z id) ∧ rl ≤ 131072 ∧ U64s (zrow (fun x => lastK ks x m) Z id) := by
  cases hl : lastK ks id m with
  | none =>
    have ez : zrow (fun x => lastK ks x m) Z id = [] := by simp only [zrow, hl]
    rw [ez]
    exact ⟨none, 0, 0, rfl, ⟨rfl, .inl ⟨rfl, rfl, rfl⟩⟩, by omega, fun j => by simp⟩
  | some i =>
    have ez : zrow (fun x => lastK ks x m) Z id = Z i := by simp only [zrow, hl]
    rw [ez]
    have hi := lastK_lt _ _ _ _ hl
    rcases h with ⟨_, h0, _⟩ | ⟨b, o, _, _, _, hc⟩
    · omega
    · exact ⟨_, _, _, rfl, (hc i hi).2, (hL i hi).1, (hL i hi).2⟩
end Go.Proofs.Qxb6602686a
