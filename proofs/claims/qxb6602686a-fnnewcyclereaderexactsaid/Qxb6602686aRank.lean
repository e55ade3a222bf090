/-
  zzRank, zzPlaceOf.
-/
import Derived.Test.Qxb6602686aBase
namespace Go.Proofs.Qxb6602686a
open Go.RowKit
set_option linter.unusedVariables false

/-- Strictly ascending. -/
def Asc (zs : List Int) : Prop := ∀ i j, i < j → j < zs.length → zs.getD i 0 < zs.getD j 0

/-- r is the rank of t in zs, or -1. -/
def RankOf (zs : List Int) (t r : Int) : Prop :=
  (∃ k : Nat, k < zs.length ∧ zs.getD k 0 = t ∧ r = k) ∨ ((∀ k, k < zs.length → zs.getD k 0 ≠ t) ∧ r = -1)

set_option maxHeartbeats 1000000 in
theorem rank_any (ao : Option Addr) (n cap : Nat) (zs : List Int) (t : Int) (w : World) (h : In .u64 w ao n zs) (ha : Asc zs) (hu : U64s zs) (hn : n ≤ 131072) :
    Calls Try.prog 16 #[.slice ao n cap, .int .u64 t] w fun e w' => ∃ r, e = .returned (.int .i64 r) ∧ Hid (RankOf zs t r) ∧ w = w' := by
  have HA : Hid (Asc zs) := ha
  have HU : Hid (U64s zs) := hu
  have HL : Hid (zs.length = n) := h.1
  clear ha hu
  go_enter Try.func16, Try.ntmps16
  go_wp2_with fail
  go_loopw [5, 6] (fun lo hi wr => ∃ l u : Nat, l ≤ u ∧ u ≤ n ∧ lo = .int .i64 l ∧ hi = .int .i64 u ∧ Hid (∀ i, i < l → zs.getD i 0 < t) ∧ Hid (∀ i, u ≤ i → i < n → ¬ zs.getD i 0 < t) ∧ w = wr) (fun lo hi _ => (intOf hi).toNat - (intOf lo).toNat)
  case atStart => exact ⟨0, n, Nat.zero_le _, Nat.le_refl _, rfl, rfl, fun i hi => absurd hi (by omega), fun i h1 h2 => absurd h1 (by omega), rfl⟩
  case round =>
    obtain ⟨l, u, hlu, hun, rfl, rfl, H1, H2, rfl⟩ := hrel
    by_cases hlt : l < u
    · obtain ⟨hl, _, hin⟩ := h
      obtain ⟨b, o, rfl, hb, hcell⟩ := hin l (by omega)
      clear hin
      obtain ⟨m, hm⟩ : ∃ m, m = l + (u - l) / 2 := ⟨_, rfl⟩
      have hm1 : (l : Int) + ((u : Int) - (l : Int)).tdiv 2 = (m : Int) := by
        rw [Int.tdiv_eq_ediv_of_nonneg (by omega)]; omega
      have hm2 : l ≤ m ∧ m < u := by omega
      have hx := hcell m (by omega)
      have hxu := HU.out m
      clear hm hl hcell
      by_cases hlt2 : zs.getD m 0 < t
      · have H1' : Hid (∀ i, i < m + 1 → zs.getD i 0 < t) := fun i hi => by
          have := HL.out
          by_cases hi' : i = m
          · subst hi'; exact hlt2
          · exact Int.lt_trans (HA.out i m (by omega) (by omega)) hlt2
        generalize zs.getD m 0 = x at *
        go_wp2
        exact ⟨⟨m + 1, u, by omega, hun, by go_num, rfl, H1', H2, trivial⟩, by simp [intOf]; omega⟩
      · have H2' : Hid (∀ i, m ≤ i → i < n → ¬ zs.getD i 0 < t) := fun i hi hin => by
          have := HL.out
          by_cases hi' : i = m
          · subst hi'; exact hlt2
          · have := HA.out m i (by omega) (by omega)
            omega
        generalize zs.getD m 0 = x at *
        go_wp2
        exact ⟨⟨l, m, by omega, by omega, rfl, by go_num, H1, H2', trivial⟩, by simp [intOf]; omega⟩
    · obtain rfl : l = u := by omega
      by_cases hln : l < n
      · obtain ⟨hl, _, hin⟩ := h
        obtain ⟨b, o, rfl, hb, hcell⟩ := hin l hln
        clear hin
        have hx := hcell l hln
        have hxu := HU.out l
        clear hl hcell
        by_cases he : zs.getD l 0 = t
        · have HR : Hid (RankOf zs t l) := .inl ⟨l, by rw [HL.out]; exact hln, he, rfl⟩
          generalize zs.getD l 0 = x at *
          subst he
          go_wp2
          go_ret
          exact ⟨_, rfl, HR, rfl⟩
        · have HR : Hid (RankOf zs t (-1)) := .inr ⟨fun k hk e => by
            have h1 := H1.out k
            have h2 := H2.out k
            have h3 := HL.out
            by_cases hkl : k < l
            · have := h1 hkl; omega
            · by_cases hkl2 : k = l
              · subst hkl2; exact he e
              · have := HA.out l k (by omega) hk
                have := H2.out l (Nat.le_refl _) hln
                omega, rfl⟩
          generalize zs.getD l 0 = x at *
          go_wp2
          go_ret
          exact ⟨_, rfl, HR, rfl⟩
      · have HR : Hid (RankOf zs t (-1)) := .inr ⟨fun k hk e => by
          have h1 := H1.out k
          have h3 := HL.out
          have := h1 (by omega)
          omega, rfl⟩
        go_wp2
        go_ret
        exact ⟨_, rfl, HR, rfl⟩
end Go.Proofs.Qxb6602686a
