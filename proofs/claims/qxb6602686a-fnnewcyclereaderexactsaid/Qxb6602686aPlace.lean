/-
  The order of the members; zzPlaceOf.
-/
import Derived.Test.Qxb6602686aRank
namespace Go.Proofs.Qxb6602686a
open Go.RowKit
set_option linter.unusedVariables false

/-- first, then the other members. -/
def idsOf (first : Int) (zs : List Int) : List Int := first :: zs.filter (fun x => x != first)

theorem filter_asc (zs : List Int) (ha : Asc zs) (f : Nat) (hf : f < zs.length) : zs.filter (fun x => x != zs.getD f 0) = zs.take f ++ zs.drop (f + 1) := by
  have e : zs = zs.take f ++ (zs.getD f 0 :: zs.drop (f + 1)) := by
    have h1 : zs.drop f = zs.getD f 0 :: zs.drop (f + 1) := by
      rw [List.drop_eq_getElem_cons hf]
      simp [List.getD, hf]
    rw [← h1, List.take_append_drop]
  have hne : ∀ i, i < zs.length → i ≠ f → zs.getD i 0 ≠ zs.getD f 0 := by
    intro i hi hif
    by_cases h : i < f
    · have := ha i f h hf; omega
    · have := ha f i (by omega) hi; omega
  have h1 : (zs.take f).filter (fun x => x != zs.getD f 0) = zs.take f := by
    rw [List.filter_eq_self]
    intro x hx
    obtain ⟨i, hi, rfl⟩ := List.getElem_of_mem hx
    simp at hi
    have := hne i (by omega) (by omega)
    simp [List.getD, show i < zs.length by omega, hf] at this ⊢
    exact this
  have h2 : (zs.drop (f + 1)).filter (fun x => x != zs.getD f 0) = zs.drop (f + 1) := by
    rw [List.filter_eq_self]
    intro x hx
    obtain ⟨i, hi, rfl⟩ := List.getElem_of_mem hx
    simp at hi
    have := hne (f + 1 + i) (by omega) (by omega)
    simp [List.getD, show f + 1 + i < zs.length by omega, hf] at this ⊢
    exact this
  generalize hx : zs.getD f 0 = x at *
  conv => lhs; rw [e]
  rw [List.filter_append, List.filter_cons, h1, h2]
  simp

theorem ids_len (zs : List Int) (ha : Asc zs) (f : Nat) (hf : f < zs.length) : (idsOf (zs.getD f 0) zs).length = zs.length := by
  unfold idsOf
  rw [filter_asc zs ha f hf]
  simp; omega

theorem ids_at (zs : List Int) (ha : Asc zs) (f : Nat) (hf : f < zs.length) (k : Nat) (hk : k < zs.length) :
    (idsOf (zs.getD f 0) zs).getD k 0 = if k = 0 then zs.getD f 0 else if k ≤ f then zs.getD (k - 1) 0 else zs.getD k 0 := by
  unfold idsOf
  rw [filter_asc zs ha f hf]
  cases k with
  | zero => simp
  | succ k =>
    simp only [List.getD_cons_succ, Nat.add_sub_cancel, if_neg (Nat.succ_ne_zero k)]
    have hlt : (zs.take f).length = f := by simp; omega
    by_cases h : k + 1 ≤ f
    · rw [if_pos h, List.getD, List.getElem?_append_left (by omega), List.getElem?_take_of_lt (by omega), List.getD]
    · rw [if_neg h, List.getD, List.getElem?_append_right (by omega), hlt, List.getElem?_drop, List.getD, show f + 1 + (k - f) = k + 1 by omega]

/-- The place of t among the members in that order, or -1. -/
def PlaceOf (zs : List Int) (first t r : Int) : Prop := RankOf (idsOf first zs) t r

theorem place_first (zs : List Int) (first : Int) : PlaceOf zs first first 0 := .inl ⟨0, by simp [idsOf], by simp [idsOf], rfl⟩

theorem place_none (zs : List Int) (first t : Int) (hne : t ≠ first) (h : ∀ k, k < zs.length → zs.getD k 0 ≠ t) : PlaceOf zs first t (-1) := by
  refine .inr ⟨fun k hk e => ?_, rfl⟩
  have hm : t ∈ idsOf first zs := by
    rw [← e, List.getD, List.getElem?_eq_getElem hk]
    exact List.getElem_mem hk
  unfold idsOf at hm
  rcases List.mem_cons.1 hm with e' | e'
  · exact hne e'
  · obtain ⟨i, hi, e''⟩ := List.getElem_of_mem (List.mem_filter.1 e').1
    exact h i hi (by simpa [List.getD, hi] using e'')

theorem place_lo (zs : List Int) (ha : Asc zs) (f : Nat) (hf : f < zs.length) (k : Nat) (hk : k < zs.length) (hlt : ¬ zs.getD f 0 < zs.getD k 0) (hne : zs.getD k 0 ≠ zs.getD f 0) : PlaceOf zs (zs.getD f 0) (zs.getD k 0) ((k : Int) + 1) := by
  have hkf : k < f := by
    apply Nat.lt_of_not_le
    intro h
    by_cases e : k = f
    · subst e; exact hne rfl
    · have := ha f k (by omega) hk; omega
  refine .inl ⟨k + 1, ?_, ?_, by simp⟩
  · rw [ids_len zs ha f hf]; omega
  · rw [ids_at zs ha f hf (k + 1) (by omega), if_neg (by omega), if_pos (by omega), Nat.add_sub_cancel]

theorem place_hi (zs : List Int) (ha : Asc zs) (f : Nat) (hf : f < zs.length) (k : Nat) (hk : k < zs.length) (hlt : zs.getD f 0 < zs.getD k 0) : PlaceOf zs (zs.getD f 0) (zs.getD k 0) (k : Int) := by
  have hkf : f < k := by
    apply Nat.lt_of_not_le
    intro h
    by_cases e : k = f
    · subst e; omega
    · have := ha k f (by omega) hf; omega
  refine .inl ⟨k, ?_, ?_, rfl⟩
  · rw [ids_len zs ha f hf]; exact hk
  · rw [ids_at zs ha f hf k hk, if_neg (by omega), if_neg (by omega)]

set_option maxHeartbeats 1000000 in
theorem place_any (B : Nat) (ao : Option Addr) (n cap : Nat) (zs : List Int) (f : Nat) (t : Int) (w : World) (h : Sl B .u64 w ao n cap zs) (ha : Asc zs) (hu : U64s zs) (hn : n ≤ 131072) (hf : f < n) (hB : B ≤ w.heap.size) :
    Calls Try.prog 13 #[.slice ao n cap, .int .u64 (zs.getD f 0), .int .u64 t] w fun e w' => ∃ r, e = .returned (.int .i64 r) ∧ Hid (PlaceOf zs (zs.getD f 0) t r) ∧ w = w' := by
  have hl := h.1
  have HF : Hid (f < zs.length) := by show _ < _; omega
  have HA : Hid (Asc zs) := ha
  by_cases ht : t = zs.getD f 0
  · have HP : Hid (PlaceOf zs (zs.getD f 0) t 0) := by rw [ht]; exact place_first zs _
    generalize zs.getD f 0 = x at *
    subst ht
    clear h ha hu
    go_enter Try.func13, Try.ntmps13
    go_wp2
    go_ret
    exact ⟨_, rfl, HP, rfl⟩
  · have hc := rank_any ao n cap zs t w (h.toIn hB) ha hu hn
    obtain ⟨x, HX⟩ : ∃ x, Hid (x = zs.getD f 0) := ⟨_, rfl⟩
    have hx := hu f
    rw [← HX.out] at ht hx ⊢
    clear h ha hu
    go_enter Try.func13, Try.ntmps13
    go_wp2_with fail
    refine hc.mono ?_
    clear hc
    rintro e w' ⟨r, rfl, HR, rfl⟩
    rcases HR.out with ⟨k, hk, hkt, rfl⟩ | ⟨hno, rfl⟩
    · by_cases hlt : x < t
      · have HP : Hid (PlaceOf zs x t (k : Int)) := by
          rw [HX.out] at hlt ⊢
          rw [← hkt] at hlt ⊢
          exact place_hi zs HA.out f HF.out k hk hlt
        clear hkt
        go_wp2
        go_ret
        exact ⟨_, rfl, HP, rfl⟩
      · have HP : Hid (PlaceOf zs x t ((k : Int) + 1)) := by
          rw [HX.out] at hlt ht ⊢
          rw [← hkt] at hlt ht ⊢
          exact place_lo zs HA.out f HF.out k hk hlt ht
        clear hkt
        go_wp2
        go_ret
        exact ⟨_, rfl, HP, rfl⟩
    · have HP : Hid (PlaceOf zs x t (-1)) := place_none zs x t ht hno
      clear hno
      go_wp2
      go_ret
      exact ⟨_, rfl, HP, rfl⟩
end Go.Proofs.Qxb6602686a
