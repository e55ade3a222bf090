/-
  zzCloneU64s.
-/
import Derived.Test.Qxb6602686aKeep
namespace Go.Proofs.Qxb6602686a
open Go.RowKit
set_option linter.unusedVariables false

theorem info22 : (Try.prog.info? 22).map (fun i => (i.zero, i.size, i.bytes)) = some (some (.slice none 0 0), 1, 24) := by kernel_rfl

/-- After k rounds: the first k rows are copies. -/
def Got (g : Nat) (w : World) (m : Nat) (L : Nat → Nat) (Z : Nat → List Int) (k : Nat) : Prop :=
  ∃ A' : Nat → Option Addr, w.rowIs g 22 m (fun r => if r < k then .slice (A' r) (L r) (L r) else .slice none 0 0) ∧ ∀ r, r < k → SlN (· = g) w.heap.size .u64 w (A' r) (L r) (L r) (Z r)

set_option maxHeartbeats 1000000 in
theorem cloneU64s_any (to : Option Addr) (m cap : Nat) (A : Nat → Option Addr) (L C : Nat → Nat) (Z : Nat → List Int) (w : World) (h : In2 w to m A L C) (hnil : to = none → m = 0) (hr : ∀ r, r < m → In .u64 w (A r) (L r) (Z r) ∧ L r ≤ 131072) (hm : m ≤ 131072) :
    Calls Try.prog 11 #[.slice to m cap] w fun e w' => (∃ to' A', Hid (e = .returned (.slice to' m m) ∧ Sls w'.heap.size w' to' m m A' L L Z)) ∧ Below w.heap.size w w' := by
  obtain ⟨i0, hi, hz0, hz1, hz2⟩ := info_parts info22
  have hq := fun (w : World) (a : Option Addr) (n c n' c' : Nat) => Lib.run_eql_slice_nil (P := Try.prog) w 23 22 a n c n' c' Try.underlying23
  cases to with
  | none =>
    have h0 := hnil rfl
    subst h0
    clear h hr
    go_enter Try.func11, Try.ntmps11
    go_wp2
    go_ret
    exact ⟨⟨none, A, ⟨rfl, .inl ⟨rfl, rfl, rfl⟩⟩⟩, Below.refl _ _⟩
  | some x =>
    clear hnil
    have hib : i0.bytes * m ≤ 281474976710656 := by rw [hz2]; omega
    have hmk := fun (w : World) => run_make_row (P := Try.prog) 23 22 i0 (.slice none 0 0) Try.underlying23 hi hz0 hz1 rfl .i64 .i64 m hib (by omega) w
    have H : Hid (∀ r, r < m → In .u64 w (A r) (L r) (Z r) ∧ L r ≤ 131072) := hr
    have HI : Hid (In2 w (some x) m A L C) := h
    clear hr h hi hz0 hz1 hz2 hib
    go_enter Try.func11, Try.ntmps11
    go_wp2
    go_loopw [4] (fun i wr => ∃ k : Nat, k ≤ m ∧ i = .int .i64 k ∧ Hid (Got w.heap.size wr m L Z k) ∧ Below w.heap.size w wr)
      (fun i _ => m - (intOf i).toNat)
    case atStart => exact ⟨0, Nat.zero_le _, rfl, ⟨fun _ => none, by simpa using World.rowIs_made w (.slice none 0 0) m 22, fun r hr => absurd hr (by omega)⟩, (Below.refl _ _).alloc (Nat.le_refl _) _⟩
    case round =>
      obtain ⟨k, hk, rfl, HG, hbel⟩ := hrel
      clear hmk
      by_cases hlt : k < m
      · obtain ⟨b, o, hx, hbw, hc⟩ := HI.out k hlt
        cases hx
        have hc1 : wr.cell? ⟨b, o + k, none⟩ = some (.slice (A k) (L k) (C k)) := (hbel.cell (p := ⟨b, o + k, none⟩) hbw).trans (hc k hlt)
        clear hc
        obtain ⟨⟨r0, r1, r2⟩, hLk⟩ := H.out k hlt
        have hin : In .u64 wr (A k) (L k) (Z k) := by
          refine ⟨r0, r1, fun i hi => ?_⟩
          obtain ⟨b', o', e1, e2, e3⟩ := r2 i hi
          exact ⟨b', o', e1, Nat.lt_of_lt_of_le e2 hbel.size, fun j hj => (hbel.cell (p := ⟨b', o' + j, none⟩) e2).trans (e3 j hj)⟩
        have hcall := cloneU64_any (A k) (L k) (C k) (Z k) wr hin hLk
        clear hin r0 r1 r2
        obtain ⟨A1, HA1, hsl⟩ := HG.out
        have hgl := HA1.lt
        have HA1' : Hid (wr.rowIs w.heap.size 22 m (fun r => if r < k then .slice (A1 r) (L r) (L r) else .slice none 0 0)) := HA1
        have HSL : Hid (∀ r, r < k → SlN (· = w.heap.size) wr.heap.size .u64 wr (A1 r) (L r) (L r) (Z r)) := hsl
        clear HA1 hsl HG
        obtain ⟨l, HL⟩ : ∃ l, Hid (l = L k) := ⟨_, rfl⟩
        obtain ⟨cc, HCC⟩ : ∃ l, Hid (l = C k) := ⟨_, rfl⟩
        obtain ⟨ak, HAK⟩ : ∃ l, Hid (l = A k) := ⟨_, rfl⟩
        rw [← HL.out, ← HCC.out, ← HAK.out] at hcall hc1
        rw [← HL.out] at hLk
        go_wp2_with fail
        refine hcall.mono ?_
        clear hcall hc1
        rintro e w2 ⟨ao', rfl, hsl2, hb2, hnew⟩
        have hrow := HA1'.out.of_block (hb2.block _ hgl)
        have hcell := hrow.cell hlt
        have hfz := hrow.frozen k
        have HROW : Hid ((w2.setCell ⟨w.heap.size, k, none⟩ (.slice ao' l l)).rowIs w.heap.size 22 m (fun j => if j = k then .slice ao' l l else if j < k then .slice (A1 j) (L j) (L j) else .slice none 0 0)) := hrow.set k _
        have HN : Hid (Sl w2.heap.size .u64 w2 ao' l l (Z k)) := hsl2
        have HNB : Hid (∀ a, ao' = some a → wr.heap.size ≤ a.block) := hnew
        have HB2 : Hid (Below wr.heap.size wr w2) := hb2
        clear hrow hsl2 hnew hb2 HA1'
        go_wp2
        go_roundw
        case rel =>
          refine ⟨k + 1, by omega, by go_num, ⟨fun r => if r = k then ao' else A1 r, ?_, ?_⟩, (hbel.trans (HB2.out.mono hbel.size)).setCell (Nat.le_refl _) _⟩
          · refine HROW.out.congr fun j hj => ?_
            by_cases e : j = k
            · subst e; simp [HL.out]
            · rw [if_neg e]
              by_cases e2 : j < k
              · simp [e2, e, show j < k + 1 by omega]
              · simp [e2, show ¬ j < k + 1 by omega]
          · intro r hr
            rw [size_set]
            have hkp : Keep (· = w.heap.size) w2.heap.size w2 (w2.setCell ⟨w.heap.size, k, none⟩ (.slice ao' l l)) := Keep.setCell (p := (· = w.heap.size)) (q := ⟨w.heap.size, k, none⟩) (Keep.refl _ _ _) (.inr rfl) _
            by_cases e : r = k
            · subst e
              show SlN _ _ _ _ (if r = r then ao' else A1 r) _ _ _
              rw [if_pos rfl, ← HL.out]
              refine SlN.keep ⟨HN.out, fun a ha hb => ?_⟩ hkp (Nat.le_refl _)
              have := HNB.out a ha
              omega
            · show SlN _ _ _ _ (if r = k then ao' else A1 r) _ _ _
              rw [if_neg e]
              have h1 := HSL.out r (by omega)
              have h2 : Keep (· = w.heap.size) wr.heap.size wr w2 := .ofBelow HB2.out
              exact ((h1.keep h2 (Nat.le_refl _)).mono HB2.out.size).keep hkp (Nat.le_refl _)
        case measure => simp [intOf]; omega
      · obtain rfl : k = m := by omega
        obtain ⟨A1, HA1, hsl⟩ := HG.out
        have HF : Hid (Sls wr.heap.size wr (some ⟨w.heap.size, 0, none⟩) k k A1 L L Z) := .inr ⟨w.heap.size, 0, rfl, HA1.lt, Nat.le_refl _, fun r hr => ⟨by rw [Nat.zero_add, HA1.cell hr, if_pos hr], (hsl r hr).1⟩⟩
        clear HA1 hsl
        go_wp2
        go_ret
        exact ⟨⟨_, _, ⟨rfl, HF.out⟩⟩, hbel⟩
end Go.Proofs.Qxb6602686a
