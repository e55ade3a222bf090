/-
  Common words for this seat's walks: a slice of integers that lies in memory ('Sl'); the clone of one.
-/
import Derived.Test.Qxb6602686aMk
import Derived.Test.Qxb6602686aMap
import Derived.WalkKit
import Derived.WalkSpells
import Derived.WalkLawsBesides
import Derived.ProofKit
import Derived.Below
import Derived.Deep.QuietTactic
import Derived.BigQuiet
import Derived.Deep.RegionWith
import Derived.BigRegion
import Derived.Deep.Cut
namespace Go.Proofs.Qxb6602686a
open Go.RowKit
set_option linter.unusedVariables false

/-- A slice of integers of kind k: nil, or in a block below B: its n elements are zs. -/
def Sl (B : Nat) (k : IntKind) (w : World) (ao : Option Addr) (n cap : Nat) (zs : List Int) : Prop :=
  zs.length = n ∧ ((ao = none ∧ n = 0 ∧ cap = 0) ∨
    ∃ b o, ao = some ⟨b, o, none⟩ ∧ b < B ∧ n ≤ cap ∧ ∀ i, i < n → w.cell? ⟨b, o + i, none⟩ = some (.int k (zs.getD i 0)))

theorem Sl.mono {B B' k w ao n cap zs} (h : Sl B k w ao n cap zs) (hB : B ≤ B') : Sl B' k w ao n cap zs := by
  obtain ⟨h0, h | ⟨b, o, h1, h2, h3, h4⟩⟩ := h
  · exact ⟨h0, .inl h⟩
  · exact ⟨h0, .inr ⟨b, o, h1, by omega, h3, h4⟩⟩

theorem Sl.below {B k w w' ao n cap zs} (h : Sl B k w ao n cap zs) (hb : Below B w w') : Sl B k w' ao n cap zs := by
  obtain ⟨h0, h | ⟨b, o, h1, h2, h3, h4⟩⟩ := h
  · exact ⟨h0, .inl h⟩
  · exact ⟨h0, .inr ⟨b, o, h1, h2, h3, fun i hi => (hb.cell (p := ⟨b, o + i, none⟩) h2).trans (h4 i hi)⟩⟩

theorem Sl.alloc {B k w ao n cap zs} (h : Sl B k w ao n cap zs) (hB : B ≤ w.heap.size) (x : Obj) : Sl B k (w.alloc x) ao n cap zs := h.below ((Below.refl B w).alloc hB x)
theorem Sl.drew {B k w ao n cap zs} (h : Sl B k w ao n cap zs) : Sl B k w.drew ao n cap zs := h.below (Below.refl B w).drew
theorem Sl.drewN {B k w ao n cap zs} (h : Sl B k w ao n cap zs) (q : Nat) : Sl B k (w.drewN q) ao n cap zs := h.below (below_drewN (Below.refl B w) q)

theorem info24 : (Try.prog.info? 24).map (fun i => (i.zero, i.size, i.bytes)) = some (some (.int .u64 0), 1, 8) := by kernel_rfl
theorem info48 : (Try.prog.info? 48).map (fun i => (i.zero, i.size, i.bytes)) = some (some (.int .u64 0), 1, 8) := by kernel_rfl
theorem info3 : (Try.prog.info? 3).map (fun i => (i.zero, i.size, i.bytes)) = some (some (.int .i64 0), 1, 8) := by kernel_rfl

/-- Each number is a uint64. -/
def U64s (zs : List Int) : Prop := ∀ j, 0 ≤ zs.getD j 0 ∧ zs.getD j 0 ≤ 18446744073709551615

/-- What a clone is told of its argument. -/
def In (k : IntKind) (w : World) (ao : Option Addr) (n : Nat) (zs : List Int) : Prop :=
  zs.length = n ∧ (ao = none → n = 0) ∧ ∀ i, i < n → ∃ b o, ao = some ⟨b, o, none⟩ ∧ b < w.heap.size ∧ ∀ i, i < n → w.cell? ⟨b, o + i, none⟩ = some (.int k (zs.getD i 0))

theorem Sl.toIn {B k w ao n cap zs} (h : Sl B k w ao n cap zs) (hB : B ≤ w.heap.size) : In k w ao n zs := by
  obtain ⟨h0, ⟨h1, h2, h3⟩ | ⟨b, o, h1, h2, h3, h4⟩⟩ := h
  · exact ⟨h0, fun _ => h2, fun i hi => by omega⟩
  · exact ⟨h0, fun h => by simp [h1] at h, fun i hi => ⟨b, o, h1, by omega, h4⟩⟩

theorem own_Sl {B e k w n cap g zs} (h : World.ownsRow w B e 1 (.slice (some ⟨g, 0, none⟩) n cap) n (zs.map (Value.int k))) : Sl w.heap.size k w (some ⟨g, 0, none⟩) n cap zs := by
  have hl : zs.length = n := by simpa using h.1
  have hg := h.lt g rfl
  have hc : n ≤ cap := by
    obtain ⟨_, ⟨h', _⟩ | ⟨g', cap', cur, h', _, _, hnc, _⟩⟩ := h
    · simp at h'
    · simp at h'; omega
  refine ⟨hl, .inr ⟨g, 0, rfl, hg.2, hc, fun i hi => ?_⟩⟩
  rw [Nat.zero_add, h.cellAt i (by omega)]
  simp [List.getD, show i < zs.length by omega]

/-- After k rounds of the copying loop. -/
def part (zs : List Int) (k : Nat) : List Int := zs.take k ++ List.replicate (zs.length - k) 0
theorem part_zero (zs : List Int) : part zs 0 = List.replicate zs.length 0 := by simp [part]
theorem part_all (zs : List Int) : part zs zs.length = zs := by simp [part]
theorem part_set (zs : List Int) (k : Nat) (h : k < zs.length) : (part zs k).set k (zs.getD k 0) = part zs (k + 1) := by
  apply List.ext_getElem?
  intro i
  simp only [part, List.getElem?_set, List.getElem?_append, List.getElem?_take, List.length_take, List.getElem?_replicate, List.length_append, List.length_replicate]
  have := h
  by_cases h1 : k = i
  · subst h1; simp [List.getD, h, show k < min k zs.length + (zs.length - k) by omega, show k < min (k+1) zs.length by omega]
  · rw [if_neg h1]
    by_cases h2 : i < k
    · simp [show i < min k zs.length by omega, show i < min (k+1) zs.length by omega, h2, show i < k + 1 by omega]
    · simp [show ¬ i < min k zs.length by omega, show ¬ i < min (k+1) zs.length by omega]
      by_cases h3 : i < zs.length
      · rw [if_pos (by omega), if_pos (by omega)]
      · rw [if_neg (by omega), if_neg (by omega)]

set_option maxHeartbeats 400000 in
theorem cloneU64_any (ao : Option Addr) (n cap : Nat) (zs : List Int) (w : World) (h : In .u64 w ao n zs) (hn : n ≤ 131072) :
    Calls Try.prog 10 #[.slice ao n cap] w fun e w' => ∃ ao', e = .returned (.slice ao' n n) ∧ Sl w'.heap.size .u64 w' ao' n n zs ∧ Below w.heap.size w w' ∧ (∀ a, ao' = some a → w.heap.size ≤ a.block) := by
  obtain ⟨i0, hi, hz0, hz1, hz2⟩ := info_parts info24
  have hq := fun (w : World) (a : Option Addr) (n c n' c' : Nat) => Lib.run_eql_slice_nil (P := Try.prog) w 22 24 a n c n' c' Try.underlying22
  cases ao with
  | none =>
    have h0 := h.2.1 rfl
    have hzs : zs = [] := List.eq_nil_of_length_eq_zero (by rw [h.1]; exact h0)
    subst hzs
    subst h0
    clear h
    go_enter Try.func10, Try.ntmps10
    go_wp2
    go_ret
    exact ⟨none, rfl, ⟨rfl, .inl ⟨rfl, rfl, rfl⟩⟩, Below.refl _ _, by simp⟩
  | some x =>
    obtain ⟨b, o, s⟩ := x
    have hl := h.1
    have hcell : ∀ i, i < n → s = none ∧ b < w.heap.size ∧ w.cell? ⟨b, o + i, none⟩ = some (.int .u64 (zs.getD i 0)) := by
      intro i hi
      obtain ⟨b', o', e1, e2, e3⟩ := h.2.2 i hi
      simp at e1
      obtain ⟨rfl, rfl, rfl⟩ := e1
      exact ⟨rfl, e2, e3 i hi⟩
    clear h
    have HL : Hid (zs.length = n) := hl
    have hl' : n ≤ zs.length := by omega
    clear hl
    have hib : i0.bytes * n ≤ 281474976710656 := by rw [hz2]; omega
    go_enter Try.func10, Try.ntmps10
    go_wp2_with (first | (at_make; refine wpList_make_full _ rfl _ _ 22 rfl w.heap.size 24 i0 (.int .u64 0) 1 Try.underlying22 hi hz0 hz1 _ _ _ _ n rfl rfl rfl rfl hib ?b3 ?b4 ?_) | go_in)
    case b3 => unfold maxLen; omega
    case b4 => omega
    intro w1 hown hgrow
    have hown1 : w1.ownsRow w.heap.size 24 1 (.slice (some ⟨w.heap.size, 0, none⟩) n n) n ((part zs 0).map (Value.int .u64)) := by
      rw [part_zero, HL.out]; simpa [toList_madeCells_one] using hown
    have hb1 : Below w.heap.size w w1 := (Below.refl _ _).grown hgrow (Nat.le_refl _) (by simp)
    clear hown hgrow hi hz0 hz1 hz2 hib hq
    go_wp2
    go_loopw [4] (fun i wr => ∃ k : Nat, k ≤ n ∧ i = .int .i64 k ∧ wr.ownsRow w.heap.size 24 1 (.slice (some ⟨w.heap.size, 0, none⟩) n n) n ((part zs k).map (Value.int .u64)) ∧ Below w.heap.size w wr)
      (fun i _ => n - (intOf i).toNat)
    case atStart => exact ⟨0, Nat.zero_le _, rfl, hown1, hb1⟩
    case round =>
      obtain ⟨k, hk, rfl, hown, hbel⟩ := hrel
      clear hown1 hb1
      by_cases hlt : k < n
      · obtain ⟨rfl, hbw, hc⟩ := hcell k hlt
        have hc1 : wr.cell? ⟨b, o + k, none⟩ = some (.int .u64 (zs.getD k 0)) := (hbel.cell (p := ⟨b, o + k, none⟩) hbw).trans hc
        have hst := (hown.stored k (.int .u64 (zs.getD k 0))).1
        rw [← List.map_set, part_set zs k (by omega)] at hst
        have HST : Hid ((wr.setCell ⟨w.heap.size, k, none⟩ (.int .u64 (zs.getD k 0))).ownsRow w.heap.size 24 1 (.slice (some ⟨w.heap.size, 0, none⟩) n n) n ((part zs (k + 1)).map (Value.int .u64))) := hst
        have hfz := hown.frozenAt k
        obtain ⟨v0, hv0⟩ : ∃ v0, wr.cell? ⟨w.heap.size, k, none⟩ = some v0 := by
          rw [hown.cellAt k (by omega)]
          have : k < ((part zs k).map (Value.int .u64)).length := by rw [hown.1]; omega
          exact ⟨_, List.getElem?_eq_getElem this⟩
        generalize zs.getD k 0 = z at *
        clear hst hc hown hcell
        go_wp2
        go_roundw
        case rel => exact ⟨k + 1, by omega, by go_num, HST.out, hbel.setCell (Nat.le_refl _) _⟩
        case measure => simp [intOf]; omega
      · have hkn : k = n := by omega
        subst hkn
        have h2 : part zs k = zs := by have := HL.out; subst this; exact part_all zs
        rw [h2] at hown
        have hsl := own_Sl hown
        clear hcell h2
        go_wp2
        go_ret
        exact ⟨_, rfl, hsl, hbel, fun a ha => by simp at ha; subst ha; exact Nat.le_refl _⟩

end Go.Proofs.Qxb6602686a
