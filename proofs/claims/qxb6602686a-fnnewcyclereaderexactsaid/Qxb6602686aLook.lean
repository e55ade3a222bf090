/-
  Slices of slices; zzLookup.
-/
import Derived.Test.Qxb6602686aPlace
namespace Go.Proofs.Qxb6602686a
open Go.RowKit
set_option linter.unusedVariables false

/-- A slice of slices of uint64: nil, or in a block below B: row r is the slice (A r) (L r) (C r) and holds Z r. -/
def Sls (B : Nat) (w : World) (ao : Option Addr) (m cap : Nat) (A : Nat → Option Addr) (L C : Nat → Nat) (Z : Nat → List Int) : Prop :=
  (ao = none ∧ m = 0 ∧ cap = 0) ∨
    ∃ b o, ao = some ⟨b, o, none⟩ ∧ b < B ∧ m ≤ cap ∧ ∀ r, r < m → w.cell? ⟨b, o + r, none⟩ = some (.slice (A r) (L r) (C r)) ∧ Sl B .u64 w (A r) (L r) (C r) (Z r)

theorem Sls.below {B w w' ao m cap A L C Z} (h : Sls B w ao m cap A L C Z) (hb : Below B w w') : Sls B w' ao m cap A L C Z := by
  obtain h | ⟨b, o, h1, h2, h3, h4⟩ := h
  · exact .inl h
  · exact .inr ⟨b, o, h1, h2, h3, fun r hr => ⟨(hb.cell (p := ⟨b, o + r, none⟩) h2).trans (h4 r hr).1, (h4 r hr).2.below hb⟩⟩

theorem Sls.up {w w' ao m cap A L C Z} (h : Sls w.heap.size w ao m cap A L C Z) (hb : Below w.heap.size w w') : Sls w'.heap.size w' ao m cap A L C Z := by
  obtain h | ⟨b, o, h1, h2, h3, h4⟩ := h.below hb
  · exact .inl h
  · exact .inr ⟨b, o, h1, Nat.lt_of_lt_of_le h2 hb.size, h3, fun r hr => ⟨(h4 r hr).1, (h4 r hr).2.mono hb.size⟩⟩

theorem Sl.up {k w w' ao n cap zs} (h : Sl w.heap.size k w ao n cap zs) (hb : Below w.heap.size w w') : Sl w'.heap.size k w' ao n cap zs := (h.below hb).mono hb.size

/-- The last of the first k keys that is id. -/
def lastK (zs : List Int) (id : Int) : Nat → Option Nat
  | 0 => none
  | k + 1 => if zs.getD k 0 = id then some k else lastK zs id k

theorem lastK_lt (zs : List Int) (id : Int) (k i : Nat) (h : lastK zs id k = some i) : i < k := by
  induction k with
  | zero => cases h
  | succ k ih =>
    unfold lastK at h
    split at h
    · cases h; omega
    · have := ih h; omega

/-- The row of that key. -/
def rowV (A : Nat → Option Addr) (L C : Nat → Nat) : Option Nat → Value
  | none => .slice none 0 0
  | some i => .slice (A i) (L i) (C i)

set_option maxHeartbeats 1000000 in
theorem lookup_any (B : Nat) (ko to : Option Addr) (n kc tc : Nat) (zs : List Int) (A : Nat → Option Addr) (L C : Nat → Nat) (Z : Nat → List Int) (id : Int) (w : World)
    (h : Sl B .u64 w ko n kc zs) (ht : Sls B w to n tc A L C Z) (hu : U64s zs) (hn : n ≤ 131072) :
    Calls Try.prog 14 #[.slice ko n kc, .slice to n tc, .int .u64 id] w fun e w' => e = .returned (rowV A L C (lastK zs id n)) ∧ w = w' := by
  have HU : Hid (U64s zs) := hu
  clear hu
  go_enter Try.func14, Try.ntmps14
  go_wp2_with fail
  go_loopw [7, 8] (fun v i wr => ∃ k : Nat, k ≤ n ∧ i = .int .i64 k ∧ v = rowV A L C (lastK zs id k) ∧ w = wr) (fun _ i _ => n - (intOf i).toNat)
  case atStart => exact ⟨0, Nat.zero_le _, rfl, rfl, rfl⟩
  case round =>
    obtain ⟨k, hk, rfl, rfl, rfl⟩ := hrel
    by_cases hlt : k < n
    · obtain ⟨hl, ⟨_, h0, _⟩ | ⟨b, o, rfl, hb, hc, hcell⟩⟩ := h
      · omega
      obtain ⟨_, h0, _⟩ | ⟨tb, tof, rfl, htb, htc, htcell⟩ := ht
      · omega
      have hx := hcell k hlt
      have hxu := HU.out k
      have hy := (htcell k hlt).1
      have HK : Hid (lastK zs id (k + 1) = if zs.getD k 0 = id then some k else lastK zs id k) := rfl
      clear hl hcell htcell
      generalize zs.getD k 0 = x at *
      by_cases he : x = id
      · subst he
        have HV : Hid (rowV A L C (lastK zs x (k + 1)) = .slice (A k) (L k) (C k)) := by show _ = _; rw [HK.out, if_pos rfl]; rfl
        clear HK
        generalize rowV A L C (lastK zs x k) = u at *
        go_wp2
        exact ⟨⟨k + 1, by omega, by go_num, HV.out.symm, trivial⟩, by simp [intOf]; omega⟩
      · have HV : Hid (rowV A L C (lastK zs id (k + 1)) = rowV A L C (lastK zs id k)) := by show _ = _; rw [HK.out, if_neg he]
        clear HK
        generalize rowV A L C (lastK zs id k) = u at *
        go_wp2
        exact ⟨⟨k + 1, by omega, by go_num, HV.out.symm, trivial⟩, by simp [intOf]; omega⟩
    · obtain rfl : k = n := by omega
      obtain ⟨u, HV⟩ : ∃ u, Hid (rowV A L C (lastK zs id k) = u) := ⟨_, rfl⟩
      rw [HV.out]
      go_wp2
      go_ret
      exact ⟨by rw [HV.out]; rfl, rfl⟩
end Go.Proofs.Qxb6602686a
