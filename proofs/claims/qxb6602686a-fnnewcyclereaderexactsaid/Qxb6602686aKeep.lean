/-
  A frame: all blocks below H but those of p are as they were.
-/
import Derived.Test.Qxb6602686aZzb
import Derived.Deep.OwnRows
namespace Go.Proofs.Qxb6602686a
open Go.RowKit
set_option linter.unusedVariables false

/-- Below block number H, but for the blocks of p, the world w' is as w was. -/
structure Keep (p : Nat → Prop) (H : Nat) (w w' : World) : Prop where
  os : w'.os = w.os
  tape : w'.tape = w.tape
  output : w'.output = w.output
  size : w.heap.size ≤ w'.heap.size
  block : ∀ k, k < H → ¬ p k → w'.heap[k]? = w.heap[k]?

section
variable {p : Nat → Prop} {H : Nat} {a b c w w' : World}
theorem Keep.refl (p : Nat → Prop) (H : Nat) (w : World) : Keep p H w w := ⟨rfl, rfl, rfl, Nat.le_refl _, fun _ _ _ => rfl⟩
theorem Keep.trans (h : Keep p H a b) (k : Keep p H b c) : Keep p H a c :=
  ⟨k.os.trans h.os, k.tape.trans h.tape, k.output.trans h.output, Nat.le_trans h.size k.size, fun i hi hp => (k.block i hi hp).trans (h.block i hi hp)⟩
theorem Keep.mono {q : Nat → Prop} {H' : Nat} (h : Keep p H a b) (hH : H' ≤ H) (hq : ∀ k, k < H' → p k → q k) : Keep q H' a b :=
  ⟨h.os, h.tape, h.output, h.size, fun i hi hp => h.block i (by omega) (fun e => hp (hq i hi e))⟩
theorem Keep.drew (h : Keep p H a w) : Keep p H a w.drew := ⟨h.os, h.tape, h.output, h.size, h.block⟩
theorem Keep.ofBelow (h : Below H a b) : Keep p H a b := ⟨h.os, h.tape, h.output, h.size, fun k hk _ => h.block k hk⟩
theorem Keep.drewN (h : Keep p H a w) (q : Nat) : Keep p H a (w.drewN q) := h.trans (.ofBelow (below_drewN (Below.refl _ _) q))
theorem Keep.alloc (h : Keep p H a w) (hB : H ≤ w.heap.size) (o : Obj) : Keep p H a (w.alloc o) := h.trans (.ofBelow ((Below.refl _ _).alloc hB o))
theorem Keep.setCell (h : Keep p H a w) {q : Addr} (hq : H ≤ q.block ∨ p q.block) (u : Value) : Keep p H a (w.setCell q u) :=
  h.trans ⟨rfl, rfl, rfl, by simp [World.setCell], fun k hk hp => Below.heap_setCell _ _ _ _ (fun e => by
    rcases hq with hq | hq
    · omega
    · exact hp (by rw [e]; exact hq))⟩
theorem Keep.grown {row : Option Nat} (h : Keep p H a w) (hg : w.grownBy w' row) (hB : H ≤ w.heap.size) (hr : ∀ k, row = some k → H ≤ k ∨ p k) : Keep p H a w' :=
  h.trans ⟨hg.os, hg.tape, hg.output, hg.size, fun k hk hp => hg.block k (by omega) (fun e => by
    rcases hr k e.symm with h | h
    · omega
    · exact hp h)⟩
theorem Keep.cell (h : Keep p H w w') {q : Addr} (h1 : q.block < H) (h2 : ¬ p q.block) : w'.cell? q = w.cell? q := World.cell?_of_block (w := w) (h.block _ h1 h2)
theorem Keep.below (h : Keep p H a b) {B : Nat} (hB : B ≤ H) (hp : ∀ k, p k → B ≤ k) : Below B a b :=
  ⟨h.os, h.tape, h.output, h.size, fun k hk => h.block k (by omega) (fun e => by have := hp k e; omega)⟩
theorem Keep.row (h : Keep p H w w') {g : Nat} {t : TypeId} {n : Nat} {f : Nat → Value} (hr : w.rowIs g t n f) (h1 : g < H) (h2 : ¬ p g) : w'.rowIs g t n f := hr.of_block (h.block g h1 h2)
theorem Keep.map (h : Keep p H w w') {g n : Nat} {f : Int → Option Value} (hr : MapF w g n f) (h1 : g < H) (h2 : ¬ p g) : MapF w' g n f := hr.same (h.block g h1 h2)
end

/-- A slice that does not lie in the blocks of p. -/
def SlN (p : Nat → Prop) (B : Nat) (k : IntKind) (w : World) (ao : Option Addr) (n cap : Nat) (zs : List Int) : Prop :=
  Sl B k w ao n cap zs ∧ ∀ a, ao = some a → ¬ p a.block

theorem SlN.keep {p B H k w w' ao n cap zs} (h : SlN p B k w ao n cap zs) (hk : Keep p H w w') (hB : B ≤ H) : SlN p B k w' ao n cap zs := by
  obtain ⟨⟨h0, h | ⟨b, o, h1, h2, h3, h4⟩⟩, hp⟩ := h
  · exact ⟨⟨h0, .inl h⟩, hp⟩
  · exact ⟨⟨h0, .inr ⟨b, o, h1, h2, h3, fun i hi => (hk.cell (q := ⟨b, o + i, none⟩) (Nat.lt_of_lt_of_le h2 hB) (hp ⟨b, o, none⟩ h1)).trans (h4 i hi)⟩⟩, hp⟩

theorem SlN.mono {p B B' k w ao n cap zs} (h : SlN p B k w ao n cap zs) (hB : B ≤ B') : SlN p B' k w ao n cap zs := ⟨h.1.mono hB, h.2⟩

theorem size_set (w : World) (a : Addr) (v : Value) : (w.setCell a v).heap.size = w.heap.size := by simp [World.setCell]
theorem size_drewN (w : World) (q : Nat) : (w.drewN q).heap.size = w.heap.size := by
  induction q generalizing w with
  | zero => rfl
  | succ q ih => first | exact ih _ | (show (World.drewN _ _).heap.size = _; exact ih _)
end Go.Proofs.Qxb6602686a
