/-
  The reader in memory while newCycleReader runs.
-/
import Derived.Test.Qxb6602686aCl2
import Derived.Deep.AppendLies
import Derived.Deep.DeepAppendRoom
namespace Go.Proofs.Qxb6602686a
open Go.RowKit
set_option linter.unusedVariables false

/-- The reader's fields, i ids laid. -/
def rdF (n : Nat) (B : Nat → Nat) (i : Nat) : Nat → Value
  | 0 => .slice (some ⟨B 0, 0, none⟩) i n
  | 1 => .slice (some ⟨B 1, 0, none⟩) n n
  | 2 => .slice (some ⟨B 2, 0, none⟩) n n
  | 3 => .int .i64 1048576
  | 4 => .slice (some ⟨B 3, 0, none⟩) n n
  | 5 => .slice (some ⟨B 4, 0, none⟩) n n
  | 6 => .slice none 0 0
  | 7 => .bool false
  | 8 => .slice (some ⟨B 5, 0, none⟩) n n
  | 9 => .slice (some ⟨B 6, 0, none⟩) n n
  | 10 => .slice (some ⟨B 7, 0, none⟩) n n
  | _ => .slice none 0 0

/-- The reader: i ids laid; the rows 'next' and 'arcsAfter' as told, the others as they were made. -/
structure St (H : Nat) (w : World) (R n : Nat) (B : Nat → Nat) (i : Nat) (ids : List Int) (nx : Nat → Value) (af : Nat → Int) : Prop where
  hr : H ≤ R
  rd : w.rowIs R 56 12 (rdF n B i)
  rows : ∀ j, j < 8 → H ≤ B j ∧ B j ≠ R
  ne : ∀ j k, j < 8 → k < 8 → j ≠ k → B j ≠ B k
  ids : w.ownsRow H 48 1 (.slice (some ⟨B 0, 0, none⟩) i n) i (ids.map (Value.int .u64))
  next : w.rowIs (B 1) 30 n nx
  arcs : w.rowIs (B 2) 3 n (fun k => .int .i64 (af k))
  zeros : ∀ j, 3 ≤ j → j < 8 → w.rowIs (B j) (mel j) n (fun _ => mzv j)

theorem mzv_cells : ∀ j, (mzv j).cells = #[mzv j]
  | 0 => rfl | 1 => rfl | 2 => rfl | 3 => rfl | 4 => rfl | 5 => rfl | 6 => rfl | j + 7 => rfl

theorem made_row {w : World} {b n : Nat} {t : TypeId} {z : Value} (h : w.heap[b]? = some (.cells (madeCells #[z] n) t)) : w.rowIs b t n (fun _ => z) :=
  ⟨_, h, size_madeCells _ _, fun i hi => by simp [madeCells, hi, Nat.mod_one]⟩

theorem Rdr.st {H w R n B} (h : Rdr H w R n B) (hn : n ≤ 131072) : St H w R n B 0 [] (fun _ => .slice none 0 0) (fun _ => 0) where
  hr := h.hr.1
  rd := ⟨_, h.rd, rfl, fun i hi => by
    match i, hi with
    | 0, _ => rfl
    | 1, _ => rfl
    | 2, _ => rfl
    | 3, _ => rfl
    | 4, _ => rfl
    | 5, _ => rfl
    | 6, _ => rfl
    | 7, _ => rfl
    | 8, _ => rfl
    | 9, _ => rfl
    | 10, _ => rfl
    | 11, _ => rfl
    | j + 12, h => exact absurd h (by omega)⟩
  rows := fun j hj => ⟨(h.rows j hj).1, (h.rows j hj).2.2.1⟩
  ne := h.ne
  ids := ⟨rfl, .inr ⟨B 0, n, _, rfl, (h.rows 0 (by omega)).1, (h.rows 0 (by omega)).2.2.2, Nat.zero_le _, by unfold maxLen; omega, by rw [mzv_cells]; simp [size_madeCells], by simp⟩⟩
  next := made_row (z := .slice none 0 0) ((h.rows 1 (by omega)).2.2.2)
  arcs := made_row (z := .int .i64 0) ((h.rows 2 (by omega)).2.2.2)
  zeros := fun j h3 hj => by
    have := (h.rows j hj).2.2.2
    rw [mzv_cells] at this
    exact made_row this

theorem own_block {w w' : World} {base : Nat} {e : TypeId} {s g n m cap : Nat} {xs : List Value} (h : w.ownsRow base e s (.slice (some ⟨g, 0, none⟩) n cap) m xs) (hb : w'.heap[g]? = w.heap[g]?) : w'.ownsRow base e s (.slice (some ⟨g, 0, none⟩) n cap) m xs := by
  obtain ⟨h0, ⟨h1, _⟩ | ⟨g', cap', cur, h1, h2, h3, h4⟩⟩ := h
  · cases h1
  · have e : g' = g := by injection h1 with e1; injection e1 with e2; injection e2 with e3; exact e3.symm
    subst e
    exact ⟨h0, .inr ⟨g', cap', cur, h1, h2, hb.trans h3, h4⟩⟩

section
variable {H : Nat} {w w' : World} {R n : Nat} {B : Nat → Nat} {i : Nat} {ids : List Int} {nx : Nat → Value} {af : Nat → Int}

theorem St.lt (h : St H w R n B i ids nx af) : R < w.heap.size ∧ ∀ j, j < 8 → B j < w.heap.size := by
  refine ⟨h.rd.lt, fun j hj => ?_⟩
  by_cases e0 : j = 0
  · subst e0; exact (h.ids.lt (B 0) rfl).2
  by_cases e1 : j = 1
  · subst e1; exact h.next.lt
  by_cases e2 : j = 2
  · subst e2; exact h.arcs.lt
  exact (h.zeros j (by omega) hj).lt

theorem St.same (h : St H w R n B i ids nx af) (hR : w'.heap[R]? = w.heap[R]?) (hB : ∀ j, j < 8 → w'.heap[B j]? = w.heap[B j]?) : St H w' R n B i ids nx af where
  hr := h.hr
  rd := h.rd.of_block hR
  rows := h.rows
  ne := h.ne
  ids := own_block h.ids (hB 0 (by omega))
  next := h.next.of_block (hB 1 (by omega))
  arcs := h.arcs.of_block (hB 2 (by omega))
  zeros := fun j h3 hj => (h.zeros j h3 hj).of_block (hB j hj)

/-- What a step that turns none of the reader's blocks leaves. -/
theorem St.keep {p : Nat → Prop} (h : St H w R n B i ids nx af) (hk : Keep p w.heap.size w w') (hp : ∀ b, p b → b < w.heap.size → b ≠ R ∧ ∀ j, j < 8 → b ≠ B j) : St H w' R n B i ids nx af :=
  h.same (hk.block R h.lt.1 (fun e => (hp _ e h.lt.1).1 rfl)) (fun j hj => hk.block _ (h.lt.2 j hj) (fun e => (hp _ e (h.lt.2 j hj)).2 j hj rfl))

theorem St.setNext (h : St H w R n B i ids nx af) (k : Nat) (v : Value) : St H (w.setCell ⟨B 1, k, none⟩ v) R n B i ids (fun j => if j = k then v else nx j) af where
  hr := h.hr
  rd := h.rd.setOther (fun e => (h.rows 1 (by omega)).2 e.symm) v
  rows := h.rows
  ne := h.ne
  ids := own_block h.ids (Below.heap_setCell _ _ _ _ (h.ne 0 1 (by omega) (by omega) (by omega)))
  next := h.next.set k v
  arcs := h.arcs.setOther (h.ne 2 1 (by omega) (by omega) (by omega)) v
  zeros := fun j h3 hj => (h.zeros j h3 hj).setOther (h.ne j 1 hj (by omega) (by omega)) v

theorem St.setArcs (h : St H w R n B i ids nx af) (k : Nat) (x : Int) : St H (w.setCell ⟨B 2, k, none⟩ (.int .i64 x)) R n B i ids nx (fun j => if j = k then x else af j) where
  hr := h.hr
  rd := h.rd.setOther (fun e => (h.rows 2 (by omega)).2 e.symm) _
  rows := h.rows
  ne := h.ne
  ids := own_block h.ids (Below.heap_setCell _ _ _ _ (h.ne 0 2 (by omega) (by omega) (by omega)))
  next := h.next.setOther (h.ne 1 2 (by omega) (by omega) (by omega)) _
  arcs := (h.arcs.set k _).congr (fun j hj => by by_cases e : j = k <;> simp [e])
  zeros := fun j h3 hj => (h.zeros j h3 hj).setOther (h.ne j 2 hj (by omega) (by omega)) _

/-- An id appended, the field written. -/
theorem St.setIds {w1 : World} {x : Int} (h : St H w R n B i ids nx af) (hg : w.grownBy w1 (some (B 0))) (ho : w1.ownsRow H 48 1 (.slice (some ⟨B 0, 0, none⟩) (i + 1) n) (i + 1) (ids.map (Value.int .u64) ++ [.int .u64 x])) :
    St H (w1.setCell ⟨R, 0, none⟩ (.slice (some ⟨B 0, 0, none⟩) (i + 1) n)) R n B (i + 1) (ids ++ [x]) nx af where
  hr := h.hr
  rd := ((h.rd.of_block (hg.block R h.lt.1 (fun e => by injection e with e; exact (h.rows 0 (by omega)).2 e.symm))).set 0 _).congr (fun j hj => by
    by_cases e : j = 0
    · subst e; rfl
    · rw [if_neg e]
      match j, e, hj with
      | 0, e, _ => exact absurd rfl e
      | 1, _, _ => rfl
      | 2, _, _ => rfl
      | 3, _, _ => rfl
      | 4, _, _ => rfl
      | 5, _, _ => rfl
      | 6, _, _ => rfl
      | 7, _, _ => rfl
      | 8, _, _ => rfl
      | 9, _, _ => rfl
      | 10, _, _ => rfl
      | j + 11, _, _ => rfl)
  rows := h.rows
  ne := h.ne
  ids := by
    rw [List.map_append]
    exact own_block ho (Below.heap_setCell _ _ _ _ (h.rows 0 (by omega)).2)
  next := (h.next.of_block (hg.block _ (h.lt.2 1 (by omega)) (fun e => by injection e with e; exact h.ne 1 0 (by omega) (by omega) (by omega) e))).setOther (h.rows 1 (by omega)).2 _
  arcs := (h.arcs.of_block (hg.block _ (h.lt.2 2 (by omega)) (fun e => by injection e with e; exact h.ne 2 0 (by omega) (by omega) (by omega) e))).setOther (h.rows 2 (by omega)).2 _
  zeros := fun j h3 hj => ((h.zeros j h3 hj).of_block (hg.block _ (h.lt.2 j hj) (fun e => by injection e with e; exact h.ne j 0 hj (by omega) (by omega) e))).setOther (h.rows j hj).2 _
end
end Go.Proofs.Qxb6602686a
