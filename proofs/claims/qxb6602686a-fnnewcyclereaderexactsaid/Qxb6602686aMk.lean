/-
  The region of newCycleReader that makes eight slices in whatever order.
-/
import Derived.Test.Qxb6602686aInv
import Derived.Laws.Tables
namespace Go.Proofs.Qxb6602686a
open Go.RowKit
set_option linter.unusedVariables false

def mty : Nat → TypeId
  | 0 => 47 | 1 => 29 | 2 => 30 | 3 => 31 | 4 => 32 | 5 => 31 | 6 => 32 | _ => 29
def mel : Nat → TypeId
  | 0 => 48 | 1 => 30 | 2 => 3 | 3 => 2 | 4 => 4 | 5 => 2 | 6 => 4 | _ => 30
def mzv : Nat → Value
  | 0 => .int .u64 0 | 1 => .slice none 0 0 | 2 => .int .i64 0 | 3 => .int .i64 0 | 4 => .bool false | 5 => .int .i64 0 | 6 => .bool false | _ => .slice none 0 0
/-- The slice that make number j hands over. -/
def mval (n b j : Nat) : Value := .slice (some ⟨b, 0, none⟩) (if j = 0 then 0 else n) n
/-- The reader's fields. -/
def rdr (n : Nat) (B : Nat → Nat) : Array Value :=
  #[mval n (B 0) 0, mval n (B 1) 1, mval n (B 2) 2, .int .i64 1048576, mval n (B 3) 3, mval n (B 4) 4, .slice none 0 0, .bool false, mval n (B 5) 5, mval n (B 6) 6, mval n (B 7) 7, .slice none 0 0]

theorem minfo : ∀ j, j < 8 → Try.prog.underlying (mty j) = some (.slice (mel j)) ∧ (Try.prog.info? (mel j)).map (fun i => (i.zero, i.size, decide (i.bytes ≤ 24))) = some (some (mzv j), 1, true)
  | 0, _ => ⟨by kernel_rfl, by kernel_rfl⟩
  | 1, _ => ⟨by kernel_rfl, by kernel_rfl⟩
  | 2, _ => ⟨by kernel_rfl, by kernel_rfl⟩
  | 3, _ => ⟨by kernel_rfl, by kernel_rfl⟩
  | 4, _ => ⟨by kernel_rfl, by kernel_rfl⟩
  | 5, _ => ⟨by kernel_rfl, by kernel_rfl⟩
  | 6, _ => ⟨by kernel_rfl, by kernel_rfl⟩
  | 7, _ => ⟨by kernel_rfl, by kernel_rfl⟩
  | j + 8, h => absurd h (by omega)

theorem built56 (n : Nat) (B : Nat → Nat) : Try.prog.built 56 [(0, mval n (B 0) 0), (1, mval n (B 1) 1), (2, mval n (B 2) 2), (3, .int .i64 1048576), (4, mval n (B 3) 3), (5, mval n (B 4) 4), (8, mval n (B 5) 5), (9, mval n (B 6) 6), (10, mval n (B 7) 7)] = some (rdr n B) := by kernel_rfl

theorem run_box56 (c : Array Value) (w : World) : (Instr.box 56 (.agg c)).run Try.prog w = .ok (.pointer (some ⟨w.heap.size, 0, none⟩)) (w.alloc (.cells c 56)) := by
  simp [Instr.box, go_sem]

theorem size_al (w : World) (o : Obj) : (w.alloc o).heap.size = w.heap.size + 1 := by
  show (w.heap.push o).size = _
  simp
theorem last_al (w : World) (o : Obj) : (w.alloc o).heap[w.heap.size]? = some o := by
  show (w.heap.push o)[w.heap.size]? = _
  simp

/-- What stands while the region runs: L: which operations are done. -/
structure RInv (n : Nat) (w0 : World) (L : Array Bool) (g : Nat → Option Value) (B : Nat → Nat) (w : World) : Prop where
  sz : L.size = 19
  bel : Below w0.heap.size w0 w
  low : ∀ k, k < 23 → k ≠ 8 → g k = none
  mv : ∀ j, j < 8 → L.getD (2 * j) false = true → g (23 + 2 * j) = some (.int .i64 n)
  mks : ∀ j, j < 8 → L.getD (2 * j + 1) false = true → g (24 + 2 * j) = some (mval n (B j) j) ∧ w0.heap.size ≤ B j ∧ B j < w.heap.size ∧ w.heap[B j]? = some (.cells (madeCells (mzv j).cells n) (mel j))
  ne : ∀ j k, j < 8 → k < 8 → L.getD (2 * j + 1) false = true → L.getD (2 * k + 1) false = true → j ≠ k → B j ≠ B k
  bd : L.getD 16 false = true → g 39 = some (.agg (rdr n B)) ∧ ∀ j, j < 8 → L.getD (2 * j + 1) false = true
  bx : L.getD 17 false = true → L.getD 16 false = true ∧ ∃ R, g 40 = some (.pointer (some ⟨R, 0, none⟩)) ∧ w0.heap.size ≤ R ∧ R < w.heap.size ∧ w.heap[R]? = some (.cells (rdr n B) 56) ∧ ∀ j, j < 8 → B j ≠ R
  asg : L.getD 18 false = true → L.getD 17 false = true ∧ g 8 = g 40

theorem getD_set {L : Array Bool} (hs : L.size = 19) (i k : Nat) (hi : i < 19) : (L.setIfInBounds i true).getD k false = true ↔ k = i ∨ L.getD k false = true := by
  rw [Array.getD_eq_getD_getElem?, Array.getD_eq_getD_getElem?]
  by_cases hk : k = i
  · subst hk
    rw [Array.getElem?_setIfInBounds_self_of_lt (by omega)]
    simp
  · rw [Array.getElem?_setIfInBounds_ne (fun e => hk e.symm)]
    simp [hk]

theorem RInv.move {n w0 L g B w} (h : RInv n w0 L g B w) (j : Nat) (hj : j < 8) : RInv n w0 (L.setIfInBounds (2 * j) true) (fun k => if k = 23 + 2 * j then some (.int .i64 n) else g k) B w where
  sz := by simpa using h.sz
  bel := h.bel
  low := fun k hk h8 => by rw [if_neg (by omega)]; exact h.low k hk h8
  mv := fun i hi hl => by
    by_cases he : i = j
    · subst he; simp
    · rw [if_neg (by omega)]
      rcases (getD_set h.sz _ _ (by omega)).1 hl with e | e
      · omega
      · exact h.mv i hi e
  mks := fun i hi hl => by
    rw [if_neg (by omega)]
    rcases (getD_set h.sz _ _ (by omega)).1 hl with e | e
    · omega
    · exact h.mks i hi e
  ne := fun i k hi hk h1 h2 => by
    rcases (getD_set h.sz _ _ (by omega)).1 h1 with e | e
    · omega
    rcases (getD_set h.sz _ _ (by omega)).1 h2 with e' | e'
    · omega
    exact h.ne i k hi hk e e'
  bd := fun hl => by
    rw [if_neg (by omega)]
    rcases (getD_set h.sz _ _ (by omega)).1 hl with e | e
    · omega
    obtain ⟨h1, h2⟩ := h.bd e
    exact ⟨h1, fun i hi => (getD_set h.sz _ _ (by omega)).2 (.inr (h2 i hi))⟩
  bx := fun hl => by
    rw [if_neg (by omega)]
    rcases (getD_set h.sz _ _ (by omega)).1 hl with e | e
    · omega
    obtain ⟨h1, h2⟩ := h.bx e
    exact ⟨(getD_set h.sz _ _ (by omega)).2 (.inr h1), h2⟩
  asg := fun hl => by
    rw [if_neg (by omega), if_neg (by omega)]
    rcases (getD_set h.sz _ _ (by omega)).1 hl with e | e
    · omega
    obtain ⟨h1, h2⟩ := h.asg e
    exact ⟨(getD_set h.sz _ _ (by omega)).2 (.inr h1), h2⟩

theorem RInv.make {n w0 L g B w} (h : RInv n w0 L g B w) (j : Nat) (hj : j < 8) (hnl : L.getD (2 * j + 1) false = false) :
    RInv n w0 (L.setIfInBounds (2 * j + 1) true) (fun k => if k = 24 + 2 * j then some (mval n w.heap.size j) else g k) (fun k => if k = j then w.heap.size else B k) (w.alloc (.cells (madeCells (mzv j).cells n) (mel j))) where
  sz := by simpa using h.sz
  bel := h.bel.alloc h.bel.size _
  low := fun k hk h8 => by rw [if_neg (by omega)]; exact h.low k hk h8
  mv := fun i hi hl => by
    rw [if_neg (by omega)]
    rcases (getD_set h.sz _ _ (by omega)).1 hl with e | e
    · omega
    · exact h.mv i hi e
  mks := fun i hi hl => by
    by_cases he : i = j
    · subst he
      simp only [if_true]
      refine ⟨trivial, h.bel.size, ?_, ?_⟩
      · rw [size_al]; omega
      · exact last_al _ _
    · rw [if_neg (by omega)]
      simp only [if_neg he]
      rcases (getD_set h.sz _ _ (by omega)).1 hl with e | e
      · omega
      · obtain ⟨h1, h2, h3, h4⟩ := h.mks i hi e
        refine ⟨h1, h2, ?_, ?_⟩
        · rw [size_al]; omega
        · rw [Below.heap_alloc _ _ _ h3]; exact h4
  ne := fun i k hi hk h1 h2 hne => by
    show (if i = j then w.heap.size else B i) ≠ (if k = j then w.heap.size else B k)
    rcases (getD_set h.sz _ _ (by omega)).1 h1 with e | e
    · obtain rfl : i = j := by omega
      rcases (getD_set h.sz _ _ (by omega)).1 h2 with e' | e'
      · omega
      · have := (h.mks k hk e').2.2.1
        rw [if_pos rfl, if_neg (by omega)]; omega
    · have hb := (h.mks i hi e).2.2.1
      by_cases he : i = j
      · subst he; rw [e] at hnl; cases hnl
      rcases (getD_set h.sz _ _ (by omega)).1 h2 with e' | e'
      · obtain rfl : k = j := by omega
        rw [if_pos rfl, if_neg he]; omega
      · by_cases he' : k = j
        · subst he'; rw [e'] at hnl; cases hnl
        rw [if_neg he, if_neg he']
        exact h.ne i k hi hk e e' hne
  bd := fun hl => by
    exfalso
    rcases (getD_set h.sz _ _ (by omega)).1 hl with e | e
    · omega
    have := (h.bd e).2 j hj
    rw [this] at hnl; cases hnl
  bx := fun hl => by
    exfalso
    rcases (getD_set h.sz _ _ (by omega)).1 hl with e | e
    · omega
    have := (h.bd (h.bx e).1).2 j hj
    rw [this] at hnl; cases hnl
  asg := fun hl => by
    exfalso
    rcases (getD_set h.sz _ _ (by omega)).1 hl with e | e
    · omega
    have := (h.bd (h.bx (h.asg e).1).1).2 j hj
    rw [this] at hnl; cases hnl

theorem RInv.build {n w0 L g B w} (h : RInv n w0 L g B w) (hall : ∀ j, j < 8 → L.getD (2 * j + 1) false = true) (hnl : L.getD 16 false = false) :
    RInv n w0 (L.setIfInBounds 16 true) (fun k => if k = 39 then some (.agg (rdr n B)) else g k) B w where
  sz := by simpa using h.sz
  bel := h.bel
  low := fun k hk h8 => by rw [if_neg (by omega)]; exact h.low k hk h8
  mv := fun i hi hl => by
    rw [if_neg (by omega)]
    rcases (getD_set h.sz _ _ (by omega)).1 hl with e | e
    · omega
    · exact h.mv i hi e
  mks := fun i hi hl => by
    rw [if_neg (by omega)]
    exact h.mks i hi (hall i hi)
  ne := fun i k hi hk _ _ => h.ne i k hi hk (hall i hi) (hall k hk)
  bd := fun _ => ⟨if_pos rfl, fun i hi => (getD_set h.sz _ _ (by omega)).2 (.inr (hall i hi))⟩
  bx := fun hl => by
    exfalso
    rcases (getD_set h.sz _ _ (by omega)).1 hl with e | e
    · omega
    have := (h.bx e).1
    rw [this] at hnl; cases hnl
  asg := fun hl => by
    exfalso
    rcases (getD_set h.sz _ _ (by omega)).1 hl with e | e
    · omega
    have := (h.bx (h.asg e).1).1
    rw [this] at hnl; cases hnl

theorem RInv.box {n w0 L g B w} (h : RInv n w0 L g B w) (h16 : L.getD 16 false = true) (hnl : L.getD 17 false = false) :
    RInv n w0 (L.setIfInBounds 17 true) (fun k => if k = 40 then some (.pointer (some ⟨w.heap.size, 0, none⟩)) else g k) B (w.alloc (.cells (rdr n B) 56)) where
  sz := by simpa using h.sz
  bel := h.bel.alloc h.bel.size _
  low := fun k hk h8 => by rw [if_neg (by omega)]; exact h.low k hk h8
  mv := fun i hi hl => by
    rw [if_neg (by omega)]
    rcases (getD_set h.sz _ _ (by omega)).1 hl with e | e
    · omega
    · exact h.mv i hi e
  mks := fun i hi hl => by
    rw [if_neg (by omega)]
    obtain ⟨h1, h2, h3, h4⟩ := h.mks i hi ((h.bd h16).2 i hi)
    refine ⟨h1, h2, ?_, ?_⟩
    · rw [size_al]; omega
    · rw [Below.heap_alloc _ _ _ h3]; exact h4
  ne := fun i k hi hk _ _ => h.ne i k hi hk ((h.bd h16).2 i hi) ((h.bd h16).2 k hk)
  bd := fun _ => ⟨by rw [if_neg (by omega)]; exact (h.bd h16).1, fun i hi => (getD_set h.sz _ _ (by omega)).2 (.inr ((h.bd h16).2 i hi))⟩
  bx := fun _ => by
    refine ⟨(getD_set h.sz _ _ (by omega)).2 (.inr h16), w.heap.size, if_pos rfl, h.bel.size, by rw [size_al]; omega, last_al _ _, fun i hi => ?_⟩
    have := (h.mks i hi ((h.bd h16).2 i hi)).2.2.1
    omega
  asg := fun hl => by
    exfalso
    rcases (getD_set h.sz _ _ (by omega)).1 hl with e | e
    · omega
    have := (h.asg e).1
    rw [this] at hnl; cases hnl

theorem RInv.assign {n w0 L g B w R} (h : RInv n w0 L g B w) (h17 : L.getD 17 false = true) (hR : g 40 = some (.pointer (some ⟨R, 0, none⟩))) :
    RInv n w0 (L.setIfInBounds 18 true) (fun k => if k = 8 then some (.pointer (some ⟨R, 0, none⟩)) else g k) B w where
  sz := by simpa using h.sz
  bel := h.bel
  low := fun k hk h8 => by rw [if_neg h8]; exact h.low k hk h8
  mv := fun i hi hl => by
    rw [if_neg (by omega)]
    rcases (getD_set h.sz _ _ (by omega)).1 hl with e | e
    · omega
    · exact h.mv i hi e
  mks := fun i hi hl => by
    rw [if_neg (by omega)]
    rcases (getD_set h.sz _ _ (by omega)).1 hl with e | e
    · omega
    · exact h.mks i hi e
  ne := fun i k hi hk h1 h2 => by
    rcases (getD_set h.sz _ _ (by omega)).1 h1 with e | e
    · omega
    rcases (getD_set h.sz _ _ (by omega)).1 h2 with e' | e'
    · omega
    exact h.ne i k hi hk e e'
  bd := fun hl => by
    rw [if_neg (by omega)]
    obtain ⟨h1, h2⟩ := h.bd (h.bx h17).1
    exact ⟨h1, fun i hi => (getD_set h.sz _ _ (by omega)).2 (.inr (h2 i hi))⟩
  bx := fun hl => by
    rw [if_neg (by omega)]
    obtain ⟨h1, h2⟩ := h.bx h17
    exact ⟨(getD_set h.sz _ _ (by omega)).2 (.inr h1), h2⟩
  asg := fun _ => ⟨(getD_set h.sz _ _ (by omega)).2 (.inr h17), by rw [if_pos rfl, if_neg (by omega), hR]⟩

/-- The reader and its eight rows, new since H. -/
structure Rdr (H : Nat) (w : World) (R n : Nat) (B : Nat → Nat) : Prop where
  hr : H ≤ R ∧ R < w.heap.size
  rd : w.heap[R]? = some (.cells (rdr n B) 56)
  rows : ∀ j, j < 8 → H ≤ B j ∧ B j < w.heap.size ∧ B j ≠ R ∧ w.heap[B j]? = some (.cells (madeCells (mzv j).cells n) (mel j))
  ne : ∀ j k, j < 8 → k < 8 → j ≠ k → B j ≠ B k

theorem notl {L : Array Bool} {i : Nat} (hs : L.size = 19) (hi : i < 19) (h : L.getD i true = false) : L.getD i false = false := by
  rw [Array.getD_eq_getD_getElem?, Array.getElem?_eq_getElem (by omega)] at *
  simpa using h
theorem notl' {L : Array Bool} {i : Nat} (hs : L.size = 19) (hi : i < 19) (h : L.getD i false = false) : L.getD i true = false := by
  rw [Array.getD_eq_getD_getElem?, Array.getElem?_eq_getElem (by omega)] at *
  simpa using h

theorem ready_of {md : Region.Mode} {ops : Array Oper} {L : Array Bool} {i : Nat} {o : Oper} (ho : ops[i]? = some o) (hnl : L.getD i true = false) (ha : (o.after.all fun e => !Region.binds md e || L.getD e.on false) = true) : i ∈ Region.ready md ops L := by
  unfold Region.ready
  rw [List.mem_filter, List.mem_range]
  refine ⟨(Array.getElem?_eq_some_iff.1 ho).1, ?_⟩
  simp only [hnl, ho, Option.map_some, Option.getD_some, ha]
  rfl

theorem makes8 (ops : Array Oper) (Q : Exit → Act → World → Prop) (a0 : Act) (w0 : World) (n : Nat) (hn : n ≤ 131072) (hsz : ops.size = 19) (hts : 41 ≤ a0.tmps.size) (h7 : a0.eval (.tmp 7) = .int .i64 n)
    (hmv : ∀ j, j < 8 → ∃ o, ops[2 * j]? = some o ∧ o.guard = none ∧ o.dst = some (23 + 2 * j) ∧ o.op = .move (.tmp 7) ∧ ∀ L : Array Bool, (o.after.all fun e => !Region.binds .any e || L.getD e.on false) = true)
    (hmk : ∀ j, j < 8 → ∃ o, ops[2 * j + 1]? = some o ∧ o.guard = none ∧ o.dst = some (24 + 2 * j) ∧ o.op = .makeSlice (mty j) (if j = 0 then .const (.int .i64 0) else .tmp (23 + 2 * j)) (.tmp (23 + 2 * j)) ∧ ∀ L : Array Bool, (o.after.all fun e => !Region.binds .any e || L.getD e.on false) = L.getD (2 * j) false)
    (hbd : ∃ o, ops[16]? = some o ∧ o.guard = none ∧ o.dst = some 39 ∧ o.op = .build 56 #[(0, .tmp 24), (1, .tmp 26), (2, .tmp 28), (3, .const (.int .i64 1048576)), (4, .tmp 30), (5, .tmp 32), (8, .tmp 34), (9, .tmp 36), (10, .tmp 38)] ∧ ∀ L : Array Bool, (o.after.all fun e => !Region.binds .any e || L.getD e.on false) = true ↔ ∀ j, j < 8 → L.getD (2 * j + 1) false = true)
    (hbx : ∃ o, ops[17]? = some o ∧ o.guard = none ∧ o.dst = some 40 ∧ o.op = .box 56 (.tmp 39) ∧ ∀ L : Array Bool, (o.after.all fun e => !Region.binds .any e || L.getD e.on false) = L.getD 16 false)
    (has : ∃ o, ops[18]? = some o ∧ o.guard = none ∧ o.dst = some 8 ∧ o.op = .assign (.tmp 40) ∧ ∀ L : Array Bool, (o.after.all fun e => !Region.binds .any e || L.getD e.on false) = true ↔ ∀ i, i < 18 → L.getD i false = true)
    (hQ : ∀ (g : Nat → Option Value) (B : Nat → Nat) (R : Nat) (w : World), Below w0.heap.size w0 w → (∀ k, k < 23 → k ≠ 8 → g k = none) → g 8 = some (.pointer (some ⟨R, 0, none⟩)) → Rdr w0.heap.size w R n B → Q .normal (upd a0 g) w) :
    wpAny Try.prog .any ops Q ops.size (Array.replicate ops.size false) a0 w0 := by
  refine wpAny_inv (fun L a w => ∃ g B, a = upd a0 g ∧ RInv n w0 L g B w) ?step ?last _ _ _ _ ?fuel ?start
  case fuel =>
    unfold unl
    exact Nat.le_trans (List.length_filter_le _ _) (by simp)
  case start =>
    refine ⟨fun _ => none, fun _ => 0, (upd_none a0).symm, ?_⟩
    have hf : ∀ k, (Array.replicate ops.size false).getD k false = true → False := by
      intro k hk
      rw [Array.getD_eq_getD_getElem?, Array.getElem?_replicate] at hk
      split at hk <;> simp at hk
    exact ⟨by simp [hsz], Below.refl _ _, fun _ _ _ => rfl, fun _ _ h => (hf _ h).elim, fun _ _ h => (hf _ h).elim, fun _ _ _ _ h => (hf _ h).elim, fun h => (hf _ h).elim, fun h => (hf _ h).elim, fun h => (hf _ h).elim⟩
  case last =>
    rintro L a w ⟨g, B, rfl, h⟩ hr
    have hno : ∀ i, i ∉ Region.ready .any ops L := fun i hi => by rw [hr] at hi; cases hi
    have all0 : ∀ j, j < 8 → L.getD (2 * j) false = true := by
      intro j hj
      obtain ⟨o, ho, _, _, _, ha⟩ := hmv j hj
      apply Classical.byContradiction
      intro hc
      exact hno _ (ready_of ho (notl' h.sz (by omega) (by simpa using hc)) (ha L))
    have all1 : ∀ j, j < 8 → L.getD (2 * j + 1) false = true := by
      intro j hj
      obtain ⟨o, ho, _, _, _, ha⟩ := hmk j hj
      apply Classical.byContradiction
      intro hc
      exact hno _ (ready_of ho (notl' h.sz (by omega) (by simpa using hc)) ((ha L).trans (all0 j hj)))
    have h16 : L.getD 16 false = true := by
      obtain ⟨o, ho, _, _, _, ha⟩ := hbd
      apply Classical.byContradiction
      intro hc
      exact hno _ (ready_of ho (notl' h.sz (by omega) (by simpa using hc)) ((ha L).2 all1))
    have h17 : L.getD 17 false = true := by
      obtain ⟨o, ho, _, _, _, ha⟩ := hbx
      apply Classical.byContradiction
      intro hc
      exact hno _ (ready_of ho (notl' h.sz (by omega) (by simpa using hc)) ((ha L).trans h16))
    have h18 : L.getD 18 false = true := by
      obtain ⟨o, ho, _, _, _, ha⟩ := has
      apply Classical.byContradiction
      intro hc
      refine hno _ (ready_of ho (notl' h.sz (by omega) (by simpa using hc)) ((ha L).2 fun i hi => ?_))
      by_cases e16 : i = 16
      · rw [e16]; exact h16
      by_cases e17 : i = 17
      · rw [e17]; exact h17
      obtain ⟨j, hj⟩ : ∃ j, i = 2 * j ∨ i = 2 * j + 1 := ⟨i / 2, by omega⟩
      rcases hj with rfl | rfl
      · exact all0 j (by omega)
      · exact all1 j (by omega)
    obtain ⟨_, R, e1, e2, e3, e4, e5⟩ := h.bx h17
    refine hQ g B R w h.bel h.low ((h.asg h18).2.trans e1) ⟨⟨e2, e3⟩, e4, fun j hj => ?_, fun j k hj hk => h.ne j k hj hk (all1 j hj) (all1 k hk)⟩
    obtain ⟨_, f1, f2, f3⟩ := h.mks j hj (all1 j hj)
    exact ⟨f1, f2, e5 j hj, f3⟩
  case step =>
    rintro L a w ⟨g, B, rfl, h⟩ i hi
    obtain ⟨r1, r2, r3⟩ := ready_spec hi
    rw [hsz] at r1
    have hnl := notl h.sz r1 r2
    by_cases e16 : i = 16
    · subst e16
      obtain ⟨o, ho, hg, hd, hop, ha⟩ := hbd
      rw [ho] at r3
      have hall := (ha L).1 r3
      refine wpOp_run ho hg (.agg (rdr n B)) w ?_ ?_
      · have ev : ∀ j : Nat, j < 8 → (upd a0 g).eval (.tmp (24 + 2 * j)) = mval n (B j) j := fun j hj => by rw [upd_eval _ _ _ (by omega), (h.mks j hj (hall j hj)).1]; rfl
        have e0 := ev 0 (by omega)
        have e1 := ev 1 (by omega)
        have e2 := ev 2 (by omega)
        have e3 := ev 3 (by omega)
        have e4 := ev 4 (by omega)
        have e5 := ev 5 (by omega)
        have e6 := ev 6 (by omega)
        have e7 := ev 7 (by omega)
        simp only [Nat.mul_zero, Nat.add_zero, Nat.reduceMul, Nat.reduceAdd] at e0 e1 e2 e3 e4 e5 e6 e7
        have hb := run_build (P := Try.prog) w 56 #[(0, mval n (B 0) 0), (1, mval n (B 1) 1), (2, mval n (B 2) 2), (3, .int .i64 1048576), (4, mval n (B 3) 3), (5, mval n (B 4) 4), (8, mval n (B 5) 5), (9, mval n (B 6) 6), (10, mval n (B 7) 7)] (rdr n B) (built56 n B)
        have hc : (upd a0 g).eval (.const (.int .i64 1048576)) = .int .i64 1048576 := rfl
        simp only [execOp, hop, List.map_toArray, List.map_cons, List.map_nil, e0, e1, e2, e3, e4, e5, e6, e7, hc]
        simp [hb, Result.andThen]
      · rw [hd, upd_put]
        exact ⟨_, B, rfl, h.build hall hnl⟩
    by_cases e17 : i = 17
    · subst e17
      obtain ⟨o, ho, hg, hd, hop, ha⟩ := hbx
      rw [ho] at r3
      have h16 : L.getD 16 false = true := (ha L).symm.trans r3
      refine wpOp_run ho hg (.pointer (some ⟨w.heap.size, 0, none⟩)) (w.alloc (.cells (rdr n B) 56)) ?_ ?_
      · have ev : (upd a0 g).eval (.tmp 39) = .agg (rdr n B) := by rw [upd_eval _ _ _ (by omega), (h.bd h16).1]; rfl
        have hb := run_box56 (rdr n B) w
        simp only [execOp, hop, ev]
        simp [hb, Result.andThen]
      · rw [hd, upd_put]
        exact ⟨_, B, rfl, h.box h16 hnl⟩
    by_cases e18 : i = 18
    · subst e18
      obtain ⟨o, ho, hg, hd, hop, ha⟩ := has
      rw [ho] at r3
      have h17 : L.getD 17 false = true := (ha L).1 r3 17 (by omega)
      obtain ⟨_, R, f1, _⟩ := h.bx h17
      refine wpOp_run ho hg (.pointer (some ⟨R, 0, none⟩)) w ?_ ?_
      · have ev : (upd a0 g).eval (.tmp 40) = .pointer (some ⟨R, 0, none⟩) := by rw [upd_eval _ _ _ (by omega), f1]; rfl
        simp only [execOp, hop, ev]
        rfl
      · rw [hd, upd_put]
        exact ⟨_, B, rfl, h.assign h17 f1⟩
    obtain ⟨j, hj⟩ : ∃ j, i = 2 * j ∨ i = 2 * j + 1 := ⟨i / 2, by omega⟩
    rcases hj with rfl | rfl
    · have hj8 : j < 8 := by omega
      obtain ⟨o, ho, hg, hd, hop, ha⟩ := hmv j hj8
      refine wpOp_run ho hg (.int .i64 n) w ?_ ?_
      · have ev : (upd a0 g).eval (.tmp 7) = .int .i64 n := by rw [upd_eval _ _ _ (by omega), h.low 7 (by omega) (by omega)]; exact h7
        simp only [execOp, hop, ev]
        rfl
      · rw [hd, upd_put]
        exact ⟨_, B, rfl, h.move j hj8⟩
    · have hj8 : j < 8 := by omega
      obtain ⟨o, ho, hg, hd, hop, ha⟩ := hmk j hj8
      rw [ho] at r3
      have hm : L.getD (2 * j) false = true := (ha L).symm.trans r3
      obtain ⟨hu, hinf⟩ := minfo j hj8
      obtain ⟨ti, hti, htz⟩ := Option.map_eq_some_iff.1 hinf
      simp only [Prod.mk.injEq, decide_eq_true_eq] at htz
      obtain ⟨z1, z2, z3⟩ := htz
      refine wpOp_run ho hg (mval n w.heap.size j) (w.alloc (.cells (madeCells (mzv j).cells n) (mel j))) ?_ ?_
      · have ev : (upd a0 g).eval (.tmp (23 + 2 * j)) = .int .i64 n := by rw [upd_eval _ _ _ (by omega), h.mv j hj8 hm]; rfl
        have hb1 : (ti.bytes : Int) * (n : Int) ≤ 281474976710656 := by
          have hm3 : ti.bytes * n ≤ 3145728 := Nat.mul_le_mul z3 hn
          have h' : ((ti.bytes * n : Nat) : Int) ≤ ((3145728 : Nat) : Int) := Int.ofNat_le.2 hm3
          rw [Int.natCast_mul] at h'
          omega
        by_cases hj0 : j = 0
        · subst hj0
          have hr := run_make (P := Try.prog) w _ _ ti _ hu hti z1 .i64 .i64 0 n (by omega) (by omega) hb1 (by omega)
          rw [z2, Nat.mul_one, Int.toNat_natCast] at hr
          have hc : (upd a0 g).eval (.const (.int .i64 0)) = .int .i64 0 := rfl
          simp only [execOp, hop, if_true, hc, ev]
          simp [hr, Result.andThen, mval]
        · have hr := run_make (P := Try.prog) w _ _ ti _ hu hti z1 .i64 .i64 n n (by omega) (by omega) hb1 (by omega)
          rw [z2, Nat.mul_one, Int.toNat_natCast] at hr
          simp only [execOp, hop, if_neg hj0, ev]
          simp [hr, Result.andThen, mval, hj0]
      · rw [hd, upd_put]
        exact ⟨_, _, rfl, h.make j hj8 hnl⟩
end Go.Proofs.Qxb6602686a
