/-
  newCycleReader.
-/
import Derived.Test.Qxb6602686aPlain
import Derived.Deep.RegionHeld3
import Derived.Deep.RegionLaw
namespace Go.Proofs.Qxb6602686a
open Go.RowKit
set_option linter.unusedVariables false

theorem run_mm (t k e : TypeId) (ht : Try.prog.underlying t = some (.map k e)) (x : Int) (w : World) : (Instr.makeMap t (some (.int .i64 x))).run Try.prog w = .ok (.map (some w.heap.size)) (w.alloc (.map #[] 0)) := by
  have hr := run_underlying ht w
  simp [Instr.makeMap, go_sem, hr]

theorem zero47 (w : World) : (zeroValue 47).run Try.prog w = .ok (.slice none 0 0) w := by kernel_rfl
theorem zero3 (w : World) : (zeroValue 3).run Try.prog w = .ok (.int .i64 0) w := by kernel_rfl

/-- The list 'next' of place j. -/
def nextF (F : Int → Option Nat) (Z : Nat → List Int) (first : Int) (ms : List Int) (n : Nat) (j : Nat) : List Int := nxt (idsOf first ms) n (zrow F Z ((idsOf first ms).getD j 0))

/-- How many arcs leave the places behind i. -/
def arcsF (X : Nat → List Int) (n i : Nat) : Int := ((sumL (fun j => (X j).length) n - sumL (fun j => (X j).length) (i + 1) : Nat) : Int)

theorem sumL_mono (l : Nat → Nat) (a b : Nat) (h : a ≤ b) : sumL l a ≤ sumL l b := by
  induction b with
  | zero => have : a = 0 := by omega
            subst this; exact Nat.le_refl _
  | succ b ih =>
    by_cases e : a = b + 1
    · subst e; exact Nat.le_refl _
    · have := ih (by omega)
      show _ ≤ sumL l b + l b
      omega

theorem sumL_bd (l : Nat → Nat) (n : Nat) (h : ∀ j, j < n → l j ≤ 131072) : sumL l n ≤ n * 131072 := by
  induction n with
  | zero => exact Nat.le_refl _
  | succ n ih =>
    have h1 := ih (fun j hj => h j (by omega))
    have h2 := h n (by omega)
    show sumL l n + l n ≤ _
    omega

theorem arcs_step (X : Nat → List Int) (n s : Nat) (h : s + 1 < n) : arcsF X n ((s + 1 : Nat)) + ((X (s + 1)).length : Int) = arcsF X n s := by
  unfold arcsF
  have h1 := sumL_mono (fun j => (X j).length) (s + 1 + 1) n (by omega)
  have h2 : sumL (fun j => (X j).length) (s + 1 + 1) = sumL (fun j => (X j).length) (s + 1) + (X (s + 1)).length := rfl
  omega

theorem arcs_bd (X : Nat → List Int) (n i : Nat) (hX : ∀ j, j < n → (X j).length ≤ 131072) (hn : n ≤ 131072) : 0 ≤ arcsF X n i ∧ arcsF X n i ≤ 17179869184 := by
  unfold arcsF
  have h1 := sumL_bd (fun j => (X j).length) n hX
  omega

theorem arcs_last (X : Nat → List Int) (n i : Nat) (h : n ≤ i + 1) : arcsF X n i = 0 := by
  unfold arcsF
  have h1 := sumL_mono (fun j => (X j).length) n (i + 1) h
  omega

theorem St.congrArcs {H : Nat} {w : World} {R n : Nat} {B : Nat → Nat} {i : Nat} {ids : List Int} {nx : Nat → Value} {af af' : Nat → Int} (h : St H w R n B i ids nx af) (e : ∀ j, j < n → af j = af' j) : St H w R n B i ids nx af' :=
  ⟨h.hr, h.rd, h.rows, h.ne, h.ids, h.next, h.arcs.congr (fun j hj => by rw [e j hj]), h.zeros⟩

/-- The first k lists 'next' are laid; the others are nil. -/
def Rows (T : Nat) (w : World) (nx : Nat → Value) (X : Nat → List Int) (k n : Nat) : Prop :=
  (∀ j, j < k → ∃ ao l c, nx j = .slice ao l c ∧ SlN (· < T) w.heap.size .i64 w ao l c (X j) ∧ (l = 0 → ao = none)) ∧ ∀ j, k ≤ j → j < n → nx j = .slice none 0 0

/-- The lists 'next', all laid. -/
def NextOk (H : Nat) (w : World) (nx : Nat → Value) (X : Nat → List Int) (n : Nat) : Prop :=
  ∀ j, j < n → ∃ ao l c, nx j = .slice ao l c ∧ SlN (· < H) w.heap.size .i64 w ao l c (X j) ∧ (l = 0 → ao = none)

theorem NextOk.keep {H : Nat} {w w' : World} {nx : Nat → Value} {X : Nat → List Int} {n : Nat} (h : NextOk H w nx X n) (hk : Keep (· < H) w.heap.size w w') : NextOk H w' nx X n := fun j hj => by
  obtain ⟨ao, l, c, h1, h2, h3⟩ := h j hj
  exact ⟨ao, l, c, h1, (h2.keep hk (Nat.le_refl _)).mono hk.size, h3⟩

/-- The list at hand, in a block from H on. -/
def Cur (H : Nat) (w : World) (v : Value) (xs : List Int) : Prop :=
  w.ownsRow H 3 1 v xs.length (xs.map (Value.int .i64)) ∧ (xs = [] → v = .slice none 0 0)

/-- What newCycleReader is told. -/
structure Graph (w : World) (G M cnt : Nat) (F : Int → Option Nat) (A : Nat → Option Addr) (L C : Nat → Nat) (Z : Nat → List Int) : Prop where
  gl : G < w.heap.size
  gc : w.cell? ⟨G, 1, none⟩ = some (.map (some M))
  gm : MapF w M cnt (fun x => (F x).map (fun i => .slice (A i) (L i) (C i)))
  row : ∀ x i, F x = some i → Sl w.heap.size .u64 w (A i) (L i) (C i) (Z i) ∧ L i ≤ 131072 ∧ U64s (Z i)

/-- The row that the map tells, in memory. -/
theorem row_of {w w' : World} {G M cnt : Nat} {F : Int → Option Nat} {A : Nat → Option Addr} {L C : Nat → Nat} {Z : Nat → List Int} (h : Graph w G M cnt F A L C Z) (hb : Below w.heap.size w w') (x : Int) (h0 : 0 ≤ x) (h1 : x ≤ 18446744073709551615) :
    ∃ ra rl rc, (Instr.lookup 46 (.map (some M)) (.int .u64 x) false).run Try.prog w' = .ok (.slice ra rl rc) w' ∧ Sl w.heap.size .u64 w ra rl rc (zrow F Z x) ∧ rl ≤ 131072 ∧ U64s (zrow F Z x) := by
  have hl := (h.gm.same (hb.block M h.gm.lt)).look false 46 47 Try.underlying46 _ (zero47 w') x h0 h1
  unfold zrow
  cases hx : F x with
  | none =>
    rw [hx] at hl
    exact ⟨none, 0, 0, hl, ⟨rfl, .inl ⟨rfl, rfl, rfl⟩⟩, by omega, fun j => by simp⟩
  | some i =>
    rw [hx] at hl
    obtain ⟨r1, r2, r3⟩ := h.row x i hx
    exact ⟨_, _, _, hl, r1, r2, r3⟩

theorem zrow_le {w : World} {G M cnt : Nat} {F : Int → Option Nat} {A : Nat → Option Addr} {L C : Nat → Nat} {Z : Nat → List Int} (h : Graph w G M cnt F A L C Z) (x : Int) : (zrow F Z x).length ≤ 131072 := by
  unfold zrow
  cases hx : F x with
  | none => simp
  | some i =>
    obtain ⟨r1, r2, _⟩ := h.row x i hx
    have := r1.1
    show (Z i).length ≤ _
    omega

/-- One more place appended, the cell of 'next' written. -/
theorem app_step {H : Nat} {wo wr w1 : World} {R n : Nat} {B : Nat → Nat} {ids : List Int} {nx0 : Nat → Value} {af : Nat → Int} {k : Nat} {v : Value} {xs : List Int} {p : Int} {gg gcap : Nat} {o : Obj}
    (hsv : St H wr R n B n ids (fun j => if j = k then v else nx0 j) af) (hcv : wr.ownsRow wo.heap.size 3 1 v xs.length (xs.map (Value.int .i64))) (hki : Keep (· = B 1) wo.heap.size wo wr) (hR : R < wo.heap.size) (hB : ∀ j, j < 8 → B j < wo.heap.size)
    (hown1 : w1.ownsRow wo.heap.size 3 1 (.slice (some ⟨gg, 0, none⟩) (xs.length + 1) gcap) (xs.length + 1) (xs.map (Value.int .i64) ++ [.int .i64 p])) (hgrow : (wr.alloc o).drew.grownBy w1 v.ownBlock) :
    (∃ v, St H (w1.setCell ⟨B 1, k, none⟩ (.slice (some ⟨gg, 0, none⟩) (xs.length + 1) gcap)) R n B n ids (fun j => if j = k then v else nx0 j) af ∧ Cur wo.heap.size (w1.setCell ⟨B 1, k, none⟩ (.slice (some ⟨gg, 0, none⟩) (xs.length + 1) gcap)) v (xs ++ [p])) ∧
      Keep (· = B 1) wo.heap.size wo (w1.setCell ⟨B 1, k, none⟩ (.slice (some ⟨gg, 0, none⟩) (xs.length + 1) gcap)) := by
  have hw : wo.heap.size ≤ wr.heap.size := hki.size
  have hv : ∀ b, v.ownBlock = some b → wo.heap.size ≤ b := fun b e => (hcv.lt b e).1
  have hsz : wr.heap.size ≤ (wr.alloc o).drew.heap.size := by show _ ≤ (wr.alloc o).heap.size; simp
  have hgg := (hown1.lt gg rfl).1
  have k1 : Keep (fun b => v.ownBlock = some b) wr.heap.size wr w1 := by
    refine Keep.grown (((Keep.refl _ _ _).alloc (Nat.le_refl _) o).drew) hgrow hsz (fun b e => .inr e)
  have s1 := hsv.keep k1 (fun b e _ => ⟨fun e' => by have := hv b e; omega, fun j hj e' => by have := hv b e; have := hB j hj; omega⟩)
  have s2 := s1.setNext k (.slice (some ⟨gg, 0, none⟩) (xs.length + 1) gcap)
  have hB1 := hB 1 (by omega)
  refine ⟨⟨.slice (some ⟨gg, 0, none⟩) (xs.length + 1) gcap, ?_, ?_⟩, ?_⟩
  · have e : (fun j => if j = k then Value.slice (some ⟨gg, 0, none⟩) (xs.length + 1) gcap else (fun j => if j = k then v else nx0 j) j) = (fun j => if j = k then Value.slice (some ⟨gg, 0, none⟩) (xs.length + 1) gcap else nx0 j) := by
      funext j
      by_cases e : j = k <;> simp [e]
    rw [← e]
    exact s2
  · refine ⟨?_, fun e => by simp at e⟩
    have := own_block hown1 (Below.heap_setCell w1 ⟨B 1, k, none⟩ (.slice (some ⟨gg, 0, none⟩) (xs.length + 1) gcap) gg (by show gg ≠ B 1; omega))
    simpa using this
  · have k2 : Keep (· = B 1) wo.heap.size wr w1 := k1.mono hw (fun b hb e => by have := hv b e; omega)
    exact Keep.setCell (q := ⟨B 1, k, none⟩) (hki.trans k2) (.inr rfl) _

set_option maxHeartbeats 2000000 in
set_option maxRecDepth 100000 in
theorem ncr_any (G M cnt : Nat) (F : Int → Option Nat) (A : Nat → Option Addr) (L C : Nat → Nat) (Z : Nat → List Int) (mo : Option Addr) (n cap : Nat) (ms : List Int) (f : Nat) (first : Int) (w : World) (hg : Graph w G M cnt F A L C Z)
    (hms : Sl w.heap.size .u64 w mo n cap ms) (hu : U64s ms) (ha : Asc ms) (hf : f < n) (hfirst : ms.getD f 0 = first) (hn : n ≤ 131072) :
    Calls Try.prog 26 #[.pointer (some ⟨G, 0, none⟩), .int .u64 first, .slice mo n cap] w fun e w' => (∃ (R : Nat) (B : Nat → Nat) (nx : Nat → Value), Hid (e = .returned (.pointer (some ⟨R, 0, none⟩)) ∧ St w.heap.size w' R n B n (idsOf first ms) nx (arcsF (nextF F Z first ms n) n) ∧ NextOk w.heap.size w' nx (nextF F Z first ms n) n)) ∧ Below w.heap.size w w' := by
  have HG : Hid (Graph w G M cnt F A L C Z) := hg
  have HMS : Hid (Sl w.heap.size .u64 w mo n cap ms) := hms
  have HU : Hid (U64s ms) := hu
  have HA : Hid (Asc ms) := ha
  have HF : Hid (ms.getD f 0 = first) := hfirst
  have HIL : Hid ((idsOf first ms).length = n) := by
    show _ = _
    rw [← hfirst, ids_len ms ha f (by rw [hms.1]; exact hf), hms.1]
  have hfu := hu f
  rw [hfirst] at hfu
  obtain ⟨i0, hi, hz0, hz1, hz2⟩ := info_parts info48
  clear hg hms hu ha hfirst
  go_enter Try.func26, Try.ntmps26
  go_wp2_with fail
  go_cut [8] from 21 (fun p wx => ∃ (R : Nat) (B : Nat → Nat), p = .pointer (some ⟨R, 0, none⟩) ∧ Below w.heap.size w wx ∧ Hid (Rdr w.heap.size wx R n B))
  case first =>
    refine wp_region_any (by kernel_rfl) ?_
    refine makes8 _ _ _ _ n hn rfl (by simp) rfl ?_ ?_ ?_ ?_ ?_ ?_
    · intro j hj
      match j, hj with
      | 0, _ => exact ⟨_, rfl, rfl, rfl, rfl, fun L => by simp⟩
      | 1, _ => exact ⟨_, rfl, rfl, rfl, rfl, fun L => by simp⟩
      | 2, _ => exact ⟨_, rfl, rfl, rfl, rfl, fun L => by simp⟩
      | 3, _ => exact ⟨_, rfl, rfl, rfl, rfl, fun L => by simp⟩
      | 4, _ => exact ⟨_, rfl, rfl, rfl, rfl, fun L => by simp⟩
      | 5, _ => exact ⟨_, rfl, rfl, rfl, rfl, fun L => by simp⟩
      | 6, _ => exact ⟨_, rfl, rfl, rfl, rfl, fun L => by simp⟩
      | 7, _ => exact ⟨_, rfl, rfl, rfl, rfl, fun L => by simp⟩
      | j + 8, h => exact absurd h (by omega)
    · intro j hj
      match j, hj with
      | 0, _ => exact ⟨_, rfl, rfl, rfl, rfl, fun L => by simp [Region.binds]⟩
      | 1, _ => exact ⟨_, rfl, rfl, rfl, rfl, fun L => by simp [Region.binds]⟩
      | 2, _ => exact ⟨_, rfl, rfl, rfl, rfl, fun L => by simp [Region.binds]⟩
      | 3, _ => exact ⟨_, rfl, rfl, rfl, rfl, fun L => by simp [Region.binds]⟩
      | 4, _ => exact ⟨_, rfl, rfl, rfl, rfl, fun L => by simp [Region.binds]⟩
      | 5, _ => exact ⟨_, rfl, rfl, rfl, rfl, fun L => by simp [Region.binds]⟩
      | 6, _ => exact ⟨_, rfl, rfl, rfl, rfl, fun L => by simp [Region.binds]⟩
      | 7, _ => exact ⟨_, rfl, rfl, rfl, rfl, fun L => by simp [Region.binds]⟩
      | j + 8, h => exact absurd h (by omega)
    · refine ⟨_, rfl, rfl, rfl, rfl, fun L => ?_⟩
      simp [Region.binds]
      constructor
      · rintro ⟨h0, h1, h2, h3, h4, h5, h6, h7⟩ j hj
        match j, hj with
        | 0, _ => exact h0
        | 1, _ => exact h1
        | 2, _ => exact h2
        | 3, _ => exact h3
        | 4, _ => exact h4
        | 5, _ => exact h5
        | 6, _ => exact h6
        | 7, _ => exact h7
        | j + 8, h => exact absurd h (by omega)
      · intro h
        exact ⟨h 0 (by omega), h 1 (by omega), h 2 (by omega), h 3 (by omega), h 4 (by omega), h 5 (by omega), h 6 (by omega), h 7 (by omega)⟩
    · exact ⟨_, rfl, rfl, rfl, rfl, fun L => by simp [Region.binds]⟩
    · refine ⟨_, rfl, rfl, rfl, rfl, fun L => ?_⟩
      simp [Region.binds]
      constructor
      · rintro ⟨h17, h0, h1, h2, h3, h4, h5, h6, h7, h8, h9, h10, h11, h12, h13, h14, h15, h16, _⟩ j hj
        match j, hj with
        | 0, _ => exact h0
        | 1, _ => exact h1
        | 2, _ => exact h2
        | 3, _ => exact h3
        | 4, _ => exact h4
        | 5, _ => exact h5
        | 6, _ => exact h6
        | 7, _ => exact h7
        | 8, _ => exact h8
        | 9, _ => exact h9
        | 10, _ => exact h10
        | 11, _ => exact h11
        | 12, _ => exact h12
        | 13, _ => exact h13
        | 14, _ => exact h14
        | 15, _ => exact h15
        | 16, _ => exact h16
        | 17, _ => exact h17
        | j + 18, h => exact absurd h (by omega)
      · intro h
        exact ⟨h 17 (by omega), h 0 (by omega), h 1 (by omega), h 2 (by omega), h 3 (by omega), h 4 (by omega), h 5 (by omega), h 6 (by omega), h 7 (by omega), h 8 (by omega), h 9 (by omega), h 10 (by omega), h 11 (by omega), h 12 (by omega), h 13 (by omega), h 14 (by omega), h 15 (by omega), h 16 (by omega), h 17 (by omega)⟩
    · intro g B R wx hb hlow h8 hR
      simp only [upd, updL, Nat.reduceAdd, Nat.zero_add]
      have g0 := hlow 0 (by omega) (by omega)
      have g1 := hlow 1 (by omega) (by omega)
      have g2 := hlow 2 (by omega) (by omega)
      have g3 := hlow 3 (by omega) (by omega)
      have g4 := hlow 4 (by omega) (by omega)
      have g5 := hlow 5 (by omega) (by omega)
      have g6 := hlow 6 (by omega) (by omega)
      have g7 := hlow 7 (by omega) (by omega)
      have g9 := hlow 9 (by omega) (by omega)
      have g10 := hlow 10 (by omega) (by omega)
      have g11 := hlow 11 (by omega) (by omega)
      have g12 := hlow 12 (by omega) (by omega)
      have g13 := hlow 13 (by omega) (by omega)
      have g14 := hlow 14 (by omega) (by omega)
      have g15 := hlow 15 (by omega) (by omega)
      have g16 := hlow 16 (by omega) (by omega)
      have g17 := hlow 17 (by omega) (by omega)
      have g18 := hlow 18 (by omega) (by omega)
      have g19 := hlow 19 (by omega) (by omega)
      have g20 := hlow 20 (by omega) (by omega)
      simp only [g0, g1, g2, g3, g4, g5, g6, g7, g9, g10, g11, g12, g13, g14, g15, g16, g17, g18, g19, g20, h8, Option.getD_none, Option.getD_some]
      clear g0 g1 g2 g3 g4 g5 g6 g7 g9 g10 g11 g12 g13 g14 g15 g16 g17 g18 g19 g20
      go_wp2
      go_meet
      case rel => exact ⟨R, B, rfl, ⟨hb.os, hb.tape, hb.output, hb.size, hb.block⟩, hR⟩
  case rest =>
    obtain ⟨R, B, rfl, hb0, hR⟩ := hcut
    have HS : Hid (St w.heap.size wc R n B 0 [] (fun _ => .slice none 0 0) (fun _ => 0)) := hR.out.st hn
    clear hR
    have c0 : wc.cell? ⟨R, 0, none⟩ = some (.slice (some ⟨B 0, 0, none⟩) 0 n) := HS.out.rd.cell (i := 0) (by omega)
    go_wp2_with (at_builtin; refine wpList_append_own_spare _ rfl (.tmp 45) (.tmp 47) 47 rfl w.heap.size 48 i0 1 Try.underlying47 hi hz1 (B 0) 0 n ([].map (Value.int .u64)) rfl ?ho ⟨wc.heap.size, 0, none⟩ 1 1 [.int .u64 first] rfl rfl ?hc (one1 _ _) ?hr ?_)
    case ho => exact HS.out.ids.alloc _
    case hc => exact cell_one_new _ _ _
    case hr => omega
    intro w1 hown1 hgrow1
    have HS1 := St.setIds (HS.out.keep ((Keep.refl (fun _ => False) _ _).alloc (Nat.le_refl _) (.cells #[.int .u64 first] 48)) (fun _ h => h.elim)) hgrow1 hown1
    have HS2 : Hid (St w.heap.size (w1.setCell ⟨R, 0, none⟩ (.slice (some ⟨B 0, 0, none⟩) 1 n)) R n B 1 [first] (fun _ => .slice none 0 0) (fun _ => 0)) := HS1
    have hb1 : Below w.heap.size w (w1.setCell ⟨R, 0, none⟩ (.slice (some ⟨B 0, 0, none⟩) 1 n)) := by
      refine Below.setCell ?_ HS.out.hr _
      exact (hb0.alloc hb0.size _).grown hgrow1 (Nat.le_trans hb0.size (by simp)) (fun k e => by cases e; exact (HS.out.rows 0 (by omega)).1)
    have hr1 : w1.rowIs R 56 12 (rdF n B 0) := by
      refine (HS.out.rd.alloc (.cells #[.int .u64 first] 48)).of_block (hgrow1.block R ?_ ?_)
      · have := HS.out.lt.1; simp; omega
      · intro e; injection e with e; exact (HS.out.rows 0 (by omega)).2 e.symm
    have c1 := hr1.cell (i := 0) (by omega)
    have f1 := hr1.frozen 0
    clear HS1 HS hr1 hgrow1 hown1 c0 hb0
    go_wp2_with fail
    go_loopw [53] (fun i wr => ∃ k : Nat, k ≤ n ∧ i = .int .i64 k ∧ Hid (St w.heap.size wr R n B (idsOf first (ms.take k)).length (idsOf first (ms.take k)) (fun _ => .slice none 0 0) (fun _ => 0)) ∧ Below w.heap.size w wr) (fun i _ => n - (intOf i).toNat)
    case atStart => exact ⟨0, Nat.zero_le _, rfl, by simpa [idsOf] using HS2, hb1⟩
    case round =>
      obtain ⟨k, hk, rfl, HS, hbel⟩ := hrel
      clear HS2 hb1 c1 f1
      by_cases hlt : k < n
      · obtain ⟨hl, ⟨_, h0, _⟩ | ⟨b, o, rfl, hb, hc, hcell⟩⟩ := HMS.out
        · omega
        have hx := (hbel.cell (p := ⟨b, o + k, none⟩) hb).trans (hcell k hlt)
        have hxu := HU.out k
        have HT := ids_take first ms k (by omega)
        have hle : (idsOf first (ms.take (k + 1))).length ≤ n := by have := ids_take_le first ms (k + 1); have := HIL.out; omega
        clear hl hcell
        generalize ms.getD k 0 = x at *
        by_cases he : x = first
        · subst he
          rw [if_pos rfl, List.append_nil] at HT
          rw [← HT] at HS
          clear HT
          go_wp2
          go_roundw
          case rel => exact ⟨k + 1, by omega, by go_num, HS, hbel⟩
          case measure => simp [intOf]; omega
        · rw [if_neg he] at HT
          have HT' : Hid (idsOf first (ms.take (k + 1)) = idsOf first (ms.take k) ++ [x]) := HT
          rw [HT, List.length_append, List.length_singleton] at hle
          clear HT
          obtain ⟨q, HQ⟩ : ∃ q, Hid (q = (idsOf first (ms.take k)).length) := ⟨_, rfl⟩
          rw [← HQ.out] at hle HS
          have c0 : wr.cell? ⟨R, 0, none⟩ = some (.slice (some ⟨B 0, 0, none⟩) q n) := HS.out.rd.cell (i := 0) (by omega)
          go_wp2_with (at_builtin; refine wpList_append_own_spare _ rfl (.tmp 64) (.tmp 66) 47 rfl w.heap.size 48 i0 1 Try.underlying47 hi hz1 (B 0) q n ((idsOf first (ms.take k)).map (Value.int .u64)) rfl ?ho ⟨wr.heap.size, 0, none⟩ 1 1 [.int .u64 x] rfl rfl ?hc (one1 _ _) ?hr ?_)
          case ho => exact HS.out.ids.alloc _
          case hc => exact cell_one_new _ _ _
          case hr => omega
          intro w1 hown1 hgrow1
          have HS1 : Hid (St w.heap.size (w1.setCell ⟨R, 0, none⟩ (.slice (some ⟨B 0, 0, none⟩) (q + 1) n)) R n B (q + 1) (idsOf first (ms.take k) ++ [x]) (fun _ => .slice none 0 0) (fun _ => 0)) := St.setIds (HS.out.keep ((Keep.refl (fun _ => False) _ _).alloc (Nat.le_refl _) (.cells #[.int .u64 x] 48)) (fun _ h => h.elim)) hgrow1 hown1
          have hb1 : Below w.heap.size w (w1.setCell ⟨R, 0, none⟩ (.slice (some ⟨B 0, 0, none⟩) (q + 1) n)) := by
            refine Below.setCell ?_ HS.out.hr _
            exact (hbel.alloc hbel.size _).grown hgrow1 (Nat.le_trans hbel.size (by simp)) (fun k e => by cases e; exact (HS.out.rows 0 (by omega)).1)
          have hr1 : w1.rowIs R 56 12 (rdF n B q) := by
            refine (HS.out.rd.alloc (.cells #[.int .u64 x] 48)).of_block (hgrow1.block R ?_ ?_)
            · have := HS.out.lt.1; simp; omega
            · intro e; injection e with e; exact (HS.out.rows 0 (by omega)).2 e.symm
          have c1 := hr1.cell (i := 0) (by omega)
          have f1 := hr1.frozen 0
          clear HS hr1 hgrow1 hown1 c0
          go_wp2
          go_roundw
          case rel =>
            refine ⟨k + 1, by omega, by go_num, ?_, hb1⟩
            rw [HT'.out, List.length_append, List.length_singleton, ← HQ.out]
            exact HS1
          case measure => simp [intOf]; omega
      obtain rfl : n = k := by omega
      have hl := HMS.out.1
      have HS3 : Hid (St w.heap.size wr R n B n (idsOf first ms) (fun _ => .slice none 0 0) (fun _ => 0)) := by
        have := HS.out
        rw [List.take_of_length_le (by omega), HIL.out] at this
        exact this
      clear HS hlt hl
      rename World => wq
      have hl2 := HIL.out
      have HUI : Hid (U64s (idsOf first ms)) := ids_u64 first ms HU.out hfu
      have c0 : (wq.alloc (.map #[] 0)).cell? ⟨R, 0, none⟩ = some (.slice (some ⟨B 0, 0, none⟩) n n) := (HS3.out.rd.alloc (.map #[] 0)).cell (i := 0) (by omega)
      obtain ⟨ids, HI⟩ : ∃ ids, Hid (idsOf first ms = ids) := ⟨_, rfl⟩
      rw [HI.out] at HS3 hl2 HUI
      have HLI : Hid (ids.length = n) := hl2
      clear hl2
      have hmm := run_mm 61 48 3 Try.underlying61 n
      have hB0 := HS3.out.lt.2 0 (by omega)
      go_wp2_with fail
      clear hmm c0
      go_loopw [78] (fun i wr => ∃ k : Nat, k ≤ n ∧ i = .int .i64 k ∧ Hid (MapF wr wq.heap.size k (fun y => (lastK ids y k).map (fun j : Nat => .int .i64 j))) ∧ Below wq.heap.size wq wr) (fun i _ => n - (intOf i).toNat)
      case atStart => exact ⟨0, Nat.zero_le _, rfl, MapF.made _, (Below.refl _ _).alloc (Nat.le_refl _) _⟩
      case round =>
        obtain ⟨k, hk, rfl, HM, hb2⟩ := hrel
        by_cases hlt : k < n
        · have hx : wr.cell? ⟨B 0, k, none⟩ = some (.int .u64 (ids.getD k 0)) := by
            rw [hb2.cell (p := ⟨B 0, k, none⟩) hB0, HS3.out.ids.cellAt k (by omega)]
            have := HLI.out
            simp [List.getD, show k < ids.length by omega]
          have hxu := HUI.out k
          obtain ⟨w2, hup, hM2, hgr⟩ := HM.out.update 61 3 Try.underlying61 (by unfold maxLen; omega) (ids.getD k 0) hxu.1 hxu.2 (.int .i64 k)
          have HM2 : Hid (MapF w2 wq.heap.size (k + 1) (fun y => (lastK ids y (k + 1)).map (fun j : Nat => .int .i64 j))) := by
            have e : (fun y => (lastK ids y (k + 1)).map (fun j : Nat => Value.int .i64 j)) = (fun y => if y = ids.getD k 0 then some (.int .i64 k) else (lastK ids y k).map (fun j : Nat => Value.int .i64 j)) := by
              funext y
              show Option.map _ (if ids.getD k 0 = y then some k else lastK ids y k) = _
              by_cases e : y = ids.getD k 0
              · rw [if_pos e, if_pos e.symm]; rfl
              · rw [if_neg e, if_neg (fun h => e h.symm)]
            show MapF _ _ _ _
            rw [e]
            exact hM2
          have hb3 : Below wq.heap.size wq w2 := hb2.grown hgr hb2.size (fun j e => by injection e with e; omega)
          clear hM2 hgr HM
          generalize ids.getD k 0 = x at *
          go_wp2
          go_roundw
          case rel => exact ⟨k + 1, by omega, by go_num, HM2, hb3⟩
          case measure => simp [intOf]; omega
        obtain rfl : n = k := by omega
        clear hlt
        rename World => wp
        have HS4 : Hid (St w.heap.size wp R n B n ids (fun _ => .slice none 0 0) (fun _ => 0)) := HS3.out.keep (Keep.ofBelow (p := fun _ => False) hb2) (fun _ h => h.elim)
        have hbp : Below w.heap.size w wp := hbel.trans (hb2.mono hbel.size)
        have hMl : wq.heap.size < wp.heap.size := HM.out.lt
        have hMn : R ≠ wq.heap.size ∧ ∀ j, j < 8 → B j ≠ wq.heap.size := ⟨by have := HS3.out.lt.1; omega, fun j hj => by have := HS3.out.lt.2 j hj; omega⟩
        have c0 : wp.cell? ⟨R, 0, none⟩ = some (.slice (some ⟨B 0, 0, none⟩) n n) := HS4.out.rd.cell (i := 0) (by omega)
        clear HS3 hb2 hbel hB0
        obtain ⟨M2, HM2⟩ : ∃ m, Hid (wq.heap.size = m) := ⟨_, rfl⟩
        rw [HM2.out] at HM hMl hMn ⊢
        go_wp2_with fail
        clear c0
        obtain ⟨X, HX⟩ : ∃ X : Nat → List Int, Hid (∀ j, X j = nxt ids n (zrow F Z (ids.getD j 0))) := ⟨fun j => _, fun j => rfl⟩
        go_loopw [92] (fun i wr => ∃ k : Nat, k ≤ n ∧ i = .int .i64 k ∧ Hid (∃ nx, St w.heap.size wr R n B n ids nx (fun _ => 0) ∧ Rows wp.heap.size wr nx X k n) ∧ Keep (· = B 1) wp.heap.size wp wr) (fun i _ => n - (intOf i).toNat)
        case atStart => exact ⟨0, Nat.zero_le _, rfl, ⟨_, HS4.out, fun j hj => absurd hj (by omega), fun j _ _ => rfl⟩, Keep.refl _ _ _⟩
        case round =>
          obtain ⟨k, hk, rfl, HN, hkp⟩ := hrel
          rename World => wo
          have hbo : Below w.heap.size w wo := hbp.trans (hkp.below hbp.size (fun b e => by rw [e]; exact (HS4.out.rows 1 (by omega)).1))
          by_cases hlt : k < n
          · obtain ⟨nx0, hst, hrw⟩ := HN.out
            have HST : Hid (St w.heap.size wo R n B n ids nx0 (fun _ => 0)) := hst
            have HRW : Hid (Rows wp.heap.size wo nx0 X k n) := hrw
            clear hst hrw HN
            have hx : wo.cell? ⟨B 0, k, none⟩ = some (.int .u64 (ids.getD k 0)) := by
              rw [HST.out.ids.cellAt k (by omega)]
              have := HLI.out
              simp [List.getD, show k < ids.length by omega]
            have hxu := HUI.out k
            have hgc : wo.cell? ⟨G, 1, none⟩ = some (.map (some M)) := (hbo.cell (p := ⟨G, 1, none⟩) HG.out.gl).trans HG.out.gc
            obtain ⟨ra, rl, rc, hlk, hsl, hrl, hzu⟩ := row_of HG.out hbo (ids.getD k 0) hxu.1 hxu.2
            have HXK : Hid (X k = nxt ids n (zrow F Z (ids.getD k 0))) := HX.out k
            have HSL : Hid (Sl w.heap.size .u64 w ra rl rc (zrow F Z (ids.getD k 0))) := hsl
            have HZU : Hid (U64s (zrow F Z (ids.getD k 0))) := hzu
            clear hsl hzu
            generalize zrow F Z (ids.getD k 0) = zs at *
            generalize ids.getD k 0 = x at *
            go_wp2_with fail
            clear hlk hx hgc
            have HNX : Hid (nx0 k = .slice none 0 0) := HRW.out.2 k (Nat.le_refl _) hlt
            obtain ⟨j0, hj0, hj0z, hj1, hj2⟩ := info_parts info3
            go_loopw [104] (fun i wr => ∃ q : Nat, q ≤ rl ∧ i = .int .i64 q ∧ Hid (∃ v, St w.heap.size wr R n B n ids (fun j => if j = k then v else nx0 j) (fun _ => 0) ∧ Cur wo.heap.size wr v (nxt ids n (zs.take q))) ∧ Keep (· = B 1) wo.heap.size wo wr) (fun i _ => rl - (intOf i).toNat)
            case atStart =>
              refine ⟨0, Nat.zero_le _, rfl, ⟨.slice none 0 0, ?_, ?_⟩, Keep.refl _ _ _⟩
              · have e : (fun j => if j = k then Value.slice none 0 0 else nx0 j) = nx0 := by
                  funext j
                  by_cases e : j = k
                  · rw [if_pos e, e]; exact HNX.out.symm
                  · rw [if_neg e]
                rw [e]; exact HST.out
              · exact ⟨⟨rfl, .inl ⟨rfl, rfl⟩⟩, fun _ => rfl⟩
            case round =>
              obtain ⟨q, hq, rfl, HV, hki⟩ := hrel
              have hB1 : B 1 < wo.heap.size := HST.out.lt.2 1 (by omega)
              have hRl : R < wo.heap.size := HST.out.lt.1
              have hbi : Below w.heap.size w wr := hbo.trans (hki.below hbo.size (fun b e => by rw [e]; exact (HST.out.rows 1 (by omega)).1))
              by_cases hql : q < rl
              · obtain ⟨hzl, ⟨_, h0, _⟩ | ⟨b, o, rfl, hb, hc, hcell⟩⟩ := HSL.out
                · omega
                have hx := (hbi.cell (p := ⟨b, o + q, none⟩) hb).trans (hcell q hql)
                have hxu := HZU.out q
                have HNS : Hid (nxt ids n (zs.take (q + 1)) = nxt ids n (zs.take q) ++ (plc ids n (zs.getD q 0)).toList) := nxt_succ ids n zs q (by omega)
                have HM' : MapF wr M2 n (fun y => (lastK ids y n).map (fun j : Nat => .int .i64 j)) := hki.map (hkp.map HM.out hMl (hMn.2 1 (by omega)).symm) (by have := hkp.size; omega) (hMn.2 1 (by omega)).symm
                have hlk := HM'.look true 61 3 Try.underlying61 _ (zero3 wr) (zs.getD q 0) hxu.1 hxu.2
                clear HM' hcell hzl
                generalize zs.getD q 0 = t at *
                cases hp : lastK ids t n with
                | none =>
                  rw [hp] at hlk
                  have hlk' : (Instr.lookup 61 (.map (some M2)) (.int .u64 t) true).run Try.prog wr = .ok (.tuple #[.int .i64 0, .bool false]) wr := hlk
                  have HNS' : Hid (nxt ids n (zs.take (q + 1)) = nxt ids n (zs.take q)) := by
                    show _ = _
                    rw [HNS.out]
                    unfold plc
                    rw [hp]
                    simp
                  clear hlk hp HNS
                  go_wp2
                  go_roundw
                  case rel =>
                    refine ⟨q + 1, by omega, by go_num, ?_, hki⟩
                    rw [HNS'.out]; exact HV
                  case measure => simp [intOf]; omega
                | some p =>
                  rw [hp] at hlk
                  have hlk' : (Instr.lookup 61 (.map (some M2)) (.int .u64 t) true).run Try.prog wr = .ok (.tuple #[.int .i64 p, .bool true]) wr := hlk
                  have HNS' : Hid (nxt ids n (zs.take (q + 1)) = nxt ids n (zs.take q) ++ [(p : Int)]) := by
                    show _ = _
                    rw [HNS.out]
                    unfold plc
                    rw [hp]
                    simp
                  clear hlk hp HNS
                  obtain ⟨v, hsv, hcv, hcn⟩ := HV.out
                  have HSV : Hid (St w.heap.size wr R n B n ids (fun j => if j = k then v else nx0 j) (fun _ => 0)) := hsv
                  have HCN : Hid (nxt ids n (zs.take q) = [] → v = .slice none 0 0) := hcn
                  have hxl : (nxt ids n (zs.take q)).length ≤ 131072 := by
                    have h1 := nxt_le ids n (zs.take q)
                    have h2 := List.length_take_le q zs
                    omega
                  clear hsv hcn HV
                  generalize hxs : nxt ids n (zs.take q) = xs at *
                  clear hxs
                  have HCV : Hid (wr.ownsRow wo.heap.size 3 1 v xs.length (xs.map (Value.int .i64))) := hcv
                  clear hcv
                  have d1 : wr.cell? ⟨R, 1, none⟩ = some (.slice (some ⟨B 1, 0, none⟩) n n) := HSV.out.rd.cell (i := 1) (by omega)
                  have d2 : wr.cell? ⟨B 1, k, none⟩ = some v := by rw [HSV.out.next.cell hlt, if_pos rfl]
                  have d3 : wr.frozen? ⟨B 1, k, none⟩ = false := HSV.out.next.frozen k
                  have d4 : ∀ o : Obj, (wr.alloc o).frozen? ⟨B 1, k, none⟩ = false := fun o => (HSV.out.next.alloc o).frozen k
                  have d5 : ∀ o : Obj, (wr.alloc o).drew.frozen? ⟨B 1, k, none⟩ = false := fun o => (HSV.out.next.alloc o).frozen k
                  have d6 : ∀ o : Obj, (wr.alloc o).cell? ⟨B 1, k, none⟩ = some v := fun o => by rw [(HSV.out.next.alloc o).cell hlt, if_pos rfl]
                  have d7 : ∀ o : Obj, (wr.alloc o).drew.cell? ⟨B 1, k, none⟩ = some v := d6
                  have d8 : ∀ o : Obj, (wr.alloc o).drew.cell? ⟨R, 1, none⟩ = some (.slice (some ⟨B 1, 0, none⟩) n n) := fun o => (HSV.out.rd.alloc o).cell (i := 1) (by omega)
                  have d9 : ∀ o : Obj, (wr.alloc o).cell? ⟨R, 1, none⟩ = some (.slice (some ⟨B 1, 0, none⟩) n n) := fun o => (HSV.out.rd.alloc o).cell (i := 1) (by omega)
                  have hwl := hki.size
                  have av : v.ownBlock ≠ some (B 1) := fun e => by have := (HCV.out.lt _ e).1; omega
                  have ar : v.ownBlock ≠ some R := fun e => by have := (HCV.out.lt _ e).1; omega
                  have k0 : (0 : Int) ≤ (k : Int) := Int.natCast_nonneg _
                  have k1 : (k : Int) < (n : Int) := by omega
                  obtain ⟨b1, HB1⟩ : ∃ b, Hid (b = B 1) := ⟨_, rfl⟩
                  rw [← HB1.out] at d1 d2 d3 d4 d5 d6 d7 d8 d9 av
                  have hbr : ¬ b1 = R := by rw [HB1.out]; exact (HST.out.rows 1 (by omega)).2
                  have hrb : ¬ R = b1 := fun e => hbr e.symm
                  have hb1l : b1 < wr.heap.size := by rw [HB1.out]; omega
                  have hRl2 : R < wr.heap.size := by omega
                  clear HG HMS HU HA HF HIL hfu hi hz0 hz1 hz2 HUI HI HLI HS4 hbp hMl hMn HM hkp hbo HX HRW HNX HXK HSL HZU HCN hbi
                  go_wp2_with fail
                  clear hx hlk' hxu
                  go_region_law
                    ((refine step_append_lies _ (by rfl) _ _ _ (by rfl) wo.heap.size 3 j0 _ 1 8 Try.underlying30 hj0 hj0z hj1 hj2 rfl (by omega) v xs.length (xs.map (Value.int .i64)) (by rfl) ((HCV.out.alloc _).drew)
                        ⟨wr.heap.size, 0, none⟩ 1 1 [.int .i64 p] (by rfl) (by rfl) (World.news_of_block (cs := #[.int .i64 p]) (t := 3) (fr := (0, 0)) (heap_alloc_new wr _)) (one1 _ _)
                        (by omega) (by unfold maxLen; omega) (by omega) (by simp; omega) (wr.heap.size + 1) (by simp) ?_; intro gg gcap w1 hown1 hgrow hat hlt1; have e7 : w1.cell? ⟨b1, k, none⟩ = some v := (hgrow.cell_far ⟨b1, k, none⟩ (by simp; omega) (Ne.symm av)).trans (d7 _);
                        have e8 : w1.cell? ⟨R, 1, none⟩ = some (.slice (some ⟨b1, 0, none⟩) n n) := (hgrow.cell_far ⟨R, 1, none⟩ (by simp; omega) (Ne.symm ar)).trans (d8 _); have e9 : w1.frozen? ⟨b1, k, none⟩ = false := (hgrow.frozen_far ⟨b1, k, none⟩ (by simp; omega) (Ne.symm av)).trans (d5 _)))
                  all_goals
                    have e1 := HB1.out
                    subst e1
                    have HA := app_step HSV.out HCV.out hki hRl (fun j hj => HST.out.lt.2 j hj) hown1 hgrow
                    rw [← HNS'.out] at HA
                    have HA1 := Hid.out (p := Hid _) HA.1
                    have HA2 := HA.2
                    clear HA hown1 hgrow e7 e8 e9 d1 d2 d3 d4 d5 d6 d7 d8 d9
                    go_wp2
                    go_roundw
                    case rel => exact ⟨q + 1, by omega, by go_num, HA1, HA2⟩
                    case measure => simp [intOf]; omega
              obtain rfl : rl = q := by omega
              clear hql
              have hzl := HSL.out.1
              have hNX : Hid (∃ nx, St w.heap.size wr R n B n ids nx (fun _ => 0) ∧ Rows wp.heap.size wr nx X (k + 1) n) := by
                obtain ⟨v, hsv, hcv, hcn⟩ := HV.out
                rw [List.take_of_length_le (by omega), ← HXK.out] at hcv hcn
                refine ⟨_, hsv, fun j hj => ?_, fun j hj hjn => ?_⟩
                · by_cases e : j = k
                  · subst e
                    dsimp only
                    rw [if_pos rfl]
                    by_cases hx0 : X j = []
                    · exact ⟨none, 0, 0, hcn hx0, ⟨⟨by rw [hx0]; rfl, .inl ⟨rfl, rfl, rfl⟩⟩, fun a ha => by cases ha⟩, fun _ => rfl⟩
                    · obtain ⟨g, c, hv, hg1, hg2⟩ := hcv.form (List.length_pos_iff.2 hx0)
                      subst hv
                      refine ⟨_, _, _, rfl, ⟨own_Sl hcv, fun a ha => ?_⟩, fun h0 => absurd (List.length_eq_zero_iff.1 h0) hx0⟩
                      cases ha
                      show ¬ g < wp.heap.size
                      have := hkp.size
                      omega
                  · dsimp only
                    rw [if_neg e]
                    obtain ⟨ao, l, c, h1, h2, h3⟩ := HRW.out.1 j (by omega)
                    exact ⟨ao, l, c, h1, (h2.keep (hki.mono (Nat.le_refl _) (fun b _ e => by rw [e]; exact HS4.out.lt.2 1 (by omega))) (Nat.le_refl _)).mono hki.size, h3⟩
                · dsimp only
                  rw [if_neg (by omega)]
                  exact HRW.out.2 j (by omega) hjn
              clear HV HRW HST HNX HXK HSL HZU
              have hkp2 : Keep (· = B 1) wp.heap.size wp wr := hkp.trans (hki.mono hkp.size (fun _ _ e => e))
              go_wp2
              go_roundw
              case rel => exact ⟨k + 1, by omega, by go_num, hNX, hkp2⟩
              case measure => simp [intOf]; omega
          obtain rfl : n = k := by omega
          clear hlt
          obtain ⟨nx, hst, hrw⟩ := HN.out
          have HST : Hid (St w.heap.size wo R n B n ids nx (fun _ => 0)) := hst
          have HRW : Hid (Rows wp.heap.size wo nx X n n) := hrw
          have HXL : Hid (∀ j, j < n → (X j).length ≤ 131072) := fun j _ => by
            rw [HX.out j]
            exact Nat.le_trans (nxt_le _ _ _) (zrow_le HG.out _)
          have hn1 : 1 ≤ n := by omega
          have hB2T := HS4.out.lt.2 2 (by omega)
          have hwp := hbp.size
          clear hst hrw HN HS4 HM hMl hMn hkp hbp HG HMS HU HA HUI HLI hfu hi hz0 hz1 hz2
          go_wp2_with fail
          go_loopw [20] (fun i wr => ∃ j : Int, -1 ≤ j ∧ j + 2 ≤ (n : Int) ∧ i = .int .i64 j ∧ Hid (St w.heap.size wr R n B n ids nx (fun p => if j < (p : Int) then arcsF X n p else 0)) ∧ Keep (· = B 2) wo.heap.size wo wr) (fun i _ => (intOf i + 1).toNat)
          case atStart =>
            refine ⟨(n : Int) - 2, by omega, by omega, by go_num, HST.out.congrArcs (fun p hp => ?_), Keep.refl _ _ _⟩
            by_cases e : (n : Int) - 2 < (p : Int)
            · rw [if_pos e, arcs_last X n p (by omega)]
            · rw [if_neg e]
          case round =>
            obtain ⟨j, hj1, hj2, rfl, HS5, hk5⟩ := hrel
            by_cases hj0 : 0 ≤ j
            · obtain ⟨s, rfl⟩ := Int.eq_ofNat_of_zero_le hj0
              have hs : s + 1 < n := by omega
              obtain ⟨ao, l, c, hnx, hsl, _⟩ := HRW.out.1 (s + 1) hs
              have hl : l ≤ 131072 := by rw [← hsl.1.1]; exact HXL.out (s + 1) hs
              have HST' : Hid (arcsF X n (s + 1) + (l : Int) = arcsF X n s) := by
                show _ = _
                rw [← hsl.1.1]; exact arcs_step X n s hs
              have hbd := arcs_bd X n (s + 1) HXL.out hn
              have d1 : wr.cell? ⟨R, 1, none⟩ = some (.slice (some ⟨B 1, 0, none⟩) n n) := HS5.out.rd.cell (i := 1) (by omega)
              have d2 : wr.cell? ⟨R, 2, none⟩ = some (.slice (some ⟨B 2, 0, none⟩) n n) := HS5.out.rd.cell (i := 2) (by omega)
              have d3 : wr.cell? ⟨B 1, s + 1, none⟩ = some (.slice ao l c) := by rw [HS5.out.next.cell hs, hnx]
              have d4 : wr.cell? ⟨B 2, s + 1, none⟩ = some (.int .i64 (arcsF X n (s + 1))) := by
                rw [HS5.out.arcs.cell hs, if_pos (by omega)]
              have d5 : wr.cell? ⟨B 2, s, none⟩ = some (.int .i64 0) := by
                rw [HS5.out.arcs.cell (by omega), if_neg (by omega)]
              have d6 : wr.frozen? ⟨B 2, s, none⟩ = false := HS5.out.arcs.frozen s
              have HS6 : Hid (St w.heap.size (wr.setCell ⟨B 2, s, none⟩ (.int .i64 (arcsF X n (s + 1) + (l : Int)))).drew R n B n ids nx (fun p => if (s : Int) - 1 < (p : Int) then arcsF X n p else 0)) := by
                refine St.same (w := wr.setCell ⟨B 2, s, none⟩ (.int .i64 (arcsF X n (s + 1) + (l : Int)))) ((HS5.out.setArcs s _).congrArcs (fun p hp => ?_)) rfl (fun _ _ => rfl)
                by_cases e : p = s
                · subst e
                  rw [if_pos rfl, if_pos (by omega), HST'.out]
                · rw [if_neg e]
                  by_cases e2 : (s : Int) < (p : Int)
                  · rw [if_pos e2, if_pos (by omega)]
                  · rw [if_neg e2, if_neg (by omega)]
              have hk6 : Keep (· = B 2) wo.heap.size wo (wr.setCell ⟨B 2, s, none⟩ (.int .i64 (arcsF X n (s + 1) + (l : Int)))).drew := (Keep.setCell (q := ⟨B 2, s, none⟩) hk5 (.inr rfl) _).drew
              have d7 : ∀ u, (wr.setCell ⟨B 2, s, none⟩ u).cell? ⟨B 2, s + 1, none⟩ = some (.int .i64 (arcsF X n (s + 1))) := fun u => by
                rw [(HS5.out.arcs.set s u).cell hs, if_neg (by omega), if_pos (by omega)]
              have d8 : ∀ u, (wr.setCell ⟨B 2, s, none⟩ u).drew.cell? ⟨B 2, s + 1, none⟩ = some (.int .i64 (arcsF X n (s + 1))) := d7
              have hne := HS5.out.ne 1 2 (by omega) (by omega) (by omega)
              have hr2 := (HS5.out.rows 2 (by omega)).2
              have i0 : (0 : Int) ≤ (s : Int) := by omega
              have i1 : (s : Int) < (n : Int) := by omega
              have i2 : (0 : Int) ≤ (s : Int) + 1 := by omega
              have i3 : (s : Int) + 1 < (n : Int) := by omega
              clear HS5 hnx hsl HRW HST hj2 hj1 HST'
              generalize arcsF X n (s + 1) = y at *
              obtain ⟨b1, HB1⟩ : ∃ b, Hid (B 1 = b) := ⟨_, rfl⟩
              obtain ⟨b2, HB2⟩ : ∃ b, Hid (B 2 = b) := ⟨_, rfl⟩
              rw [HB1.out] at d1 d3 hne
              rw [HB2.out] at d2 d4 d5 d6 d7 d8 hne hr2 HS6 hk6
              have hne' : ¬ b2 = b1 := fun e => hne e.symm
              have hr2' : ¬ R = b2 := fun e => hr2 e.symm
              have hw1 : IntKind.i64.wrap ((s : Int) + 1) = (s : Int) + 1 := IntWalk.i64_in _ (by omega)
              have hw2 : IntKind.i64.wrap (y + (l : Int)) = y + (l : Int) := IntWalk.i64_in _ (by omega)
              have ht1 : ((s : Int) + 1).toNat = s + 1 := by omega
              go_wp2_with fail
              go_region_held3 (fun w' => w'.cell? ⟨R, 1, none⟩ = some (.slice (some ⟨b1, 0, none⟩) n n) ∧ w'.cell? ⟨R, 2, none⟩ = some (.slice (some ⟨b2, 0, none⟩) n n) ∧ w'.cell? ⟨b1, s + 1, none⟩ = some (.slice ao l c) ∧ w'.cell? ⟨b2, s + 1, none⟩ = some (.int .i64 y) ∧ w'.frozen? ⟨b2, s, none⟩ = false) (go_keep) (fail)
              rw [← HB2.out] at HS6 hk6 ⊢
              clear d1 d2 d3 d4 d5 d6 d7 d8 hw1 hw2 ht1
              go_wp2
              go_roundw
              case rel => exact ⟨(s : Int) - 1, by omega, by omega, by go_num, HS6, hk6⟩
              case measure => first | (simp [intOf]; done) | (simp [intOf]; omega)
            have hjm : j = -1 := by omega
            subst hjm
            have HF5 : Hid (St w.heap.size wr R n B n (idsOf first ms) nx (arcsF (nextF F Z first ms n) n) ∧ NextOk w.heap.size wr nx (nextF F Z first ms n) n) := by
              have eX : X = nextF F Z first ms n := by
                funext p
                rw [HX.out p, ← HI.out]
                rfl
              rw [← eX, HI.out]
              refine ⟨HS5.out.congrArcs (fun p hp => if_pos (by omega)), fun p hp => ?_⟩
              obtain ⟨ao, l, c, h1, h2, h3⟩ := HRW.out.1 p hp
              have h5 := (h2.keep (hk5.mono (Nat.le_refl _) (fun b _ e => by rw [e]; exact hB2T)) (Nat.le_refl _)).mono hk5.size
              exact ⟨ao, l, c, h1, ⟨h5.1, fun a ha hb => h5.2 a ha (Nat.lt_of_lt_of_le hb hwp)⟩, h3⟩
            have hbf : Below w.heap.size w wr := hbo.trans (hk5.below hbo.size (fun b e => by rw [e]; exact (HST.out.rows 2 (by omega)).1))
            clear HS5 HRW HST HX HI
            go_wp2
            go_ret
            exact ⟨⟨R, B, nx, ⟨rfl, HF5.out⟩⟩, hbf⟩
end Go.Proofs.Qxb6602686a
