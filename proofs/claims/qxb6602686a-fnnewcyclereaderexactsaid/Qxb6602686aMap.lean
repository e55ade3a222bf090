/-
  A map of the call's own, keyed by uint64, as a function to values.
-/
import Derived.Test.Qxb6602686aInv
import Derived.Maps.OwnOps
import Derived.Maps.Views
namespace Go.Proofs.Qxb6602686a
open Go.RowKit Go.Maps Go.ChangeMaps Go.MapKept
set_option linter.unusedVariables false

/-- Each element reads as itself. -/
def tokR (v : Value) : Option (DataW Value × List MemPlace) := some (.held v, [])

/-- Block b of w is a map of at most n entries that holds f. -/
def MapF (w : World) (b n : Nat) (f : Int → Option Value) : Prop :=
  ∃ D : DataW Value, Go.Maps.IsMap D ∧ w.ownsMap Try.prog 48 tokR b n D ∧ ∀ x, 0 ≤ x → x ≤ 18446744073709551615 → ∀ z, D.atKey (.int .u64 x) z = match f x with | some v => .held v | none => z

theorem keyed48 : Keyed Try.prog 48 := int_keyed Try.underlying48

theorem MapF.made (w : World) : MapF (w.alloc (.map #[] 0)) w.heap.size 0 (fun _ => none) :=
  ⟨.map [], ⟨[], rfl⟩, World.ownsMap_made w _ _ _, fun x _ _ z => rfl⟩

theorem MapF.mono {w b n n' f} (h : MapF w b n f) (hn : n ≤ n') : MapF w b n' f := by
  obtain ⟨D, h1, h2, h3⟩ := h
  exact ⟨D, h1, h2.mono hn, h3⟩

theorem MapF.lt {w b n f} (h : MapF w b n f) : b < w.heap.size := by
  obtain ⟨D, h1, h2, h3⟩ := h
  exact h2.lt

/-- The map stays while its block does. -/
theorem MapF.same {w w' b n f} (h : MapF w b n f) (hb : w'.heap[b]? = w.heap[b]?) : MapF w' b n f := by
  obtain ⟨D, h1, ⟨es, clock, e1, e2⟩, h3⟩ := h
  exact ⟨D, h1, ⟨es, clock, hb.trans e1, e2⟩, h3⟩

theorem wf_u64 {x : Int} (h0 : 0 ≤ x) (h1 : x ≤ 18446744073709551615) : (Lit.int .u64 x).wf = true := WalkArith.wf_u64 (by omega)

theorem MapF.update {w b n f} (h : MapF w b n f) (t e : TypeId) (ht : Try.prog.underlying t = some (.map 48 e)) (hn : n < maxLen) (x : Int) (h0 : 0 ≤ x) (h1 : x ≤ 18446744073709551615) (v : Value) :
    ∃ w', (Instr.mapUpdate t (.map (some b)) (.int .u64 x) v).run Try.prog w = .ok () w' ∧ MapF w' b (n + 1) (fun y => if y = x then some v else f y) ∧ w.grownBy w' (some b) := by
  obtain ⟨D, m1, m2, m3⟩ := h
  obtain ⟨w', r1, r2, r3⟩ := m2.update keyed48 ht hn (keyOf_int_mk Try.underlying48 (wf_u64 h0 h1)) (show tokR v = some (.held v, []) from rfl)
  refine ⟨w', r1, ⟨_, m1.put _ _, r2, fun y y0 y1 z => ?_⟩, r3⟩
  by_cases hy : y = x
  · subst hy
    rw [atKey_put_same m1 (show WideAt.IsKeyLit (.int .u64 y) from trivial)]
    simp
  · rw [atKey_put_other (fun e => hy (by injection e))]
    simp only [if_neg hy]
    exact m3 y y0 y1 z

theorem MapF.look {w b n f} (h : MapF w b n f) (c : Bool) (t e : TypeId) (ht : Try.prog.underlying t = some (.map 48 e)) (z : Value) (hz : (zeroValue e).run Try.prog w = .ok z w) (x : Int) (h0 : 0 ≤ x) (h1 : x ≤ 18446744073709551615) :
    (Instr.lookup t (.map (some b)) (.int .u64 x) c).run Try.prog w = .ok (if c then .tuple #[(f x).getD z, .bool (f x).isSome] else (f x).getD z) w := by
  obtain ⟨D, m1, ⟨es, clock, e1, e2, e3, rfl⟩, m3⟩ := h
  rcases fit_look c keyed48 ht hz e1 e2 (keyOf_int_mk Try.underlying48 (wf_u64 h0 h1)) with ⟨hrun, _, hat⟩ | ⟨e0, y, _, _, hrun, hR, hat, _⟩
  · have hf : f x = none := by
      have := (m3 x h0 h1 .nil).symm.trans (hat .nil)
      cases hx : f x with
      | none => rfl
      | some v => rw [hx] at this; cases this
    rw [hrun, hf]; rfl
  · have hf : f x = some e0.val := by
      have := (m3 x h0 h1 .nil).symm.trans (hat .nil)
      simp only [tokR, Option.some.injEq] at hR
      rw [← hR] at this
      cases hx : f x with
      | none => rw [hx] at this; cases this
      | some v => rw [hx] at this; cases this; rfl
    rw [hrun, hf]; rfl
end Go.Proofs.Qxb6602686a
