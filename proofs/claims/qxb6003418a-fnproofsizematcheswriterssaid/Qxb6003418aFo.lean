/-
  A slice that is full, or that the call owns: one law for 'append' onto it.
-/
import Derived.Test.Qxb6003418aUv
import Derived.ArgAppend
import Derived.Deep.Onto
namespace Go.Proofs.Qxb6003418a
open Go.RowKit
set_option linter.unusedVariables false

theorem grown_of_below {w w' : World} (h : Below w.heap.size w w') : w.grownBy w' none := ⟨h.os, h.tape, h.output, h.size, fun k hk _ => h.block k hk⟩

theorem own_below {w w' : World} {B e s n : Nat} {v : Value} {xs : List Value} (h : w.ownsRow B e s v n xs) (hb : Below w.heap.size w w') : w'.ownsRow B e s v n xs := by
  refine h.kept (grown_of_below hb) ?_
  cases hv : v.ownBlock with
  | none => exact .inl rfl
  | some g => exact .inr (by simp)

/-- v is full (its capacity is its length) and lies in a block below B, or the call owns it from B on; it holds zs. -/
def Fo (B e : Nat) (k : IntKind) (w : World) (v : Value) (zs : List Int) : Prop :=
  (∃ ao, v = .slice ao zs.length zs.length ∧ Sl B k w ao zs.length zs.length zs) ∨ w.ownsRow B e 1 v zs.length (zs.map (Value.int k))

theorem Fo.below {B e k w w' v zs} (h : Fo B e k w v zs) (hb : Below w.heap.size w w') (hB : B ≤ w.heap.size) : Fo B e k w' v zs := by
  rcases h with ⟨ao, h1, h2⟩ | h
  · exact .inl ⟨ao, h1, h2.below (hb.mono hB)⟩
  · exact .inr (own_below h hb)

theorem Fo.full {B e k w ao n zs} (h : Sl B k w ao n n zs) : Fo B e k w (.slice ao n n) zs := by
  obtain rfl := h.1
  exact .inl ⟨ao, rfl, h⟩

/-- What a slice value that holds zs is. -/
theorem own_form {B e k w v zs} (h : World.ownsRow w B e 1 v zs.length (zs.map (Value.int k))) : ∃ ao cap, v = .slice ao zs.length cap ∧ Sl w.heap.size k w ao zs.length cap zs := by
  have h' := h
  obtain ⟨_, ⟨rfl, h2⟩ | ⟨g, cap, cur, rfl, _⟩⟩ := h
  · have : zs = [] := List.eq_nil_of_length_eq_zero h2
    subst this
    exact ⟨none, 0, rfl, rfl, .inl ⟨rfl, rfl, rfl⟩⟩
  · exact ⟨_, cap, rfl, own_Sl h'⟩

theorem Fo.form {B e k w v zs} (h : Fo B e k w v zs) (hB : B ≤ w.heap.size) : ∃ ao cap, v = .slice ao zs.length cap ∧ Sl w.heap.size k w ao zs.length cap zs := by
  rcases h with ⟨ao, h1, h2⟩ | h
  · exact ⟨ao, _, h1, h2.mono hB⟩
  · exact own_form h

theorem Fo.lt {B e k w v zs} (h : Fo B e k w v zs) (hB : B ≤ w.heap.size) : ∀ g, v.ownBlock = some g → g < w.heap.size := by
  intro g hg
  rcases h with ⟨ao, rfl, _, ⟨rfl, _, _⟩ | ⟨b, o, rfl, h2, _⟩⟩ | h
  · simp [Value.ownBlock] at hg
  · simp [Value.ownBlock] at hg; omega
  · exact (h.lt g hg).2

theorem wpList_append_fo (w : World) {ops : Array Oper} {rest : List Oper} {o : Oper} {a : Act} {Q : Exit → Act → World → Prop}
    (hg : o.guard = none) (s x : Operand) (t : TypeId) (hop : o.op = Op.call { callee := Callee.builtin Builtin.append, args := #[s, x], argTypes := #[t, t] })
    (B e : TypeId) (i : TypeInfo) (k : IntKind) (bytes : Nat) (h1 : Try.prog.underlying t = some (.slice e)) (h2 : Try.prog.info? e = some i) (h3 : i.zero = some (.int k 0)) (h4 : i.size = 1) (h5 : i.bytes = bytes)
    (v : Value) (zs : List Int) (hs : a.eval s = v) (hfo : Fo B e k w v zs) (hB : B ≤ w.heap.size)
    (ad : Addr) (m c : Nat) (nz : List Int) (hx : a.eval x = .slice (some ad) m c) (hn : nz.length = m) (hc : ∀ j, j < m → w.cell? (ad.add j) = some (.int k (nz.getD j 0))) (hm : 0 < m)
    (b1 : zs.length + m ≤ 1073741824) (b2 : bytes ≤ 64)
    (hK : ∀ v' w', w'.ownsRow B e 1 v' (zs ++ nz).length ((zs ++ nz).map (Value.int k)) → Below B w w' → w.grownBy w' v.ownBlock → wpList Try.prog ops Q rest (a.put o.dst v') w') :
    wpList Try.prog ops Q (o :: rest) a w := by
  have hc' : ∀ j u, (nz.map (Value.int k))[j]? = some u → w.cell? (ad.add j) = some u := by
    intro j u hu
    have hj : j < nz.length := by have := (List.getElem?_eq_some_iff.1 hu).1; simpa using this
    rw [hc j (by omega)]
    rw [← hu]
    simp [List.getD, hj]
  have hlen : (zs ++ nz).length = zs.length + m := by simp [hn]
  have b3 : (zs.length + m) * bytes ≤ 140737488355328 := by
    have := Nat.mul_le_mul b1 b2; omega
  rcases hfo with ⟨ao, hv, hsl⟩ | hown
  · refine wpList_append_grows w hg s x t hop e i (.int k 0) 1 bytes h1 h2 h3 h4 h5 rfl (by decide) ao zs.length zs.length (zs.map (Value.int k)) (by rw [hs, hv]) ?_ (by simp) ?_ ad m c (nz.map (Value.int k)) hx (by simp [hn]) hc' (ints_oneCell _ _) (by omega) (by unfold maxLen; omega) b3 ?_
    · intro hao
      obtain ⟨_, ⟨_, h, h'⟩ | ⟨b, o, h, _⟩⟩ := hsl
      · exact ⟨h, h'⟩
      · rw [hao] at h; cases h
    · intro b hb j u hu
      have hj : j < zs.length := by have := (List.getElem?_eq_some_iff.1 hu).1; simpa using this
      obtain ⟨_, ⟨h, _⟩ | ⟨b', o', h, _, _, hcell⟩⟩ := hsl
      · rw [hb] at h; cases h
      · rw [hb] at h
        obtain rfl := Option.some.inj h
        rw [WideShapes.add_plain, hcell j hj, ← hu]
        simp [List.getD, hj]
    · intro v' w' ho hgr
      refine hK v' w' ?_ ((Below.refl _ _).grown hgr hB (by simp)) ⟨hgr.os, hgr.tape, hgr.output, hgr.size, fun k hk _ => hgr.block k hk (by simp)⟩
      rw [hlen, List.map_append]
      exact ho.mono hB
  · refine wpList_append_own w hg s x t hop B e i (.int k 0) 1 bytes h1 h2 h3 h4 h5 rfl (by decide) v zs.length (zs.map (Value.int k)) hs hown ad m c (nz.map (Value.int k)) hx (by simp [hn]) hc' (ints_oneCell _ _) (by unfold maxLen; omega) b3 hB ?_
    intro v' w' ho hgr _
    refine hK v' w' ?_ ((Below.refl _ _).grown hgr hB (fun g hg => (hown.lt g hg).1)) hgr
    rw [hlen, List.map_append]
    exact ho
end Go.Proofs.Qxb6003418a
