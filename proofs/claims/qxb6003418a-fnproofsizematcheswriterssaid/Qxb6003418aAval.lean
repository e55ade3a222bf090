/-
  appendValue, valueSize, and their shims.
-/
import Derived.Test.Qxb6003418aZat
import Derived.Laws.AppendOwnNone
namespace Go.Proofs.Qxb6003418a
open Go.RowKit
set_option linter.unusedVariables false

/-- 'append(b, xs...)' onto a row that the call owns, xs lying in memory (it may be empty). -/
theorem wpList_append_ow (w : World) {ops : Array Oper} {rest : List Oper} {o : Oper} {a : Act} {Q : Exit → Act → World → Prop}
    (hg : o.guard = none) (s x : Operand) (t : TypeId) (hop : o.op = Op.call { callee := Callee.builtin Builtin.append, args := #[s, x], argTypes := #[t, t] })
    (B e : TypeId) (i : TypeInfo) (k : IntKind) (bytes : Nat) (h1 : Try.prog.underlying t = some (.slice e)) (h2 : Try.prog.info? e = some i) (h3 : i.zero = some (.int k 0)) (h4 : i.size = 1) (h5 : i.bytes = bytes)
    (v : Value) (zs : List Int) (hs : a.eval s = v) (hown : w.ownsRow B e 1 v zs.length (zs.map (Value.int k))) (hB : B ≤ w.heap.size)
    (ad : Addr) (m c : Nat) (nz : List Int) (hx : a.eval x = .slice (some ad) m c) (hn : nz.length = m) (hc : ∀ j, j < m → w.cell? (ad.add j) = some (.int k (nz.getD j 0)))
    (b1 : zs.length + m ≤ 1073741824) (b2 : bytes ≤ 64)
    (hK : ∀ v' w', w'.ownsRow B e 1 v' (zs ++ nz).length ((zs ++ nz).map (Value.int k)) → Below B w w' → wpList Try.prog ops Q rest (a.put o.dst v') w') :
    wpList Try.prog ops Q (o :: rest) a w := by
  have hc' : ∀ j u, (nz.map (Value.int k))[j]? = some u → w.cell? (ad.add j) = some u := by
    intro j u hu
    have hj : j < nz.length := by have := (List.getElem?_eq_some_iff.1 hu).1; simpa using this
    rw [hc j (by omega)]
    rw [← hu]
    simp [List.getD, hj]
  have hlen : (zs ++ nz).length = zs.length + m := by simp [hn]
  have b3 : (zs.length + m) * bytes ≤ 140737488355328 := by
    have := Nat.mul_le_mul b1 b2; omega
  refine wpList_append_own w hg s x t hop B e i (.int k 0) 1 bytes h1 h2 h3 h4 h5 rfl (by decide) v zs.length (zs.map (Value.int k)) hs hown ad m c (nz.map (Value.int k)) hx (by simp [hn]) hc' (ints_oneCell _ _) (by unfold maxLen; omega) b3 hB ?_
  intro v' w' ho hgr _
  refine hK v' w' ?_ ((Below.refl _ _).grown hgr hB (fun g hg => (hown.lt g hg).1))
  rw [hlen, List.map_append]
  exact ho

/-- What appendValue writes. -/
def valB (hv : Bool) (vs : List Int) : List Int := if hv then 1 :: (uvbF 9 vs.length ++ vs) else [0]

set_option maxHeartbeats 2000000 in
theorem appendValue_no (ao vo : Option Addr) (m vl vc : Nat) (zs : List Int) (w : World) (ha : Sl w.heap.size .u8 w ao m m zs) (hm : m ≤ 1048576) :
    Calls Try.prog 41 #[.slice ao m m, .bool false, .slice vo vl vc] w fun e w' =>
      ∃ g cap L, e = .returned (.slice (some ⟨g, 0, none⟩) L cap) ∧ Hid (L = (zs ++ [0]).length) ∧ Sl w'.heap.size .u8 w' (some ⟨g, 0, none⟩) L cap (zs ++ [0]) ∧ Below w.heap.size w w' := by
  obtain ⟨i0, hi, hz0, hz1, hz2⟩ := info_parts info5
  have HLZ : Hid (zs.length = m) := ha.1
  have hlz : zs.length ≤ 1048576 := by rw [HLZ.out]; exact hm
  have HF : Hid (Fo w.heap.size 5 .u8 w (.slice ao m m) zs) := Fo.full ha
  clear ha
  go_enter Try.func41, Try.ntmps41
  go_wp2_with (at_builtin; refine wpList_append_fo _ rfl (.tmp 9) (.tmp 10) 22 rfl w.heap.size 5 i0 .u8 1 Try.underlying22 hi hz0 hz1 hz2 _ zs rfl ?hfo ?hB ⟨w.heap.size, 0, none⟩ 1 1 [0] rfl rfl ?hc (by decide) ?b1 (by decide) ?_)
  case hfo => exact HF.out.below ((Below.refl _ _).alloc (Nat.le_refl _) _) (Nat.le_refl _)
  case hB => first | omega | simp
  case hc =>
    intro j hj
    obtain rfl : j = 0 := by omega
    simp [go_sem, Addr.add]
  case b1 => first | omega | (simp; omega)
  intro v' w1 ho hb1 _
  have ho2 : w1.ownsRow w.heap.size 5 1 v' (zs ++ [(0 : Int)]).length ((zs ++ [(0 : Int)]).map (Value.int .u8)) := by simpa using ho
  obtain ⟨g, cap, hv⟩ := own_pos ho2 (by simp)
  obtain ⟨L, HL⟩ : ∃ L, Hid (L = (zs ++ [(0 : Int)]).length) := ⟨_, rfl⟩
  rw [← HL.out] at hv ho2
  subst hv
  have HS : Hid (Sl w1.heap.size .u8 w1 (some ⟨g, 0, none⟩) L cap (zs ++ [0])) := own_Sl ho2
  clear ho ho2 hi hz0 hz1 hz2
  go_wp2
  go_ret
  exact ⟨g, cap, L, rfl, HL, HS.out, ((Below.refl _ _).alloc (Nat.le_refl _) _).trans hb1⟩
set_option maxHeartbeats 2000000 in
theorem appendValue_yes (ao vo : Option Addr) (m vl vc : Nat) (zs vs : List Int) (w : World) (ha : Sl w.heap.size .u8 w ao m m zs) (hv : Sl w.heap.size .u8 w vo vl vc vs) (hm : m ≤ 1048576) (hvl : vl ≤ 1048576) :
    Calls Try.prog 41 #[.slice ao m m, .bool true, .slice vo vl vc] w fun e w' =>
      ∃ g cap L, e = .returned (.slice (some ⟨g, 0, none⟩) L cap) ∧ Hid (L = (zs ++ (1 :: (uvbF 9 vl ++ vs))).length) ∧ Sl w'.heap.size .u8 w' (some ⟨g, 0, none⟩) L cap (zs ++ (1 :: (uvbF 9 vl ++ vs))) ∧ Below w.heap.size w w' := by
  obtain ⟨i0, hi, hz0, hz1, hz2⟩ := info_parts info5
  have HLZ : Hid (zs.length = m) := ha.1
  have HLV : Hid (vs.length = vl) := hv.1
  have hlz : zs.length ≤ 1048576 := by rw [HLZ.out]; exact hm
  have hul := ulenF_bd 9 vl
  rw [← uvbF_len] at hul
  have HF : Hid (Fo w.heap.size 5 .u8 w (.slice ao m m) zs) := Fo.full ha
  clear ha
  go_enter Try.func41, Try.ntmps41
  go_wp2_with (at_builtin; refine wpList_append_fo _ rfl (.tmp 12) (.tmp 13) 22 rfl w.heap.size 5 i0 .u8 1 Try.underlying22 hi hz0 hz1 hz2 _ zs rfl ?hfo ?hB ⟨w.heap.size, 0, none⟩ 1 1 [1] rfl rfl ?hc (by decide) ?b1 (by decide) ?_)
  case hfo => exact HF.out.below ((Below.refl _ _).alloc (Nat.le_refl _) _) (Nat.le_refl _)
  case hB => first | omega | simp
  case hc =>
    intro j hj
    obtain rfl : j = 0 := by omega
    simp [go_sem, Addr.add]
  case b1 => first | omega | (simp; omega)
  intro v1 w1 ho hb1 _
  have ho1 : w1.ownsRow w.heap.size 5 1 v1 (zs ++ [(1 : Int)]).length ((zs ++ [(1 : Int)]).map (Value.int .u8)) := by simpa using ho
  have hbw1 : Below w.heap.size w w1 := ((Below.refl _ _).alloc (Nat.le_refl _) _).trans hb1
  have HO1 : Hid (w1.ownsRow w.heap.size 5 1 v1 (zs ++ [(1 : Int)]).length ((zs ++ [(1 : Int)]).map (Value.int .u8))) := ho1
  clear ho ho1 hb1
  go_wp2_with fail
  refine (appendUvarint_any w.heap.size v1 (zs ++ [1]) vl w1 (.inr HO1.out) hbw1.size (by omega) (by rw [List.length_append]; simp; omega)).mono ?_
  rintro e w2 ⟨v2, rfl, ho2, hb2⟩
  have hbw2 : Below w.heap.size w w2 := hbw1.trans hb2
  obtain ⟨zz, HZZ⟩ : ∃ zz : List Int, Hid (zz = zs ++ [(1 : Int)] ++ uvbF 9 vl) := ⟨zs ++ [(1 : Int)] ++ uvbF 9 vl, by show _ = _; rfl⟩
  rw [← HZZ.out] at ho2
  have hzl : zz.length ≤ 1048600 := by rw [HZZ.out, List.length_append, List.length_append]; simp; omega
  have HZF : Hid (zs ++ (1 :: (uvbF 9 vl ++ vs)) = zz ++ vs) := by show _ = _; rw [HZZ.out]; simp
  have HO2 : Hid (w2.ownsRow w.heap.size 5 1 v2 zz.length (zz.map (Value.int .u8))) := ho2
  have hzp : 0 < zz.length := by rw [HZZ.out, List.length_append, List.length_append]; simp; omega
  have hvw2 := hv.below hbw2
  have hsz2 := hbw2.size
  clear ho2 hb2 hbw1 hul hv
  obtain ⟨hlv2, ⟨rfl, rfl, rfl⟩ | ⟨bv, ov, rfl, hbv, hvc, hvcell⟩⟩ := hvw2
  · have hvs : vs = [] := List.eq_nil_of_length_eq_zero HLV.out
    subst hvs
    obtain ⟨g, cap, hv2⟩ := own_pos HO2.out hzp
    obtain ⟨L, HL⟩ : ∃ L, Hid (L = zz.length) := ⟨_, rfl⟩
    rw [← HL.out] at hv2 HO2
    subst hv2
    have HS : Hid (Sl w2.heap.size .u8 w2 (some ⟨g, 0, none⟩) L cap zz) := own_Sl HO2.out
    go_wp2_with (at_builtin; refine wpList_append_own_none rfl (.tmp 20) (.tmp 21) 22 rfl w.heap.size 5 i0 1 Try.underlying22 hi _ _ _ rfl HO2.out rfl ?_)
    go_ret
    rw [HZF.out, List.append_nil]
    exact ⟨g, cap, L, rfl, HL, HS.out, hbw2⟩
  · have HVC : Hid (∀ i, i < vl → w2.cell? ⟨bv, ov + i, none⟩ = some (.int .u8 (vs.getD i 0))) := hvcell
    clear hvcell hlv2
    go_wp2_with (at_builtin; refine wpList_append_ow _ rfl (.tmp 20) (.tmp 21) 22 rfl w.heap.size 5 i0 .u8 1 Try.underlying22 hi hz0 hz1 hz2 v2 zz rfl HO2.out hsz2 ⟨bv, ov, none⟩ vl vc vs rfl HLV.out ?hc3 ?b13 (by decide) ?_)
    case hc3 =>
      intro j hj
      rw [WideShapes.add_plain]
      exact HVC.out j hj
    case b13 => omega
    intro v3 w3 ho3 hb3
    have ho4 : w3.ownsRow w.heap.size 5 1 v3 (zz ++ vs).length ((zz ++ vs).map (Value.int .u8)) := by simpa using ho3
    obtain ⟨g, cap, hv3⟩ := own_pos ho4 (by rw [List.length_append]; omega)
    obtain ⟨L, HL⟩ : ∃ L, Hid (L = (zz ++ vs).length) := ⟨_, rfl⟩
    rw [← HL.out] at hv3 ho4
    subst hv3
    have HS : Hid (Sl w3.heap.size .u8 w3 (some ⟨g, 0, none⟩) L cap (zz ++ vs)) := own_Sl ho4
    clear ho3 ho4 hi hz0 hz1 hz2
    go_wp2
    go_ret
    rw [HZF.out]
    exact ⟨g, cap, L, rfl, HL, HS.out, hbw2.trans hb3⟩

theorem appendValue_any (ao vo : Option Addr) (m vl vc : Nat) (b : Bool) (zs vs : List Int) (w : World) (ha : Sl w.heap.size .u8 w ao m m zs) (hv : Sl w.heap.size .u8 w vo vl vc vs) (hm : m ≤ 1048576) (hvl : vl ≤ 1048576) :
    Calls Try.prog 41 #[.slice ao m m, .bool b, .slice vo vl vc] w fun e w' =>
      ∃ g cap L, e = .returned (.slice (some ⟨g, 0, none⟩) L cap) ∧ Hid (L = (zs ++ valB b vs).length) ∧ Sl w'.heap.size .u8 w' (some ⟨g, 0, none⟩) L cap (zs ++ valB b vs) ∧ Below w.heap.size w w' := by
  cases b with
  | false => exact appendValue_no ao vo m vl vc zs w ha hm
  | true =>
    have h := appendValue_yes ao vo m vl vc zs vs w ha hv hm hvl
    rw [show vl = vs.length from hv.1.symm] at h ⊢
    exact h

set_option maxHeartbeats 1000000 in
theorem zzAppendValue_any (ao vo : Option Addr) (m vl vc : Nat) (b : Bool) (zs vs : List Int) (w : World) (ha : Sl w.heap.size .u8 w ao m m zs) (hv : Sl w.heap.size .u8 w vo vl vc vs) (hm : m ≤ 1048576) (hvl : vl ≤ 1048576) :
    Calls Try.prog 28 #[.slice ao m m, .bool b, .slice vo vl vc] w fun e w' =>
      ∃ g cap L, e = .returned (.slice (some ⟨g, 0, none⟩) L cap) ∧ Hid (L = (zs ++ valB b vs).length) ∧ Sl w'.heap.size .u8 w' (some ⟨g, 0, none⟩) L cap (zs ++ valB b vs) ∧ Below w.heap.size w w' := by
  go_enter Try.func28, Try.ntmps28
  go_wp2_with fail
  refine (appendValue_any ao vo m vl vc b zs vs w ha hv hm hvl).mono ?_
  rintro e w1 ⟨g, cap, L, rfl, HL, hs, hb⟩
  have HS : Hid (Sl w1.heap.size .u8 w1 (some ⟨g, 0, none⟩) L cap (zs ++ valB b vs)) := hs
  clear hs ha hv
  go_wp2
  go_ret
  exact ⟨g, cap, L, rfl, HL, HS.out, hb⟩

/-- The size of a value field. -/
def valS (b : Bool) (n : Int) : Int := if b then 1 + ulen n + n else 1

set_option maxHeartbeats 1000000 in
theorem valueSize_any (b : Bool) (n : Int) (w : World) (h0 : 0 ≤ n) (h1 : n ≤ 1073741824) :
    Calls Try.prog 42 #[.bool b, .int .i64 n] w fun e w' => e = .returned (.int .i64 (valS b n)) ∧ Below w.heap.size w w' := by
  cases b with
  | false =>
    go_enter Try.func42, Try.ntmps42
    go_wp2
    go_ret
    exact ⟨rfl, Below.refl _ _⟩
  | true =>
    have hu := ulen_bd n
    go_enter Try.func42, Try.ntmps42
    go_wp2_with fail
    refine (ulen_any n w h0 (by omega)).mono ?_
    rintro e w1 ⟨rfl, hb1⟩
    go_wp2
    go_ret
    exact ⟨rfl, hb1⟩

set_option maxHeartbeats 1000000 in
theorem zzValueSize_any (b : Bool) (n : Int) (w : World) (h0 : 0 ≤ n) (h1 : n ≤ 1073741824) :
    Calls Try.prog 29 #[.bool b, .int .i64 n] w fun e w' => e = .returned (.int .i64 (valS b n)) ∧ Below w.heap.size w w' := by
  go_enter Try.func29, Try.ntmps29
  go_wp2_with fail
  refine (valueSize_any b n w h0 h1).mono ?_
  rintro e w1 ⟨rfl, hb1⟩
  go_wp2
  go_ret
  exact ⟨rfl, hb1⟩

theorem valB_len (b : Bool) (vs : List Int) : ((valB b vs).length : Int) = valS b vs.length := by
  unfold valB valS
  cases b
  · rfl
  · simp only [if_true, List.length_cons, List.length_append, uvbF_len, ulen, Int.toNat_natCast]
    omega

set_option maxHeartbeats 400000 in
theorem zz27_ok (a0 a2 : Option Addr) (n c m d : Nat) (b : Bool) (w : World) (h : n + m ≤ 1048576) :
    Calls Try.prog 27 #[.slice a0 n c, .bool b, .slice a2 m d] w fun e w' => e = .returned (.bool true) ∧ w = w' := by
  go_enter Try.func27, Try.ntmps27
  go_wp2
  go_ret
  exact ⟨rfl, rfl⟩

set_option maxHeartbeats 400000 in
theorem zz27_no (a0 a2 : Option Addr) (n c m d : Nat) (b : Bool) (w : World) (hn : n ≤ 9223372036854775807) (hm : m ≤ 9223372036854775807) (h : ¬ n + m ≤ 1048576) :
    Calls Try.prog 27 #[.slice a0 n c, .bool b, .slice a2 m d] w fun e w' => e = .returned (.bool false) ∧ w = w' := by
  go_enter Try.func27, Try.ntmps27
  go_wp2
  all_goals (go_ret; exact ⟨rfl, rfl⟩)
end Go.Proofs.Qxb6003418a
