/-
  ZZNewCycleReader.
-/
import Derived.Test.Qxb6602686aNcr
import Derived.Handy
namespace Go.Proofs.Qxb6602686a
open Go.RowKit
set_option linter.unusedVariables false

/-- A row that the call owns, as a slice in memory. -/
theorem own_any {H : Nat} {w : World} {e : TypeId} {v : Value} {n : Nat} {zs : List Int} {k : IntKind} (h : w.ownsRow H e 1 v n (zs.map (Value.int k))) :
    ∃ ao c, v = .slice ao n c ∧ Sl w.heap.size k w ao n c zs ∧ ∀ a, ao = some a → H ≤ a.block := by
  rcases h.2 with ⟨h1, h2⟩ | ⟨g, cap, cur, h1, h2, _⟩
  · subst h2
    have hz : zs = [] := List.eq_nil_of_length_eq_zero (by simpa using h.1)
    subst hz
    exact ⟨none, 0, h1, ⟨rfl, .inl ⟨rfl, rfl, rfl⟩⟩, fun a ha => by cases ha⟩
  · subst h1
    exact ⟨_, _, rfl, own_Sl h, fun a ha => by cases ha; exact h2⟩

/-- One more number appended to a row that the call owns. -/
theorem own_snoc {H : Nat} {w : World} {e : TypeId} {v : Value} {q : Nat} {zs : List Int} {k : IntKind} (hq : q < zs.length) (h : w.ownsRow H e 1 v (q + 1) ((zs.take q).map (Value.int k) ++ [.int k (zs.getD q 0)])) :
    w.ownsRow H e 1 v (q + 1) ((zs.take (q + 1)).map (Value.int k)) := by
  rw [take_succ_getD zs q hq, List.map_append]
  exact h

/-- After k rounds: the map of the graph, its rows in memory. -/
def GMap (M : Nat) (w : World) (ks : List Int) (L : Nat → Nat) (Z : Nat → List Int) (k : Nat) : Prop :=
  ∃ (A' : Nat → Option Addr) (C' : Nat → Nat), MapF w M k (fun y => (lastK ks y k).map (fun i => .slice (A' i) (L i) (C' i))) ∧ ∀ i, i < k → SlN (· = M) w.heap.size .u64 w (A' i) (L i) (C' i) (Z i)

theorem GMap.below {M : Nat} {w w' : World} {ks : List Int} {L : Nat → Nat} {Z : Nat → List Int} {k : Nat} (h : GMap M w ks L Z k) (hb : Below w.heap.size w w') : GMap M w' ks L Z k := by
  obtain ⟨A', C', h1, h2⟩ := h
  exact ⟨A', C', h1.same (hb.block _ h1.lt), fun i hi => ((h2 i hi).keep (Keep.ofBelow hb) (Nat.le_refl _)).mono hb.size⟩

/-- The k-th list put into the map. -/
theorem GMap.put {M : Nat} {w : World} {ks : List Int} {L : Nat → Nat} {Z : Nat → List Int} {k : Nat} (h : GMap M w ks L Z k) (hk : k < 131072) (hu : 0 ≤ ks.getD k 0 ∧ ks.getD k 0 ≤ 18446744073709551615) (ao : Option Addr) (c : Nat) (hs : SlN (· = M) w.heap.size .u64 w ao (L k) c (Z k)) :
    ∃ w', (Instr.mapUpdate 46 (.map (some M)) (.int .u64 (ks.getD k 0)) (.slice ao (L k) c)).run Try.prog w = .ok () w' ∧ GMap M w' ks L Z (k + 1) ∧ w.grownBy w' (some M) := by
  obtain ⟨A', C', h1, h2⟩ := h
  obtain ⟨w', r1, r2, r3⟩ := h1.update 46 47 Try.underlying46 (by unfold maxLen; omega) (ks.getD k 0) hu.1 hu.2 (.slice ao (L k) c)
  refine ⟨w', r1, ⟨fun i => if i = k then ao else A' i, fun i => if i = k then c else C' i, ?_, ?_⟩, r3⟩
  · have e : (fun y => (lastK ks y (k + 1)).map (fun i => Value.slice (if i = k then ao else A' i) (L i) (if i = k then c else C' i))) = (fun y => if y = ks.getD k 0 then some (.slice ao (L k) c) else (lastK ks y k).map (fun i => Value.slice (A' i) (L i) (C' i))) := by
      funext y
      show Option.map _ (if ks.getD k 0 = y then some k else lastK ks y k) = _
      by_cases e : y = ks.getD k 0
      · rw [if_pos e, if_pos e.symm]; simp
      · rw [if_neg e, if_neg (fun h => e h.symm)]
        cases hl : lastK ks y k with
        | none => rfl
        | some i =>
          have := lastK_lt _ _ _ _ hl
          simp [show ¬ i = k by omega]
    rw [e]
    exact r2
  · have hkp : Keep (· = M) w.heap.size w w' := (Keep.refl _ _ _).grown r3 (Nat.le_refl _) (fun j e => .inr (by injection e with e; exact e.symm))
    intro i hi
    by_cases e : i = k
    · subst e
      simp only [if_true]
      exact (hs.keep hkp (Nat.le_refl _)).mono hkp.size
    · simp only [if_neg e]
      exact ((h2 i (by omega)).keep hkp (Nat.le_refl _)).mono hkp.size

/-- The zero value of the result, in cells. -/
def zD : Array Value := #[.slice none 0 0, .slice none 0 0, .slice none 0 0, .int .i64 0, .slice none 0 0, .slice none 0 0, .slice none 0 0, .bool false, .slice none 0 0, .slice none 0 0, .slice none 0 0, .slice none 0 0]

theorem GMap.made {w : World} {M : Nat} {ks : List Int} {L : Nat → Nat} {Z : Nat → List Int} (h : M = w.heap.size) : GMap M (w.alloc (.map #[] 0)) ks L Z 0 := by
  subst h
  exact ⟨fun _ => none, fun _ => 0, MapF.made w, fun i hi => absurd hi (by omega)⟩

theorem keep12 (w : World) (D : Nat) (v0 v1 v2 v3 v4 v5 v6 v7 v8 v9 v10 v11 : Value) : Keep (· = D) w.heap.size w ((((((((((((w.setCell ⟨D, 0, none⟩ v0).setCell ⟨D, 1, none⟩ v1).setCell ⟨D, 2, none⟩ v2).setCell ⟨D, 3, none⟩ v3).setCell ⟨D, 4, none⟩ v4).setCell ⟨D, 5, none⟩ v5).setCell ⟨D, 6, none⟩ v6).setCell ⟨D, 7, none⟩ v7).setCell ⟨D, 8, none⟩ v8).setCell ⟨D, 9, none⟩ v9).setCell ⟨D, 10, none⟩ v10).setCell ⟨D, 11, none⟩ v11).drew :=
  (Keep.setCell (q := ⟨D, 11, none⟩) (Keep.setCell (q := ⟨D, 10, none⟩) (Keep.setCell (q := ⟨D, 9, none⟩) (Keep.setCell (q := ⟨D, 8, none⟩) (Keep.setCell (q := ⟨D, 7, none⟩) (Keep.setCell (q := ⟨D, 6, none⟩) (Keep.setCell (q := ⟨D, 5, none⟩) (Keep.setCell (q := ⟨D, 4, none⟩) (Keep.setCell (q := ⟨D, 3, none⟩) (Keep.setCell (q := ⟨D, 2, none⟩) (Keep.setCell (q := ⟨D, 1, none⟩) (Keep.setCell (q := ⟨D, 0, none⟩) (Keep.refl (· = D) w.heap.size w) (.inr rfl) v0) (.inr rfl) v1) (.inr rfl) v2) (.inr rfl) v3) (.inr rfl) v4) (.inr rfl) v5) (.inr rfl) v6) (.inr rfl) v7) (.inr rfl) v8) (.inr rfl) v9) (.inr rfl) v10) (.inr rfl) v11).drew

/-- The twelve fields. -/
def fld (v0 v1 v2 v3 v4 v5 v6 v7 v8 v9 v10 v11 : Value) : Nat → Value
  | 0 => v0
  | 1 => v1
  | 2 => v2
  | 3 => v3
  | 4 => v4
  | 5 => v5
  | 6 => v6
  | 7 => v7
  | 8 => v8
  | 9 => v9
  | 10 => v10
  | _ => v11

theorem row12 (w : World) (D : Nat) (v0 v1 v2 v3 v4 v5 v6 v7 v8 v9 v10 v11 : Value) (g : Nat → Value) (h : w.rowIs D 34 12 g) : ((((((((((((w.setCell ⟨D, 0, none⟩ v0).setCell ⟨D, 1, none⟩ v1).setCell ⟨D, 2, none⟩ v2).setCell ⟨D, 3, none⟩ v3).setCell ⟨D, 4, none⟩ v4).setCell ⟨D, 5, none⟩ v5).setCell ⟨D, 6, none⟩ v6).setCell ⟨D, 7, none⟩ v7).setCell ⟨D, 8, none⟩ v8).setCell ⟨D, 9, none⟩ v9).setCell ⟨D, 10, none⟩ v10).setCell ⟨D, 11, none⟩ v11).drew.rowIs D 34 12 (fld v0 v1 v2 v3 v4 v5 v6 v7 v8 v9 v10 v11) :=
  (((((((((((((h.set 0 v0).set 1 v1).set 2 v2).set 3 v3).set 4 v4).set 5 v5).set 6 v6).set 7 v7).set 8 v8).set 9 v9).set 10 v10).set 11 v11).drew).congr (fun j hj => by
    match j, hj with
    | 0, _ => rfl
    | 1, _ => rfl
    | 2, _ => rfl
    | 3, _ => rfl
    | 4, _ => rfl
    | 5, _ => rfl
    | 6, _ => rfl
    | 7, _ => rfl
    | 8, _ => rfl
    | 9, _ => rfl
    | 10, _ => rfl
    | 11, _ => rfl
    | j + 12, h => exact absurd h (by omega))

/-- What is handed back. -/
def aggOf (n : Nat) (B : Nat → Nat) (io : Option Addr) (ic : Nat) : Value :=
  .agg #[.slice io n ic, rdF n B n 1, rdF n B n 2, rdF n B n 3, rdF n B n 4, rdF n B n 5, rdF n B n 6, rdF n B n 7, rdF n B n 8, rdF n B n 9, rdF n B n 10, rdF n B n 11]

set_option maxHeartbeats 2000000 in
set_option maxRecDepth 100000 in
theorem zz_any (ko to mo : Option Addr) (m kc tc n mc : Nat) (ks ms : List Int) (A : Nat → Option Addr) (L C : Nat → Nat) (Z : Nat → List Int) (f : Nat) (first : Int) (w : World)
    (hks : Sl w.heap.size .u64 w ko m kc ks) (hku : U64s ks) (hts : Sls w.heap.size w to m tc A L C Z) (hL : ∀ r, r < m → L r ≤ 131072 ∧ U64s (Z r)) (hm : m ≤ 131072)
    (hms : Sl w.heap.size .u64 w mo n mc ms) (hu : U64s ms) (ha : Asc ms) (hf : f < n) (hfirst : ms.getD f 0 = first) (hn : n ≤ 131072) :
    Calls Try.prog 12 #[.slice ko m kc, .slice to m tc, .int .u64 first, .slice mo n mc] w fun e w' => (∃ (H R : Nat) (B : Nat → Nat) (nx : Nat → Value) (io : Option Addr) (ic : Nat), Hid (e = .returned (aggOf n B io ic) ∧ St H w' R n B n (idsOf first ms) nx (arcsF (nextF (fun x => lastK ks x m) Z first ms n) n) ∧ NextOk H w' nx (nextF (fun x => lastK ks x m) Z first ms n) n ∧ Sl w'.heap.size .u64 w' io n ic (idsOf first ms))) ∧ Below w.heap.size w w' := by
  have HKS : Hid (Sl w.heap.size .u64 w ko m kc ks) := hks
  have HKU : Hid (U64s ks) := hku
  have HTS : Hid (Sls w.heap.size w to m tc A L C Z) := hts
  have HL : Hid (∀ r, r < m → L r ≤ 131072 ∧ U64s (Z r)) := hL
  have HMS : Hid (Sl w.heap.size .u64 w mo n mc ms) := hms
  have HU : Hid (U64s ms) := hu
  have HA : Hid (Asc ms) := ha
  have HF : Hid (ms.getD f 0 = first) := hfirst
  clear hks hku hts hL hms hu ha hfirst
  obtain ⟨i0, hi, hz0, hz1, hz2⟩ := info_parts info48
  have hmm := run_mm 46 48 47 Try.underlying46 m
  go_enter Try.func12, Try.ntmps12
  go_wp2_with fail
  clear hmm
  go_loopw [10] (fun i wr => ∃ k : Nat, k ≤ m ∧ i = .int .i64 k ∧ Hid (GMap (w.heap.size + 1) wr ks L Z k) ∧ Hid (wr.heap[w.heap.size]? = some (.cells zD 34)) ∧ Below w.heap.size w wr) (fun i _ => m - (intOf i).toNat)
  case atStart =>
    refine ⟨0, Nat.zero_le _, rfl, GMap.made (by rw [size_al]), ?_, ((Below.refl _ _).alloc (Nat.le_refl _) _).alloc (by rw [size_al]; omega) _⟩
    show _ = _
    rw [Below.heap_alloc _ _ _ (by rw [size_al]; omega), last_al]
    rfl
  case round =>
    obtain ⟨k, hk, rfl, HG, HD, hbel⟩ := hrel
    rename World => wo
    by_cases hlt : k < m
    · have hkx : Hid (∃ b o, ko = some ⟨b, o, none⟩ ∧ b < w.heap.size ∧ wo.cell? ⟨b, o + k, none⟩ = some (.int .u64 (ks.getD k 0))) := by
        obtain ⟨_, ⟨_, h0, _⟩ | ⟨b, o, e, hb, _, hcell⟩⟩ := HKS.out
        · omega
        · exact ⟨b, o, e, hb, (hbel.cell (p := ⟨b, o + k, none⟩) hb).trans (hcell k hlt)⟩
      have htx : Hid (∃ b o, to = some ⟨b, o, none⟩ ∧ wo.cell? ⟨b, o + k, none⟩ = some (.slice (A k) (L k) (C k)) ∧ Sl w.heap.size .u64 wo (A k) (L k) (C k) (Z k)) := by
        obtain ⟨_, h0, _⟩ | ⟨b, o, e, hb, _, hcell⟩ := HTS.out
        · omega
        · exact ⟨b, o, e, (hbel.cell (p := ⟨b, o + k, none⟩) hb).trans (hcell k hlt).1, (hcell k hlt).2.below hbel⟩
      obtain ⟨kb, kof, rfl, hkb, hkc⟩ := hkx.out
      obtain ⟨tb, tof, rfl, htc, hzs⟩ := htx.out
      have HZ : Hid (Sl w.heap.size .u64 wo (A k) (L k) (C k) (Z k)) := hzs
      obtain ⟨hLk, hZu⟩ := HL.out k hlt
      have HZU : Hid (U64s (Z k)) := hZu
      have hxu := HKU.out k
      have HX : Hid (wo.cell? ⟨kb, kof + k, none⟩ = some (.int .u64 (ks.getD k 0))) := hkc
      clear hkx htx hzs hZu hkc
      obtain ⟨l, HLK⟩ : ∃ l, Hid (L k = l) := ⟨_, rfl⟩
      obtain ⟨ak, HAK⟩ : ∃ l, Hid (A k = l) := ⟨_, rfl⟩
      obtain ⟨ck, HCK⟩ : ∃ l, Hid (C k = l) := ⟨_, rfl⟩
      rw [HLK.out, HAK.out, HCK.out] at HZ htc
      rw [HLK.out] at hLk
      generalize hzs : Z k = zs at *
      have HZS : Hid (Z k = zs) := hzs
      clear hzs
      go_wp2_with fail
      clear htc
      go_loopw [11, 40] (fun v i wr => ∃ q : Nat, q ≤ l ∧ i = .int .i64 q ∧ Hid (wr.ownsRow wo.heap.size 48 1 v q ((zs.take q).map (Value.int .u64))) ∧ Below wo.heap.size wo wr) (fun _ i _ => l - (intOf i).toNat)
      case atStart => exact ⟨0, Nat.zero_le _, rfl, ⟨rfl, .inl ⟨rfl, rfl⟩⟩, Below.refl _ _⟩
      case round =>
        obtain ⟨q, hq, rfl, HO, hb2⟩ := hrel
        by_cases hql : q < l
        · obtain ⟨hzl, ⟨_, h0, _⟩ | ⟨b, o, rfl, hb, hc, hcell⟩⟩ := HZ.out
          · omega
          have hx := (hb2.cell (p := ⟨b, o + q, none⟩) (Nat.lt_of_lt_of_le hb hbel.size)).trans (hcell q hql)
          have hyu := HZU.out q
          have hzl' : q < zs.length := by omega
          clear hcell hzl
          obtain ⟨x, HXQ⟩ : ∃ x, Hid (zs.getD q 0 = x) := ⟨_, rfl⟩
          rw [HXQ.out] at hx hyu
          go_wp2_with (at_builtin; refine wpList_append_lies _ rfl (.tmp 44) (.tmp 46) 47 rfl wo.heap.size 48 i0 (.int .u64 0) 1 8 Try.underlying47 hi hz0 hz1 hz2 rfl (by omega) u11 q ((zs.take q).map (Value.int .u64)) rfl ?ho ⟨wr.heap.size, 0, none⟩ 1 1 [.int .u64 x] rfl rfl ?hc (one1 _ _) (by omega) ?b1 ?b2 ?hB _ rfl ?_)
          case ho => exact HO.out.alloc _
          case hc => exact cell_one_new _ _ _
          case b1 => unfold maxLen; omega
          case b2 => omega
          case hB => have := hb2.size; rw [size_al]; omega
          intro gg gcap w1 hown1 hgrow1 hat hlt1
          have HO1 : Hid (w1.ownsRow wo.heap.size 48 1 (.slice (some ⟨gg, 0, none⟩) (q + 1) gcap) (q + 1) ((zs.take (q + 1)).map (Value.int .u64))) := own_snoc hzl' (by rw [HXQ.out, List.map_take]; exact hown1)
          have hb3 : Below wo.heap.size wo w1 := (hb2.alloc hb2.size _).grown hgrow1 (by have := hb2.size; rw [size_al]; omega) (fun j e => (HO.out.lt j e).1)
          clear hown1 hgrow1 hat hlt1 hx HO
          go_wp2
          go_roundw
          case rel => exact ⟨q + 1, by omega, by go_num, HO1, hb3⟩
          case measure => simp [intOf]; omega
        obtain rfl : l = q := by omega
        clear hql
        have hzl := HZ.out.1
        obtain ⟨ao, c, hv, hsl, hnew⟩ := own_any HO.out
        rw [List.take_of_length_le (by omega)] at hsl
        have hMo : w.heap.size + 1 < wo.heap.size := by obtain ⟨_, _, h1, _⟩ := HG.out; exact h1.lt
        have hg2 := HG.out.below hb2
        obtain ⟨w2, hup, hg3, hgr⟩ := hg2.put (by omega) hxu ao c ⟨by rw [HLK.out, HZS.out]; exact hsl, fun a ha hb => by have := hnew a ha; omega⟩
        rw [HLK.out] at hup
        have HG3 : Hid (GMap (w.heap.size + 1) w2 ks L Z (k + 1)) := hg3
        have HD3 : Hid (w2.heap[w.heap.size]? = some (.cells zD 34)) := by
          show _ = _
          rw [hgr.block _ (by have := hb2.size; omega) (fun e => by injection e with e; omega), hb2.block _ (by omega)]
          exact HD.out
        have hb3 : Below w.heap.size w w2 := (hbel.trans (hb2.mono hbel.size)).grown hgr (by have := hb2.size; have := hbel.size; omega) (fun j e => by injection e with e; omega)
        have hkc : wr.cell? ⟨kb, kof + k, none⟩ = some (.int .u64 (ks.getD k 0)) := (hb2.cell (p := ⟨kb, kof + k, none⟩) (by have := hbel.size; show kb < _; omega)).trans HX.out
        clear hg2 hg3 hgr hsl hnew HG HD HX HO hxu
        subst hv
        generalize ks.getD k 0 = x at *
        go_wp2
        go_roundw
        case rel => exact ⟨k + 1, by omega, by go_num, HG3, HD3, hb3⟩
        case measure => simp [intOf]; omega
    obtain rfl : m = k := by omega
    clear hlt
    go_wp2_with fail
    go_loopw [14, 57] (fun v i wr => ∃ q : Nat, q ≤ n ∧ i = .int .i64 q ∧ Hid (wr.ownsRow wo.heap.size 48 1 v q ((ms.take q).map (Value.int .u64))) ∧ Below wo.heap.size wo wr) (fun _ i _ => n - (intOf i).toNat)
    case atStart => exact ⟨0, Nat.zero_le _, rfl, ⟨rfl, .inl ⟨rfl, rfl⟩⟩, Below.refl _ _⟩
    case round =>
      obtain ⟨q, hq, rfl, HO, hb2⟩ := hrel
      by_cases hql : q < n
      · obtain ⟨hzl, ⟨_, h0, _⟩ | ⟨b, o, rfl, hb, hc, hcell⟩⟩ := HMS.out
        · omega
        have hx := ((hbel.trans (hb2.mono hbel.size)).cell (p := ⟨b, o + q, none⟩) hb).trans (hcell q hql)
        have hyu := HU.out q
        have hzl' : q < ms.length := by omega
        clear hcell hzl
        obtain ⟨x, HXQ⟩ : ∃ x, Hid (ms.getD q 0 = x) := ⟨_, rfl⟩
        rw [HXQ.out] at hx hyu
        go_wp2_with (at_builtin; refine wpList_append_lies _ rfl (.tmp 61) (.tmp 63) 47 rfl wo.heap.size 48 i0 (.int .u64 0) 1 8 Try.underlying47 hi hz0 hz1 hz2 rfl (by omega) u14 q ((ms.take q).map (Value.int .u64)) rfl ?ho ⟨wr.heap.size, 0, none⟩ 1 1 [.int .u64 x] rfl rfl ?hc (one1 _ _) (by omega) ?b1 ?b2 ?hB _ rfl ?_)
        case ho => exact HO.out.alloc _
        case hc => exact cell_one_new _ _ _
        case b1 => unfold maxLen; omega
        case b2 => omega
        case hB => have := hb2.size; rw [size_al]; omega
        intro gg gcap w1 hown1 hgrow1 hat hlt1
        have HO1 : Hid (w1.ownsRow wo.heap.size 48 1 (.slice (some ⟨gg, 0, none⟩) (q + 1) gcap) (q + 1) ((ms.take (q + 1)).map (Value.int .u64))) := own_snoc hzl' (by rw [HXQ.out, List.map_take]; exact hown1)
        have hb3 : Below wo.heap.size wo w1 := (hb2.alloc hb2.size _).grown hgrow1 (by have := hb2.size; rw [size_al]; omega) (fun j e => (HO.out.lt j e).1)
        clear hown1 hgrow1 hat hlt1 hx HO
        go_wp2
        go_roundw
        case rel => exact ⟨q + 1, by omega, by go_num, HO1, hb3⟩
        case measure => simp [intOf]; omega
      obtain rfl : n = q := by omega
      clear hql
      have hzl := HMS.out.1
      obtain ⟨ao, c, hv, hsl, hnew⟩ := own_any HO.out
      rw [List.take_of_length_le (by omega)] at hsl
      have HSL : Hid (Sl wr.heap.size .u64 wr ao n c ms) := hsl
      have hg2 : Hid (GMap (w.heap.size + 1) wr ks L Z m) := HG.out.below hb2
      have hMo : w.heap.size + 1 < wo.heap.size := by obtain ⟨_, _, h1, _⟩ := HG.out; exact h1.lt
      have HD3 : Hid (wr.heap[w.heap.size]? = some (.cells zD 34)) := by
        show _ = _
        rw [hb2.block _ (by omega)]
        exact HD.out
      have hb3 : Below w.heap.size w wr := hbel.trans (hb2.mono hbel.size)
      have hMr : w.heap.size + 1 < wr.heap.size := by have := hb2.size; omega
      clear hsl hnew HG HD HO hb2 hbel
      subst hv
      go_wp2_with fail
      obtain ⟨A', C', hmf, hrw⟩ := hg2.out
      have hcall := ncr_any wr.heap.size (w.heap.size + 1) m (fun x => lastK ks x m) A' L C' Z ao n c ms f first (wr.alloc (.cells #[.map none, .map (some (w.heap.size + 1)), .int .i64 0] 52))
        ⟨by rw [size_al]; omega, by rw [cell_of_row _ _ _ _ _ _ (last_al _ _)]; rfl, hmf.same (Below.heap_alloc _ _ _ hMr), fun x i hx => ⟨((hrw i (lastK_lt _ _ _ _ hx)).1.alloc (Nat.le_refl _) _).mono (by rw [size_al]; omega), HL.out i (lastK_lt _ _ _ _ hx)⟩⟩
        ((HSL.out.alloc (Nat.le_refl _) _).mono (by rw [size_al]; omega)) HU.out HA.out hf HF.out hn
      refine hcall.mono ?_
      clear hcall hmf hrw hg2 HSL
      rintro e w5 ⟨⟨R, B, nx, H5⟩, hb5⟩
      obtain ⟨rfl, hst, hnx⟩ := H5.out
      rw [size_al] at hst hb5 hnx
      have HST : Hid (St (wr.heap.size + 1) w5 R n B n (idsOf first ms) nx (arcsF (nextF (fun x => lastK ks x m) Z first ms n) n)) := hst
      have HNX : Hid (NextOk (wr.heap.size + 1) w5 nx (nextF (fun x => lastK ks x m) Z first ms n) n) := hnx
      have hb6 : Below wr.heap.size wr w5 := ((Below.refl _ _).alloc (Nat.le_refl _) _).trans (hb5.mono (by omega))
      have HD5 : Hid (w5.heap[w.heap.size]? = some (.cells zD 34)) := by
        show _ = _
        rw [hb6.block _ (by omega)]
        exact HD3.out
      have hb7 : Below w.heap.size w w5 := hb3.trans (hb6.mono hb3.size)
      have hRD : w.heap.size + 1 < R := by have := hst.hr; omega
      clear hst hnx H5 hb5 HD3 hb3 hb6
      have HIL : Hid ((idsOf first ms).length = n) := by
        show _ = _
        rw [← HF.out, ids_len ms HA.out f (by omega)]; exact hzl
      have HIU : Hid (U64s (idsOf first ms)) := ids_u64 first ms HU.out (by rw [← HF.out]; exact HU.out f)
      obtain ⟨ids, HIDS⟩ : ∃ ids, Hid (idsOf first ms = ids) := ⟨_, rfl⟩
      rw [HIDS.out] at HST HIL HIU
      clear HKS HKU HTS HL HMS HU HA HF hzl
      have c0 : w5.cell? ⟨R, 0, none⟩ = some (.slice (some ⟨B 0, 0, none⟩) n n) := HST.out.rd.cell (i := 0) (by omega)
      go_wp2_with fail
      clear c0
      obtain ⟨j0, hj0, hj0z, hj1, hj2⟩ := info_parts info24
      go_loopw [19, 78] (fun v i wr => ∃ q : Nat, q ≤ n ∧ i = .int .i64 q ∧ Hid (wr.ownsRow w5.heap.size 24 1 v q ((ids.take q).map (Value.int .u64))) ∧ Below w5.heap.size w5 wr) (fun _ i _ => n - (intOf i).toNat)
      case atStart => exact ⟨0, Nat.zero_le _, rfl, ⟨rfl, .inl ⟨rfl, rfl⟩⟩, Below.refl _ _⟩
      case round =>
        rename World => wz
        obtain ⟨q, hq, rfl, HO, hb2⟩ := hrel
        by_cases hql : q < n
        · have hx : wz.cell? ⟨B 0, q, none⟩ = some (.int .u64 (ids.getD q 0)) := by
            rw [hb2.cell (p := ⟨B 0, q, none⟩) (HST.out.lt.2 0 (by omega)), HST.out.ids.cellAt q (by omega)]
            have := HIL.out
            simp [List.getD, show q < ids.length by omega]
          have hyu := HIU.out q
          have hzl' : q < ids.length := by have := HIL.out; omega
          obtain ⟨x, HXQ⟩ : ∃ x, Hid (ids.getD q 0 = x) := ⟨_, rfl⟩
          rw [HXQ.out] at hx hyu
          go_wp2_with (at_builtin; refine wpList_append_lies _ rfl (.tmp 82) (.tmp 84) 22 rfl w5.heap.size 24 j0 (.int .u64 0) 1 8 Try.underlying22 hj0 hj0z hj1 hj2 rfl (by omega) u19 q ((ids.take q).map (Value.int .u64)) rfl ?ho ⟨wz.heap.size, 0, none⟩ 1 1 [.int .u64 x] rfl rfl ?hc (one1 _ _) (by omega) ?b1 ?b2 ?hB _ rfl ?_)
          case ho => exact HO.out.alloc _
          case hc => exact cell_one_new _ _ _
          case b1 => unfold maxLen; omega
          case b2 => omega
          case hB => have := hb2.size; rw [size_al]; omega
          intro gg gcap w1 hown1 hgrow1 hat hlt1
          have HO1 : Hid (w1.ownsRow w5.heap.size 24 1 (.slice (some ⟨gg, 0, none⟩) (q + 1) gcap) (q + 1) ((ids.take (q + 1)).map (Value.int .u64))) := own_snoc hzl' (by rw [HXQ.out, List.map_take]; exact hown1)
          have hb3 : Below w5.heap.size w5 w1 := (hb2.alloc hb2.size _).grown hgrow1 (by have := hb2.size; rw [size_al]; omega) (fun j e => (HO.out.lt j e).1)
          clear hown1 hgrow1 hat hlt1 hx HO
          go_wp2
          go_roundw
          case rel => exact ⟨q + 1, by omega, by go_num, HO1, hb3⟩
          case measure => simp [intOf]; omega
        obtain rfl : n = q := by omega
        clear hql
        obtain ⟨io, ic, hv, hsl, hnew⟩ := own_any HO.out
        rw [List.take_of_length_le (by have := HIL.out; omega)] at hsl
        subst hv
        have HSL : Hid (Sl wz.heap.size .u64 wz io n ic ids) := hsl
        have HNW : Hid (∀ a, io = some a → w5.heap.size ≤ a.block) := hnew
        have HSZ : Hid (St (wr.heap.size + 1) wz R n B n ids nx (arcsF (nextF (fun x => lastK ks x m) Z first ms n) n)) := HST.out.keep (Keep.ofBelow (p := fun _ => False) hb2) (fun _ h => h.elim)
        have hDl : w.heap.size < w5.heap.size := by have := HST.out.lt.1; omega
        have HDZ : Hid (wz.heap[w.heap.size]? = some (.cells zD 34)) := by
          show _ = _
          rw [hb2.block _ hDl]
          exact HD5.out
        have hb8 : Below w.heap.size w wz := hb7.trans (hb2.mono hb7.size)
        have HNZ : Hid (Below w5.heap.size w5 wz) := hb2
        clear hsl hnew HO hb2 hb7 HD5
        have c1 : wz.cell? ⟨R, 1, none⟩ = some (.slice (some ⟨B 1, 0, none⟩) n n) := HSZ.out.rd.cell (i := 1) (by omega)
        have c2 : wz.cell? ⟨R, 2, none⟩ = some (.slice (some ⟨B 2, 0, none⟩) n n) := HSZ.out.rd.cell (i := 2) (by omega)
        have c3 : wz.cell? ⟨R, 3, none⟩ = some (.int .i64 1048576) := HSZ.out.rd.cell (i := 3) (by omega)
        have c4 : wz.cell? ⟨R, 4, none⟩ = some (.slice (some ⟨B 3, 0, none⟩) n n) := HSZ.out.rd.cell (i := 4) (by omega)
        have c5 : wz.cell? ⟨R, 5, none⟩ = some (.slice (some ⟨B 4, 0, none⟩) n n) := HSZ.out.rd.cell (i := 5) (by omega)
        have c6 : wz.cell? ⟨R, 6, none⟩ = some (.slice none 0 0) := HSZ.out.rd.cell (i := 6) (by omega)
        have c7 : wz.cell? ⟨R, 7, none⟩ = some (.bool false) := HSZ.out.rd.cell (i := 7) (by omega)
        have c8 : wz.cell? ⟨R, 8, none⟩ = some (.slice (some ⟨B 5, 0, none⟩) n n) := HSZ.out.rd.cell (i := 8) (by omega)
        have c9 : wz.cell? ⟨R, 9, none⟩ = some (.slice (some ⟨B 6, 0, none⟩) n n) := HSZ.out.rd.cell (i := 9) (by omega)
        have c10 : wz.cell? ⟨R, 10, none⟩ = some (.slice (some ⟨B 7, 0, none⟩) n n) := HSZ.out.rd.cell (i := 10) (by omega)
        have c11 : wz.cell? ⟨R, 11, none⟩ = some (.slice none 0 0) := HSZ.out.rd.cell (i := 11) (by omega)
        have hfr : ∀ i, wz.frozen? ⟨w.heap.size, i, none⟩ = false := fun i => by simp [World.frozen?, HDZ.out]
        have e0 : wz.cell? ⟨w.heap.size, 0, none⟩ = some (.slice none 0 0) := by rw [cell_of_row _ _ _ _ _ _ HDZ.out]; rfl
        have g0 : wz.frozen? ⟨w.heap.size, 0, none⟩ = false := hfr 0
        have e1 : wz.cell? ⟨w.heap.size, 1, none⟩ = some (.slice none 0 0) := by rw [cell_of_row _ _ _ _ _ _ HDZ.out]; rfl
        have g1 : wz.frozen? ⟨w.heap.size, 1, none⟩ = false := hfr 1
        have e2 : wz.cell? ⟨w.heap.size, 2, none⟩ = some (.slice none 0 0) := by rw [cell_of_row _ _ _ _ _ _ HDZ.out]; rfl
        have g2 : wz.frozen? ⟨w.heap.size, 2, none⟩ = false := hfr 2
        have e3 : wz.cell? ⟨w.heap.size, 3, none⟩ = some (.int .i64 0) := by rw [cell_of_row _ _ _ _ _ _ HDZ.out]; rfl
        have g3 : wz.frozen? ⟨w.heap.size, 3, none⟩ = false := hfr 3
        have e4 : wz.cell? ⟨w.heap.size, 4, none⟩ = some (.slice none 0 0) := by rw [cell_of_row _ _ _ _ _ _ HDZ.out]; rfl
        have g4 : wz.frozen? ⟨w.heap.size, 4, none⟩ = false := hfr 4
        have e5 : wz.cell? ⟨w.heap.size, 5, none⟩ = some (.slice none 0 0) := by rw [cell_of_row _ _ _ _ _ _ HDZ.out]; rfl
        have g5 : wz.frozen? ⟨w.heap.size, 5, none⟩ = false := hfr 5
        have e6 : wz.cell? ⟨w.heap.size, 6, none⟩ = some (.slice none 0 0) := by rw [cell_of_row _ _ _ _ _ _ HDZ.out]; rfl
        have g6 : wz.frozen? ⟨w.heap.size, 6, none⟩ = false := hfr 6
        have e7 : wz.cell? ⟨w.heap.size, 7, none⟩ = some (.bool false) := by rw [cell_of_row _ _ _ _ _ _ HDZ.out]; rfl
        have g7 : wz.frozen? ⟨w.heap.size, 7, none⟩ = false := hfr 7
        have e8 : wz.cell? ⟨w.heap.size, 8, none⟩ = some (.slice none 0 0) := by rw [cell_of_row _ _ _ _ _ _ HDZ.out]; rfl
        have g8 : wz.frozen? ⟨w.heap.size, 8, none⟩ = false := hfr 8
        have e9 : wz.cell? ⟨w.heap.size, 9, none⟩ = some (.slice none 0 0) := by rw [cell_of_row _ _ _ _ _ _ HDZ.out]; rfl
        have g9 : wz.frozen? ⟨w.heap.size, 9, none⟩ = false := hfr 9
        have e10 : wz.cell? ⟨w.heap.size, 10, none⟩ = some (.slice none 0 0) := by rw [cell_of_row _ _ _ _ _ _ HDZ.out]; rfl
        have g10 : wz.frozen? ⟨w.heap.size, 10, none⟩ = false := hfr 10
        have e11 : wz.cell? ⟨w.heap.size, 11, none⟩ = some (.slice none 0 0) := by rw [cell_of_row _ _ _ _ _ _ HDZ.out]; rfl
        have g11 : wz.frozen? ⟨w.heap.size, 11, none⟩ = false := hfr 11
        clear hfr
        have hDR : ¬ w.heap.size = R := by omega
        have hRD' : ¬ R = w.heap.size := by omega
        go_wp2_with fail
        go_region_held3 (fun w' => w'.cell? ⟨R, 1, none⟩ = some (.slice (some ⟨B 1, 0, none⟩) n n) ∧ w'.cell? ⟨R, 2, none⟩ = some (.slice (some ⟨B 2, 0, none⟩) n n) ∧ w'.cell? ⟨R, 3, none⟩ = some (.int .i64 1048576) ∧ w'.cell? ⟨R, 4, none⟩ = some (.slice (some ⟨B 3, 0, none⟩) n n) ∧ w'.cell? ⟨R, 5, none⟩ = some (.slice (some ⟨B 4, 0, none⟩) n n) ∧ w'.cell? ⟨R, 6, none⟩ = some (.slice none 0 0) ∧ w'.cell? ⟨R, 7, none⟩ = some (.bool false) ∧ w'.cell? ⟨R, 8, none⟩ = some (.slice (some ⟨B 5, 0, none⟩) n n) ∧ w'.cell? ⟨R, 9, none⟩ = some (.slice (some ⟨B 6, 0, none⟩) n n) ∧ w'.cell? ⟨R, 10, none⟩ = some (.slice (some ⟨B 7, 0, none⟩) n n) ∧ w'.cell? ⟨R, 11, none⟩ = some (.slice none 0 0)) (go_keep) (fail)
        have HK : Hid (Keep (· = w.heap.size) wz.heap.size wz ((((((((((((wz.setCell ⟨w.heap.size, 0, none⟩ (.slice io n ic)).setCell ⟨w.heap.size, 1, none⟩ (.slice (some ⟨B 1, 0, none⟩) n n)).setCell ⟨w.heap.size, 2, none⟩ (.slice (some ⟨B 2, 0, none⟩) n n)).setCell ⟨w.heap.size, 3, none⟩ (.int .i64 1048576)).setCell ⟨w.heap.size, 4, none⟩ (.slice (some ⟨B 3, 0, none⟩) n n)).setCell ⟨w.heap.size, 5, none⟩ (.slice (some ⟨B 4, 0, none⟩) n n)).setCell ⟨w.heap.size, 6, none⟩ (.slice none 0 0)).setCell ⟨w.heap.size, 7, none⟩ (.bool false)).setCell ⟨w.heap.size, 8, none⟩ (.slice (some ⟨B 5, 0, none⟩) n n)).setCell ⟨w.heap.size, 9, none⟩ (.slice (some ⟨B 6, 0, none⟩) n n)).setCell ⟨w.heap.size, 10, none⟩ (.slice (some ⟨B 7, 0, none⟩) n n)).setCell ⟨w.heap.size, 11, none⟩ (.slice none 0 0)).drew) := keep12 wz w.heap.size (.slice io n ic) (.slice (some ⟨B 1, 0, none⟩) n n) (.slice (some ⟨B 2, 0, none⟩) n n) (.int .i64 1048576) (.slice (some ⟨B 3, 0, none⟩) n n) (.slice (some ⟨B 4, 0, none⟩) n n) (.slice none 0 0) (.bool false) (.slice (some ⟨B 5, 0, none⟩) n n) (.slice (some ⟨B 6, 0, none⟩) n n) (.slice (some ⟨B 7, 0, none⟩) n n) (.slice none 0 0)
        have HR : Hid (((((((((((((wz.setCell ⟨w.heap.size, 0, none⟩ (.slice io n ic)).setCell ⟨w.heap.size, 1, none⟩ (.slice (some ⟨B 1, 0, none⟩) n n)).setCell ⟨w.heap.size, 2, none⟩ (.slice (some ⟨B 2, 0, none⟩) n n)).setCell ⟨w.heap.size, 3, none⟩ (.int .i64 1048576)).setCell ⟨w.heap.size, 4, none⟩ (.slice (some ⟨B 3, 0, none⟩) n n)).setCell ⟨w.heap.size, 5, none⟩ (.slice (some ⟨B 4, 0, none⟩) n n)).setCell ⟨w.heap.size, 6, none⟩ (.slice none 0 0)).setCell ⟨w.heap.size, 7, none⟩ (.bool false)).setCell ⟨w.heap.size, 8, none⟩ (.slice (some ⟨B 5, 0, none⟩) n n)).setCell ⟨w.heap.size, 9, none⟩ (.slice (some ⟨B 6, 0, none⟩) n n)).setCell ⟨w.heap.size, 10, none⟩ (.slice (some ⟨B 7, 0, none⟩) n n)).setCell ⟨w.heap.size, 11, none⟩ (.slice none 0 0)).drew.rowIs w.heap.size 34 12 (fld (.slice io n ic) (.slice (some ⟨B 1, 0, none⟩) n n) (.slice (some ⟨B 2, 0, none⟩) n n) (.int .i64 1048576) (.slice (some ⟨B 3, 0, none⟩) n n) (.slice (some ⟨B 4, 0, none⟩) n n) (.slice none 0 0) (.bool false) (.slice (some ⟨B 5, 0, none⟩) n n) (.slice (some ⟨B 6, 0, none⟩) n n) (.slice (some ⟨B 7, 0, none⟩) n n) (.slice none 0 0))) := row12 wz w.heap.size (.slice io n ic) (.slice (some ⟨B 1, 0, none⟩) n n) (.slice (some ⟨B 2, 0, none⟩) n n) (.int .i64 1048576) (.slice (some ⟨B 3, 0, none⟩) n n) (.slice (some ⟨B 4, 0, none⟩) n n) (.slice none 0 0) (.bool false) (.slice (some ⟨B 5, 0, none⟩) n n) (.slice (some ⟨B 6, 0, none⟩) n n) (.slice (some ⟨B 7, 0, none⟩) n n) (.slice none 0 0) (fun j => zD.getD j (.bool false)) ⟨zD, HDZ.out, rfl, fun j hj => by
          have : j < zD.size := hj
          simp [Array.getD, this]⟩
        generalize ((((((((((((wz.setCell ⟨w.heap.size, 0, none⟩ (.slice io n ic)).setCell ⟨w.heap.size, 1, none⟩ (.slice (some ⟨B 1, 0, none⟩) n n)).setCell ⟨w.heap.size, 2, none⟩ (.slice (some ⟨B 2, 0, none⟩) n n)).setCell ⟨w.heap.size, 3, none⟩ (.int .i64 1048576)).setCell ⟨w.heap.size, 4, none⟩ (.slice (some ⟨B 3, 0, none⟩) n n)).setCell ⟨w.heap.size, 5, none⟩ (.slice (some ⟨B 4, 0, none⟩) n n)).setCell ⟨w.heap.size, 6, none⟩ (.slice none 0 0)).setCell ⟨w.heap.size, 7, none⟩ (.bool false)).setCell ⟨w.heap.size, 8, none⟩ (.slice (some ⟨B 5, 0, none⟩) n n)).setCell ⟨w.heap.size, 9, none⟩ (.slice (some ⟨B 6, 0, none⟩) n n)).setCell ⟨w.heap.size, 10, none⟩ (.slice (some ⟨B 7, 0, none⟩) n n)).setCell ⟨w.heap.size, 11, none⟩ (.slice none 0 0)).drew = W at HK HR ⊢
        clear c1 c2 c3 c4 c5 c6 c7 c8 c9 c10 c11 e0 g0 e1 g1 e2 g2 e3 g3 e4 g4 e5 g5 e6 g6 e7 g7 e8 g8 e9 g9 e10 g10 e11 g11
        have q0 : W.cell? ⟨w.heap.size, 0, none⟩ = some (.slice io n ic) := HR.out.cell (i := 0) (by omega)
        have q1 : W.cell? ⟨w.heap.size, 1, none⟩ = some (.slice (some ⟨B 1, 0, none⟩) n n) := HR.out.cell (i := 1) (by omega)
        have q2 : W.cell? ⟨w.heap.size, 2, none⟩ = some (.slice (some ⟨B 2, 0, none⟩) n n) := HR.out.cell (i := 2) (by omega)
        have q3 : W.cell? ⟨w.heap.size, 3, none⟩ = some (.int .i64 1048576) := HR.out.cell (i := 3) (by omega)
        have q4 : W.cell? ⟨w.heap.size, 4, none⟩ = some (.slice (some ⟨B 3, 0, none⟩) n n) := HR.out.cell (i := 4) (by omega)
        have q5 : W.cell? ⟨w.heap.size, 5, none⟩ = some (.slice (some ⟨B 4, 0, none⟩) n n) := HR.out.cell (i := 5) (by omega)
        have q6 : W.cell? ⟨w.heap.size, 6, none⟩ = some (.slice none 0 0) := HR.out.cell (i := 6) (by omega)
        have q7 : W.cell? ⟨w.heap.size, 7, none⟩ = some (.bool false) := HR.out.cell (i := 7) (by omega)
        have q8 : W.cell? ⟨w.heap.size, 8, none⟩ = some (.slice (some ⟨B 5, 0, none⟩) n n) := HR.out.cell (i := 8) (by omega)
        have q9 : W.cell? ⟨w.heap.size, 9, none⟩ = some (.slice (some ⟨B 6, 0, none⟩) n n) := HR.out.cell (i := 9) (by omega)
        have q10 : W.cell? ⟨w.heap.size, 10, none⟩ = some (.slice (some ⟨B 7, 0, none⟩) n n) := HR.out.cell (i := 10) (by omega)
        have q11 : W.cell? ⟨w.heap.size, 11, none⟩ = some (.slice none 0 0) := HR.out.cell (i := 11) (by omega)
        go_wp2
        try simp only [Exit.inBlock, Exit.then]
        refine bodyPost_ret (by simp [results, Try.results12, go_sem, q0, q1, q2, q3, q4, q5, q6, q7, q8, q9, q10, q11]; try rfl) rfl ?_
        refine ⟨⟨wr.heap.size + 1, R, B, nx, io, ic, ⟨rfl, ?_, ?_, ?_⟩⟩, ?_⟩
        · rw [HIDS.out]
          exact HSZ.out.keep HK.out (fun b e _ => ⟨by rw [e]; exact hDR, fun j hj => by have := (HSZ.out.rows j hj).1; rw [e]; omega⟩)
        · exact (HNX.out.keep (Keep.ofBelow HNZ.out)).keep (HK.out.mono (Nat.le_refl _) (fun b _ e => by rw [e]; omega))
        · rw [HIDS.out]
          exact (SlN.keep ⟨HSL.out, fun a ha e => by have := HNW.out a ha; omega⟩ HK.out (Nat.le_refl _)).1.mono HK.out.size
        · exact hb8.trans (HK.out.below hb8.size (fun b e => by rw [e]; exact Nat.le_refl _))
end Go.Proofs.Qxb6602686a
