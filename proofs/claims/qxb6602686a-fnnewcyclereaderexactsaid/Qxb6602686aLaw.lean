/-
  The law FnNewCycleReaderExact: the walk.
-/
import Derived.Test.Qxb6602686aZz
import Derived.Test.Qxb6602686aPl2
namespace Go.Proofs.Qxb6602686a
open Go.RowKit
set_option linter.unusedVariables false

theorem In.below {k : IntKind} {w w' : World} {ao : Option Addr} {n : Nat} {zs : List Int} (h : In k w ao n zs) (hb : Below w.heap.size w w') : In k w' ao n zs := by
  refine ⟨h.1, h.2.1, fun i hi => ?_⟩
  obtain ⟨b, o, e1, e2, e3⟩ := h.2.2 i hi
  exact ⟨b, o, e1, Nat.lt_of_lt_of_le e2 hb.size, fun j hj => (hb.cell (p := ⟨b, o + j, none⟩) e2).trans (e3 j hj)⟩

theorem In2.below {w w' : World} {to : Option Addr} {m : Nat} {A : Nat → Option Addr} {L C : Nat → Nat} (h : In2 w to m A L C) (hb : Below w.heap.size w w') : In2 w' to m A L C := by
  intro r hr
  obtain ⟨b, o, e1, e2, e3⟩ := h r hr
  exact ⟨b, o, e1, Nat.lt_of_lt_of_le e2 hb.size, fun j hj => (hb.cell (p := ⟨b, o + j, none⟩) e2).trans (e3 j hj)⟩

/-- The place of a member. -/
theorem member_place (ids ms : List Int) (n f : Nat) (hl : ids.length = n) (hml : ms.length = n) (hf : f < n) (ha : Asc ms) (hsig : ∀ p, p < n → sig f p < n ∧ ids.getD p 0 = ms.getD (sig f p) 0) (k : Nat) (hk : k < n) (r : Int) (h : RankOf ids (ms.getD k 0) r) :
    ∃ p : Nat, p < n ∧ r = p ∧ ids.getD p 0 = ms.getD k 0 ∧ sig f p = k := by
  rcases h with ⟨p, hp, e, rfl⟩ | ⟨hno, rfl⟩
  · have h1 := hsig p (by omega)
    refine ⟨p, by omega, rfl, e, asc_inj ms ha _ _ (by omega) (by omega) ?_⟩
    rw [← h1.2, e]
  · exfalso
    obtain ⟨p, h1, h2⟩ := sig_onto f k
    have hp := h2 n hf hk
    have h3 := hsig p hp
    rw [h1] at h3
    exact hno p (by omega) h3.2

/-- After k rounds: the lengths of the lists of the places met. -/
def Lens (g : Nat) (w : World) (n f : Nat) (X : Nat → List Int) (k : Nat) : Prop :=
  ∃ lf : Nat → Int, w.rowIs g 3 n (fun p => .int .i64 (lf p)) ∧ ∀ p, p < n → sig f p < k → lf p = ((X p).length : Int)

theorem Lens.put {g : Nat} {w : World} {n f : Nat} {X : Nat → List Int} {k p : Nat} (h : Lens g w n f X k) (hp : sig f p = k) : Lens g (w.setCell ⟨g, p, none⟩ (.int .i64 ((X p).length : Int))) n f X (k + 1) := by
  obtain ⟨lf, h1, h2⟩ := h
  refine ⟨fun j => if j = p then ((X p).length : Int) else lf j, (h1.set p _).congr (fun j hj => ?_), fun j hj hs => ?_⟩
  · by_cases e : j = p <;> simp [e]
  · by_cases e : j = p
    · simp [e]
    · dsimp only
      rw [if_neg e]
      refine h2 j hj ?_
      have : sig f j ≠ k := fun e' => e (sig_inj f j p (by rw [e', hp]))
      omega

set_option maxHeartbeats 4000000 in
set_option maxRecDepth 100000 in
theorem law_any (ko to mo : Option Addr) (m kc tm tc n mc : Nat) (ks ms : List Int) (A : Nat → Option Addr) (L C : Nat → Nat) (Z : Nat → List Int) (first : Int) (w : World)
    (hks : In .u64 w ko m ks) (hku : U64s ks) (hkn : m ≤ 9223372036854775807) (hts : In2 w to tm A L C) (htz : to = none → tm = 0) (hr : ∀ r, r < tm → In .u64 w (A r) (L r) (Z r) ∧ U64s (Z r) ∧ L r ≤ 9223372036854775807) (htn : tm ≤ 9223372036854775807)
    (hms : In .u64 w mo n ms) (hu : U64s ms) (hn : n ≤ 9223372036854775807) (hfu : 0 ≤ first ∧ first ≤ 18446744073709551615) :
    Calls Try.prog 3 #[.slice ko m kc, .slice to tm tc, .int .u64 first, .slice mo n mc] w fun e w' => e = .returned (.bool true) ∧ Below w.heap.size w w' := by
  have HKS : Hid (In .u64 w ko m ks) := hks
  have HKU : Hid (U64s ks) := hku
  have HTS : Hid (In2 w to tm A L C) := hts
  have HTZ : Hid (to = none → tm = 0) := htz
  have HR : Hid (∀ r, r < tm → In .u64 w (A r) (L r) (Z r) ∧ U64s (Z r) ∧ L r ≤ 9223372036854775807) := hr
  have HMS : Hid (In .u64 w mo n ms) := hms
  have HU : Hid (U64s ms) := hu
  clear hks hku hts hr hms hu htz
  go_enter Try.func3, Try.ntmps3
  go_wp2_with fail
  refine (zzb_any ko to mo m kc tm tc n mc first A L C w HTS.out (fun r hr => (HR.out r hr).2.2) hkn htn hn).mono ?_
  rintro e w' ⟨⟨b, hb⟩, rfl⟩
  have hb' := hb.out
  subst hb'
  clear hb
  cases b
  · go_wp2
    go_ret
    exact ⟨rfl, Below.refl _ _⟩
  go_wp2_with fail
  refine (fit_any ko to mo m kc tm tc n mc A L C w HTS.out (fun r hr => (HR.out r hr).2.2) hkn htn hn).mono ?_
  rintro e w' ⟨b, rfl, hfit, rfl⟩
  cases b
  · go_wp2
    go_ret
    exact ⟨rfl, Below.refl _ _⟩
  have hft := hfit.out rfl
  have hm1 : m ≤ 131072 := by omega
  have htm1 : tm ≤ 131072 := by omega
  have hn1 : n ≤ 131072 := by omega
  have HL : Hid (∀ r, r < tm → L r ≤ 131072 ∧ U64s (Z r)) := fun r hr => ⟨by have := sumL_le L tm r hr; omega, (HR.out r hr).2.1⟩
  clear hft hfit hkn htn hn
  go_wp2_with fail
  refine (domain_any ko to mo m kc tm tc n mc ms first w HMS.out HU.out (by omega) (by omega) hn1).mono ?_
  rintro e w1 ⟨b, rfl, hdom, hb1⟩
  cases b
  · go_wp2
    go_ret
    exact ⟨rfl, hb1⟩
  obtain ⟨rfl, hasc, f, hf, hff⟩ := hdom.out rfl
  have HA : Hid (Asc ms) := hasc
  have HF : Hid (ms.getD f 0 = first) := hff
  clear hasc hff hdom htm1
  go_wp2_with fail
  refine (cloneU64_any ko m kc ks w1 (HKS.out.below hb1) hm1).mono ?_
  rintro e w2 ⟨ko', rfl, hk2, hb2, _⟩
  have hb2' : Below w.heap.size w w2 := hb1.trans (hb2.mono hb1.size)
  have HK2 : Hid (Sl w2.heap.size .u64 w2 ko' m m ks) := hk2
  clear hk2 hb2 hb1 HKS
  go_wp2_with fail
  refine (cloneU64s_any to m tc A L C Z w2 (HTS.out.below hb2') HTZ.out (fun r hr => ⟨(HR.out r hr).1.below hb2', (HL.out r hr).1⟩) hm1).mono ?_
  rintro e w3 ⟨⟨to', A', H3⟩, hb3⟩
  obtain ⟨rfl, ht3⟩ := H3.out
  have hb3' : Below w.heap.size w w3 := hb2'.trans (hb3.mono hb2'.size)
  have HK3 : Hid (Sl w3.heap.size .u64 w3 ko' m m ks) := HK2.out.up hb3
  have HT3 : Hid (Sls w3.heap.size w3 to' m m A' L L Z) := ht3
  clear ht3 hb3 hb2' HK2 H3 HTS HTZ HR
  go_wp2_with fail
  refine (cloneU64_any mo n mc ms w3 (HMS.out.below hb3') hn1).mono ?_
  rintro e w4 ⟨mo', rfl, hm4, hb4, _⟩
  have hb4' : Below w.heap.size w w4 := hb3'.trans (hb4.mono hb3'.size)
  have HK4 : Hid (Sl w4.heap.size .u64 w4 ko' m m ks) := HK3.out.up hb4
  have HT4 : Hid (Sls w4.heap.size w4 to' m m A' L L Z) := HT3.out.up hb4
  have HM4 : Hid (Sl w4.heap.size .u64 w4 mo' n n ms) := hm4
  clear hm4 hb4 hb3' HK3 HT3 HMS
  go_wp2_with fail
  refine (zz_any ko' to' mo' m m m n n ks ms A' L L Z f first w4 HK4.out HKU.out HT4.out HL.out hm1 HM4.out HU.out HA.out hf HF.out hn1).mono ?_
  rintro e w5 ⟨⟨H, R, B, nx, io, ic, HZ⟩, hb5⟩
  obtain ⟨rfl, hst, hnx, hio⟩ := HZ.out
  have hb5' : Below w.heap.size w w5 := hb4'.trans (hb5.mono hb4'.size)
  have HK5 : Hid (Sl w5.heap.size .u64 w5 ko' m m ks) := HK4.out.up hb5
  have HT5 : Hid (Sls w5.heap.size w5 to' m m A' L L Z) := HT4.out.up hb5
  have HM5 : Hid (Sl w5.heap.size .u64 w5 mo' n n ms) := HM4.out.up hb5
  clear hb5 hb4' HK4 HT4 HM4 HZ
  have HIL : Hid ((idsOf first ms).length = n) := by
    show _ = _
    rw [← HF.out, ids_len ms HA.out f (by rw [HM5.out.1]; exact hf), HM5.out.1]
  have HIJ : Hid (Inj (idsOf first ms) n) := by
    show Inj _ _
    have := ids_inj ms HA.out f (by rw [HM5.out.1]; exact hf)
    rw [HF.out, HM5.out.1] at this
    exact this
  have HSIG : Hid (∀ p, p < n → sig f p < n ∧ (idsOf first ms).getD p 0 = ms.getD (sig f p) 0) := fun p hp => by
    have h1 := HM5.out.1
    refine ⟨sig_lt f p n hf hp, ?_⟩
    rw [← HF.out]
    exact ids_sig ms HA.out f (by omega) p (by omega)
  have HIU : Hid (U64s (idsOf first ms)) := ids_u64 first ms HU.out hfu
  obtain ⟨X, HX⟩ : ∃ X : Nat → List Int, Hid (nextF (fun x => lastK ks x m) Z first ms n = X) := ⟨_, rfl⟩
  rw [HX.out] at hst hnx
  have HST : Hid (St H w5 R n B n (idsOf first ms) nx (arcsF X n)) := hst
  have HNX : Hid (NextOk H w5 nx X n) := hnx
  have HIO : Hid (Sl w5.heap.size .u64 w5 io n ic (idsOf first ms)) := hio
  clear hst hnx hio
  obtain ⟨ids, HIDS⟩ : ∃ ids, Hid (idsOf first ms = ids) := ⟨_, rfl⟩
  rw [HIDS.out] at HIL HIJ HSIG HIU HST HIO
  rw [show aggOf n B io ic = .agg #[.slice io n ic, .slice (some ⟨B 1, 0, none⟩) n n, .slice (some ⟨B 2, 0, none⟩) n n, .int .i64 1048576, .slice (some ⟨B 3, 0, none⟩) n n, .slice (some ⟨B 4, 0, none⟩) n n, .slice none 0 0, .bool false, .slice (some ⟨B 5, 0, none⟩) n n, .slice (some ⟨B 6, 0, none⟩) n n, .slice (some ⟨B 7, 0, none⟩) n n, .slice none 0 0] from rfl]
  go_upto_if 74 with (fail)
  go_cut [9] from 26 (fun p wx => p = .pointer (some ⟨w5.heap.size, 0, none⟩) ∧ Hid (wx.rowIs w5.heap.size 34 12 (fld (.slice io n ic) (.slice (some ⟨B 1, 0, none⟩) n n) (.slice (some ⟨B 2, 0, none⟩) n n) (.int .i64 1048576) (.slice (some ⟨B 3, 0, none⟩) n n) (.slice (some ⟨B 4, 0, none⟩) n n) (.slice none 0 0) (.bool false) (.slice (some ⟨B 5, 0, none⟩) n n) (.slice (some ⟨B 6, 0, none⟩) n n) (.slice (some ⟨B 7, 0, none⟩) n n) (.slice none 0 0))) ∧ Below w5.heap.size w5 wx)
  case first =>
    have HRE : Hid ((w5.alloc (.cells #[.slice io n ic, .slice (some ⟨B 1, 0, none⟩) n n, .slice (some ⟨B 2, 0, none⟩) n n, .int .i64 1048576, .slice (some ⟨B 3, 0, none⟩) n n, .slice (some ⟨B 4, 0, none⟩) n n, .slice none 0 0, .bool false, .slice (some ⟨B 5, 0, none⟩) n n, .slice (some ⟨B 6, 0, none⟩) n n, .slice (some ⟨B 7, 0, none⟩) n n, .slice none 0 0] 34)).rowIs w5.heap.size 34 12 (fld (.slice io n ic) (.slice (some ⟨B 1, 0, none⟩) n n) (.slice (some ⟨B 2, 0, none⟩) n n) (.int .i64 1048576) (.slice (some ⟨B 3, 0, none⟩) n n) (.slice (some ⟨B 4, 0, none⟩) n n) (.slice none 0 0) (.bool false) (.slice (some ⟨B 5, 0, none⟩) n n) (.slice (some ⟨B 6, 0, none⟩) n n) (.slice (some ⟨B 7, 0, none⟩) n n) (.slice none 0 0))) := World.rowIs_alloc w5 _ 34 _ (fun i hi => by
      match i, hi with
      | 0, _ => rfl
      | 1, _ => rfl
      | 2, _ => rfl
      | 3, _ => rfl
      | 4, _ => rfl
      | 5, _ => rfl
      | 6, _ => rfl
      | 7, _ => rfl
      | 8, _ => rfl
      | 9, _ => rfl
      | 10, _ => rfl
      | 11, _ => rfl
      | j + 12, h => exact absurd h (by simp))
    go_wp2
    go_meet
    case rel => exact ⟨rfl, HRE, (Below.refl _ _).alloc (Nat.le_refl _) _⟩
  case rest =>
    obtain ⟨rfl, HRE, hbc⟩ := hcut
    have hb6 : Below w.heap.size w wc := hb5'.trans (hbc.mono hb5'.size)
    have HK6 : Hid (Sl wc.heap.size .u64 wc ko' m m ks) := HK5.out.up hbc
    have HT6 : Hid (Sls wc.heap.size wc to' m m A' L L Z) := HT5.out.up hbc
    have HM6 : Hid (Sl wc.heap.size .u64 wc mo' n n ms) := HM5.out.up hbc
    have HS6 : Hid (St H wc R n B n ids nx (arcsF X n)) := HST.out.keep (Keep.ofBelow (p := fun _ => False) hbc) (fun _ h => h.elim)
    have HN6 : Hid (NextOk H wc nx X n) := HNX.out.keep (Keep.ofBelow hbc)
    have HI6 : Hid (Sl wc.heap.size .u64 wc io n ic ids) := HIO.out.up hbc
    have hE := HRE.out.lt
    obtain ⟨E, HE⟩ : ∃ e, Hid (w5.heap.size = e) := ⟨_, rfl⟩
    rw [HE.out] at HRE hE ⊢
    clear HK5 HT5 HM5 HST HNX HIO hbc hb5'
    have c0 : wc.cell? ⟨E, 0, none⟩ = some (.slice io n ic) := HRE.out.cell (i := 0) (by omega)
    have c1 : wc.cell? ⟨E, 1, none⟩ = some (.slice (some ⟨B 1, 0, none⟩) n n) := HRE.out.cell (i := 1) (by omega)
    have c2 : wc.cell? ⟨E, 2, none⟩ = some (.slice (some ⟨B 2, 0, none⟩) n n) := HRE.out.cell (i := 2) (by omega)
    have c3 : wc.cell? ⟨E, 3, none⟩ = some (.int .i64 1048576) := HRE.out.cell (i := 3) (by omega)
    have c4 : wc.cell? ⟨E, 4, none⟩ = some (.slice (some ⟨B 3, 0, none⟩) n n) := HRE.out.cell (i := 4) (by omega)
    have c5 : wc.cell? ⟨E, 5, none⟩ = some (.slice (some ⟨B 4, 0, none⟩) n n) := HRE.out.cell (i := 5) (by omega)
    have c6 : wc.cell? ⟨E, 6, none⟩ = some (.slice none 0 0) := HRE.out.cell (i := 6) (by omega)
    have c7 : wc.cell? ⟨E, 7, none⟩ = some (.bool false) := HRE.out.cell (i := 7) (by omega)
    have c8 : wc.cell? ⟨E, 8, none⟩ = some (.slice (some ⟨B 5, 0, none⟩) n n) := HRE.out.cell (i := 8) (by omega)
    have c9 : wc.cell? ⟨E, 9, none⟩ = some (.slice (some ⟨B 6, 0, none⟩) n n) := HRE.out.cell (i := 9) (by omega)
    have c10 : wc.cell? ⟨E, 10, none⟩ = some (.slice (some ⟨B 7, 0, none⟩) n n) := HRE.out.cell (i := 10) (by omega)
    have c11 : wc.cell? ⟨E, 11, none⟩ = some (.slice none 0 0) := HRE.out.cell (i := 11) (by omega)
    have hq32 := fun (w : World) (a : Option Addr) (n c n' c' : Nat) => run_neq_slice_nil_any (P := Try.prog) w 32 4 a n c n' c' Try.underlying32
    have hq31 := fun (w : World) (a : Option Addr) (n c n' c' : Nat) => run_neq_slice_nil_any (P := Try.prog) w 31 2 a n c n' c' Try.underlying31
    have hq30 := fun (w : World) (a : Option Addr) (n c n' c' : Nat) => run_neq_slice_nil_any (P := Try.prog) w 30 3 a n c n' c' Try.underlying30
    go_wp2_with fail
    go_loopw [11] (fun i wr => ∃ k : Nat, k ≤ n ∧ i = .int .i64 k ∧ wc = wr) (fun i _ => n - (intOf i).toNat)
    case atStart => exact ⟨0, Nat.zero_le _, rfl, rfl⟩
    case round =>
      obtain ⟨k, hk, rfl, rfl⟩ := hrel
      by_cases hlt : k < n
      · have z3 : wc.cell? ⟨B 3, k, none⟩ = some (.int .i64 0) := (HS6.out.zeros 3 (by omega) (by omega)).cell hlt
        have z4 : wc.cell? ⟨B 4, k, none⟩ = some (.bool false) := (HS6.out.zeros 4 (by omega) (by omega)).cell hlt
        have z5 : wc.cell? ⟨B 5, k, none⟩ = some (.int .i64 0) := (HS6.out.zeros 5 (by omega) (by omega)).cell hlt
        have z6 : wc.cell? ⟨B 6, k, none⟩ = some (.bool false) := (HS6.out.zeros 6 (by omega) (by omega)).cell hlt
        have z7 : wc.cell? ⟨B 7, k, none⟩ = some (.slice none 0 0) := (HS6.out.zeros 7 (by omega) (by omega)).cell hlt
        clear c0 c1 c2 c3 c6 c7 c11 hq32 hq31
        go_wp2
        exact ⟨⟨k + 1, by omega, by go_num, trivial⟩, by simp [intOf]; omega⟩
      obtain rfl : n = k := by omega
      clear hlt hk c3 c4 c5 c6 c7 c8 c9 c10 c11 hq31 hq32
      obtain ⟨j0, hj0, hj0z, hj1, hj2⟩ := info_parts info3
      have hmk := fun (w : World) => run_make_row (P := Try.prog) 30 3 j0 (.int .i64 0) Try.underlying30 hj0 hj0z hj1 rfl .i64 .i64 n (by rw [hj2]; omega) (by omega) w
      have HXL : Hid (∀ p, p < n → X p = nxt ids n (zrow (fun x => lastK ks x m) Z (ids.getD p 0)) ∧ (X p).length ≤ 131072) := fun p hp => by
        have e : X p = nxt ids n (zrow (fun x => lastK ks x m) Z (ids.getD p 0)) := by rw [← HX.out, ← HIDS.out]; rfl
        refine ⟨e, ?_⟩
        obtain ⟨_, rl, _, _, h2, h3, _⟩ := rowV_sl HT6.out HL.out ks (ids.getD p 0)
        have h4 := nxt_le ids n (zrow (fun x => lastK ks x m) Z (ids.getD p 0))
        have h5 := h2.1
        rw [e]
        omega
      go_wp2_with fail
      clear hmk hj0 hj0z hj1 hj2
      go_loopw [13] (fun i wr => ∃ k : Nat, k ≤ n ∧ i = .int .i64 k ∧ Hid (Lens wc.heap.size wr n f X k) ∧ Below wc.heap.size wc wr) (fun i _ => n - (intOf i).toNat)
      case atStart => exact ⟨0, Nat.zero_le _, rfl, ⟨fun _ => 0, World.rowIs_made wc (.int .i64 0) n 3, fun p _ h => absurd h (by omega)⟩, (Below.refl _ _).alloc (Nat.le_refl _) _⟩
      case round =>
        obtain ⟨k, hk, rfl, HLN, hbl⟩ := hrel
        rename World => wo
        have c0' := (hbl.cell (p := ⟨E, 0, none⟩) hE).trans c0
        have c1' := (hbl.cell (p := ⟨E, 1, none⟩) hE).trans c1
        have c2' := (hbl.cell (p := ⟨E, 2, none⟩) hE).trans c2
        clear c0 c1 c2
        by_cases hlt : k < n
        · have hmSl := HM6.out.below hbl
          have hpc := place_any wc.heap.size mo' n n ms f (ms.getD k 0) wo hmSl HA.out HU.out hn1 hf hbl.size
          have hlc := lookup_any wc.heap.size ko' to' m m m ks A' L L Z (ms.getD k 0) wo (HK6.out.below hbl) (HT6.out.below hbl) HKU.out hm1
          rw [HF.out] at hpc
          obtain ⟨ra, rl, rc, hrv, hrs, hrl, hru⟩ := rowV_sl (HT6.out.below hbl) HL.out ks (ms.getD k 0)
          rw [hrv] at hlc
          have HPC : Hid (Calls Try.prog 13 #[.slice mo' n n, .int .u64 first, .int .u64 (ms.getD k 0)] wo fun e w' => ∃ r, e = .returned (.int .i64 r) ∧ Hid (PlaceOf ms first (ms.getD k 0) r) ∧ wo = w') := hpc
          have HLC : Hid (Calls Try.prog 14 #[.slice ko' m m, .slice to' m m, .int .u64 (ms.getD k 0)] wo fun e w' => e = .returned (.slice ra rl rc) ∧ wo = w') := hlc
          have HRS : Hid (Sl wc.heap.size .u64 wo ra rl rc (zrow (fun x => lastK ks x m) Z (ms.getD k 0))) := hrs
          have HRU : Hid (U64s (zrow (fun x => lastK ks x m) Z (ms.getD k 0))) := hru
          have HMO : Hid (Sl wc.heap.size .u64 wo mo' n n ms) := hmSl
          have hxu := HU.out k
          clear hpc hlc hrv hrs hru hmSl
          obtain ⟨hml, ⟨_, h0, _⟩ | ⟨mb, mof, rfl, hmb, _, hmcell⟩⟩ := HMO.out
          · omega
          have hx := hmcell k hlt
          have HML : Hid (ms.length = n) := hml
          clear hmcell hml
          obtain ⟨x, HXK⟩ : ∃ x, Hid (ms.getD k 0 = x) := ⟨_, rfl⟩
          rw [HXK.out] at HPC HLC HRS HRU hx hxu
          generalize hzs : zrow (fun x => lastK ks x m) Z x = zs at *
          have HZS : Hid (zrow (fun x => lastK ks x m) Z x = zs) := hzs
          clear hzs
          go_wp2_with fail
          refine HPC.out.mono ?_
          clear HPC hx
          rintro e w' ⟨r, rfl, hpl, rfl⟩
          have hpl2 : RankOf ids (ms.getD k 0) r := by rw [HXK.out, ← HIDS.out]; exact hpl.out
          obtain ⟨p, hp, rfl, hidp, hsp⟩ := member_place ids ms n f HIL.out HML.out hf HA.out HSIG.out k hlt r hpl2
          rw [HXK.out] at hidp
          have HIDP : Hid (ids.getD p 0 = x) := hidp
          clear hpl hpl2 hidp
          obtain ⟨_, ⟨_, h0, _⟩ | ⟨ib, iof, rfl, hib, _, hicell⟩⟩ := HI6.out
          · omega
          have hi := (hbl.cell (p := ⟨ib, iof + p, none⟩) hib).trans (hicell p hp)
          rw [HIDP.out] at hi
          obtain ⟨ga, gl, gc, hnx, hgs, hg0⟩ := HN6.out p hp
          have hg := ((hbl.cell (p := ⟨B 1, p, none⟩) (HS6.out.lt.2 1 (by omega))).trans (HS6.out.next.cell hp))
          rw [hnx] at hg
          have HGS : Hid (Sl wc.heap.size .i64 wo ga gl gc (X p)) := hgs.1.below hbl
          have HXP : Hid (X p = nxt ids n zs) := by
            show _ = _
            rw [(HXL.out p hp).1, HIDP.out, HZS.out]
          have hgl : gl ≤ 131072 := by rw [← hgs.1.1]; exact (HXL.out p hp).2
          have HG0 : Hid (gl = 0 → ga = none) := hg0
          clear hicell hnx hgs hg0
          have p0 : (0 : Int) ≤ (p : Int) := by omega
          have p1 : (p : Int) < (n : Int) := by omega
          go_wp2_with fail
          refine HLC.out.mono ?_
          clear HLC hi hg
          rintro e w' ⟨rfl, rfl⟩
          go_wp2_with fail
          go_loopw [17, 199] (fun e i wr => ∃ q ee : Nat, q ≤ rl ∧ ee ≤ 131072 ∧ i = .int .i64 q ∧ e = .int .i64 ee ∧ Hid (ee = (nxt ids n (zs.take q)).length) ∧ wo = wr) (fun _ i _ => rl - (intOf i).toNat)
          case atStart => exact ⟨0, 0, Nat.zero_le _, by omega, rfl, rfl, rfl, rfl⟩
          case round =>
            obtain ⟨q, ee, hq, hee, rfl, rfl, HEE, rfl⟩ := hrel
            by_cases hql : q < rl
            · obtain ⟨hzl, ⟨_, h0, _⟩ | ⟨rb, ro, rfl, hrb, _, hrcell⟩⟩ := HRS.out
              · omega
              have ht := hrcell q hql
              have htu := HRU.out q
              have hpc := place_any wc.heap.size _ n n ms f (zs.getD q 0) wo HMO.out HA.out HU.out hn1 hf hbl.size
              rw [HF.out] at hpc
              have HNG : Hid (∀ r, plc ids n (zs.getD q 0) = some r → (nxt ids n (zs.take q)).length < (nxt ids n zs).length ∧ (nxt ids n zs).getD (nxt ids n (zs.take q)).length 0 = r) := fun r h => nxt_get ids n zs q (by omega) r h
              have HNS : Hid (nxt ids n (zs.take (q + 1)) = nxt ids n (zs.take q) ++ (plc ids n (zs.getD q 0)).toList) := nxt_succ ids n zs q (by omega)
              obtain ⟨t, HT⟩ : ∃ t, Hid (zs.getD q 0 = t) := ⟨_, rfl⟩
              rw [HT.out] at ht htu hpc HNG HNS
              have HPC : Hid (Calls Try.prog 13 #[.slice (some ⟨mb, mof, none⟩) n n, .int .u64 first, .int .u64 t] wo fun e w' => ∃ r, e = .returned (.int .i64 r) ∧ Hid (PlaceOf ms first t r) ∧ wo = w') := hpc
              clear hpc hrcell hzl c0' c1' c2' hq30
              go_wp2_with fail
              refine HPC.out.mono ?_
              clear HPC ht
              rintro e w' ⟨r, rfl, hpl, rfl⟩
              have hpl2 : RankOf ids t r := by rw [← HIDS.out]; exact hpl.out
              rcases plc_rank ids n HIL.out HIJ.out t r hpl2 with ⟨p2, hp2, rfl, _, hpc2⟩ | ⟨rfl, hpc2⟩
              · have hg1 := HNG.out _ hpc2
                rw [← HEE.out, ← HXP.out] at hg1
                have HEE' : Hid (ee + 1 = (nxt ids n (zs.take (q + 1))).length) := by
                  show _ = _
                  rw [HNS.out, hpc2, List.length_append, ← HEE.out]
                  rfl
                obtain ⟨hgl2, ⟨_, h0, _⟩ | ⟨gb, gof, rfl, hgb, _, hgcell⟩⟩ := HGS.out
                · omega
                have hel : ee < gl := by omega
                have hgx := hgcell ee hel
                rw [hg1.2] at hgx
                clear hg1 hgcell hgl2 hpl hpl2 hpc2 HNG HNS
                go_wp2
                exact ⟨⟨q + 1, ee + 1, by omega, by omega, by go_num, by go_num, HEE', trivial⟩, by simp [intOf]; omega⟩
              · have HEE' : Hid (ee = (nxt ids n (zs.take (q + 1))).length) := by
                  show _ = _
                  rw [HNS.out, hpc2, List.length_append, ← HEE.out]
                  rfl
                clear hpl hpl2 hpc2 HNG HNS
                go_wp2
                exact ⟨⟨q + 1, ee, by omega, by omega, by go_num, by go_num, HEE', trivial⟩, by simp [intOf]; omega⟩
            obtain rfl : rl = q := by omega
            clear hql
            have hge : ee = gl := by
              have h1 := HRS.out.1
              rw [HEE.out, List.take_of_length_le (by omega), ← HXP.out]
              exact HGS.out.1
            have HLG : Hid ((X p).length = gl) := HGS.out.1
            subst hge
            have HL2 : Hid (Lens wc.heap.size (wo.setCell ⟨wc.heap.size, p, none⟩ (.int .i64 ee)) n f X (k + 1)) := by
              have := HLN.out.put hsp
              rw [HLG.out] at this
              exact this
            obtain ⟨lf, hrow, _⟩ := HLN.out
            have hcl := hrow.cell hp
            have hfz := hrow.frozen p
            have hb9 : Below wc.heap.size wc (wo.setCell ⟨wc.heap.size, p, none⟩ (.int .i64 ee)) := hbl.setCell (Nat.le_refl _) _
            clear hrow c0' c1' c2' HRS HRU HGS HEE
            by_cases hz : ee = 0
            · have hga := HG0.out hz
              subst hga
              subst hz
              go_wp2
              go_roundw
              case rel => exact ⟨k + 1, by omega, by go_num, HL2, hb9⟩
              case measure => simp [intOf]; omega
            · go_wp2
              go_roundw
              case rel => exact ⟨k + 1, by omega, by go_num, HL2, hb9⟩
              case measure => simp [intOf]; omega
        obtain rfl : n = k := by omega
        clear hlt hk hq30 c0' c1'
        obtain ⟨lf, hrow, hlf⟩ := HLN.out
        have HLF : Hid (∀ p, p < n → wo.cell? ⟨wc.heap.size, p, none⟩ = some (.int .i64 ((X p).length : Int))) := fun p hp => by rw [hrow.cell hp, hlf p hp (HSIG.out p hp).1]
        have HAR : Hid (∀ p, p < n → wo.cell? ⟨B 2, p, none⟩ = some (.int .i64 (arcsF X n p))) := fun p hp => by
          rw [hbl.cell (p := ⟨B 2, p, none⟩) (HS6.out.lt.2 2 (by omega)), HS6.out.arcs.cell hp]
        obtain ⟨tot, HTOT⟩ : ∃ t, Hid (sumL (fun j => (X j).length) n = t) := ⟨_, rfl⟩
        have hsb : tot ≤ 17179869184 := by
          have h1 := sumL_bd (fun j => (X j).length) n (fun j hj => (HXL.out j hj).2)
          rw [← HTOT.out]
          omega
        have hbz : Below w.heap.size w wo := hb6.trans (hbl.mono hb6.size)
        clear hrow hlf HLN hbl HS6 HN6 HI6 HM6 HT6 HK6 hb6
        go_wp2_with fail
        go_loopw [22, 23] (fun s i wr => ∃ k q : Nat, k ≤ n ∧ q ≤ 17179869184 ∧ i = .int .i64 k ∧ s = .int .i64 q ∧ Hid (q = sumL (fun j => (X j).length) k) ∧ wo = wr) (fun _ i _ => n - (intOf i).toNat)
        case atStart => exact ⟨0, 0, Nat.zero_le _, by omega, rfl, rfl, rfl, rfl⟩
        case round =>
          obtain ⟨k, q, hk, hq, rfl, rfl, HQ, rfl⟩ := hrel
          by_cases hlt : k < n
          · have hx := HLF.out k hlt
            obtain ⟨l, HLL⟩ : ∃ l, Hid ((X k).length = l) := ⟨_, rfl⟩
            rw [HLL.out] at hx
            have HQ' : Hid (q + l = sumL (fun j => (X j).length) (k + 1)) := by
              show _ = sumL (fun j => (X j).length) k + (X k).length
              rw [HQ.out, HLL.out]
            have hql : q + l ≤ 17179869184 := by
              have h1 := sumL_mono (fun j => (X j).length) (k + 1) n (by omega)
              rw [HTOT.out] at h1
              have := HQ'.out
              omega
            go_wp2
            exact ⟨⟨k + 1, q + l, by omega, by omega, by go_num, by go_num, HQ', trivial⟩, by simp [intOf]; omega⟩
          obtain rfl : n = k := by omega
          have hqt : q = tot := by rw [HQ.out, HTOT.out]
          subst hqt
          clear hlt hk HQ
          go_wp2_with fail
          go_loopw [24, 25] (fun s i wr => ∃ k q' : Nat, k ≤ n ∧ q' ≤ 17179869184 ∧ i = .int .i64 k ∧ s = .int .i64 q' ∧ Hid (q' = sumL (fun j => (X j).length) k) ∧ wo = wr) (fun _ i _ => n - (intOf i).toNat)
          case atStart => exact ⟨0, 0, Nat.zero_le _, by omega, rfl, rfl, rfl, rfl⟩
          case round =>
            obtain ⟨k, q', hk, hq', rfl, rfl, HQ, rfl⟩ := hrel
            by_cases hlt : k < n
            · have hx := HLF.out k hlt
              have hy := HAR.out k hlt
              obtain ⟨l, HLL⟩ : ∃ l, Hid ((X k).length = l) := ⟨_, rfl⟩
              rw [HLL.out] at hx
              have HQ' : Hid (q' + l = sumL (fun j => (X j).length) (k + 1)) := by
                show _ = sumL (fun j => (X j).length) k + (X k).length
                rw [HQ.out, HLL.out]
              have hql : q' + l ≤ q := by
                have h1 := sumL_mono (fun j => (X j).length) (k + 1) n (by omega)
                rw [HTOT.out] at h1
                have := HQ'.out
                omega
              have hyv : arcsF X n k = (q : Int) - ((q' : Int) + (l : Int)) := by
                unfold arcsF
                rw [HTOT.out, ← HQ'.out]
                omega
              rw [hyv] at hy
              clear hyv
              go_wp2
              exact ⟨⟨k + 1, q' + l, by omega, by omega, by go_num, by go_num, HQ', trivial⟩, by simp [intOf]; omega⟩
            obtain rfl : n = k := by omega
            go_wp2
            go_ret
            exact ⟨rfl, hbz⟩
end Go.Proofs.Qxb6602686a
