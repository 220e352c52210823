/-
  (*slots).expire (12).
-/
import Derived.Test.YbulkdgzaDoorClear
import Derived.Deep.LoopGhost
namespace Go.Proofs.YbulkdgzaDoor
open Go.RowKit B
set_option linter.unusedVariables false
set_option linter.unusedSimpArgs false

/-- Linked by nx. -/
def Nxl (nx : Nat → Option Nat) (l : List Nat) : Prop := ∀ (k i : Nat), l[k]? = some i → nx i = l[k + 1]?
theorem Nxl.tail {nx : Nat → Option Nat} {i : Nat} {l : List Nat} (h : Nxl nx (i :: l)) : Nxl nx l := fun k j hk => by simpa using h (k + 1) j (by simpa using hk)
theorem Nxl.head {nx : Nat → Option Nat} {i : Nat} {l : List Nat} (h : Nxl nx (i :: l)) : nx i = l.head? := by
  have := h 0 i rfl; rw [this, List.head?_eq_getElem?]; simp
theorem Nxl.congr {nx nx' : Nat → Option Nat} {l : List Nat} (h : Nxl nx l) (hc : ∀ i ∈ l, nx' i = nx i) : Nxl nx' l := fun k i hk => by rw [hc i (List.mem_of_getElem? hk)]; exact h k i hk

theorem B.Inv.congr {T : Nat → Nat} {R R' : Nat → Prop} {w : Wh} (h : Inv T R w) (hr : ∀ i, R i ↔ R' i) : Inv T R' w :=
  ⟨fun i hi => h.ge i ((hr i).2 hi), fun i hi => h.lt i ((hr i).2 hi), fun i hi => h.place i ((hr i).2 hi), fun l s i hi => ⟨(hr i).1 (h.only l s i hi).1, (h.only l s i hi).2⟩, h.nd⟩

/-- All that is known of the hierarchy, in memory and in the plain. -/
structure Sta (w : World) (S : Nat) (tb : Nat → Nat) (n : Nat) (T : Nat → Nat) (z : Nat → Value) (R : Nat → Prop) (wh : Wh) (nx : Nat → Option Nat) : Prop where
  ex : ∃ pv ps occ, Mem w S tb n T z nx pv ps occ wh.cur wh.L ∧ Lk n nx pv ps occ wh.L
  inv : Inv T R wh
  tab : TabAt 2 Lib.deBruijn64tab w

theorem tab_chg {w w' : World} {Z : Nat → Prop} (h : TabAt 2 Lib.deBruijn64tab w) (h2 : 2 < w.heap.size) (hc : Chg w w' Z) (hz : ¬ Z 2) : TabAt 2 Lib.deBruijn64tab w' :=
  fun j hj => (hc.cell h2 hz).trans (h j hj)

/-- One timer is placed again. -/
theorem Sta.add {S : Nat} {tb : Nat → Nat} {n : Nat} {T : Nat → Nat} {z : Nat → Value} {R : Nat → Prop} {wh : Wh} {nx : Nat → Option Nat} {i : Nat} {rest : List Nat} {w : World}
    (h : Sta w S tb n T z (fun j => R j ∧ j ∉ i :: rest) wh nx) (hi : i < n) (hR : R i) (hnr : i ∉ rest) (hg : wh.cur ≤ T i) (hT : T i < 2 ^ 63) (hO : ¬ Own S tb n 2) (h2 : 2 < w.heap.size) :
    Calls Ybad.prog 11 #[.pointer (some ⟨S, 0, none⟩), .pointer (some ⟨tb i, 0, none⟩)] w fun e w' => e = .returned (.tuple #[]) ∧
      ∃ nx', Sta w' S tb n T z (fun j => R j ∧ j ∉ rest) (addW T wh i) nx' ∧ (∀ j, j ≠ i → nx' j = nx j) ∧ Chg w w' (Own S tb n) := by
  obtain ⟨pv, ps, occ, hm, hk⟩ := h.ex
  have hni : ∀ l s, i ∉ wh.L l s := fun l s hm => (h.inv.only l s i hm).1.2 List.mem_cons_self
  refine (add_any S tb n T z nx pv ps occ wh i w hi (by omega) (by omega) hm hk hni).mono ?_
  rintro e w' ⟨he, nx', pv', ps', occ', m, k, hn, c⟩
  refine ⟨he, nx', ⟨⟨pv', ps', occ', m, k⟩, ?_, tab_chg h.tab h2 c hO⟩, hn, c⟩
  refine (h.inv.add (i := i) (fun q => q.2 List.mem_cons_self) hg hT).congr (fun j => ?_)
  constructor
  · rintro (⟨a, b⟩ | rfl)
    · exact ⟨a, fun q => b (List.mem_cons_of_mem _ q)⟩
    · exact ⟨hR, hnr⟩
  · rintro ⟨a, b⟩
    by_cases e : j = i
    · exact .inr e
    · exact .inl ⟨a, fun q => (List.mem_cons.1 q).elim e b⟩

theorem andNot_bit (O s : Nat) (hO : O < 18446744073709551616) (hs : s < 64) : bits BinOp.andNot IntKind.u64 ((O : Nat) : Int) (IntKind.u64.wrap (2 ^ s)) = ((O &&& (18446744073709551615 - 2 ^ s) : Nat) : Int) := by
  have h2 : 2 ^ s < 2 ^ 64 := Nat.pow_lt_pow_right (by omega) hs
  have e : IntKind.u64.wrap (2 ^ s) = ((2 ^ s : Nat) : Int) := by
    rw [IntKind.wrap_u64]
    have e2 : ((2 : Int) ^ s) = ((2 ^ s : Nat) : Int) := by simp
    rw [e2]
    generalize 2 ^ s = q at *
    omega
  rw [e, u64_andNot_nat O (2 ^ s) hO (by omega)]

/-- What expire leaves. -/
def ExpPost (S : Nat) (tb : Nat → Nat) (n : Nat) (T : Nat → Nat) (z : Nat → Value) (R : Nat → Prop) (c0 : Nat) (last : Int) (w : World) (e : Ending) (w' : World) : Prop :=
  ∃ got wh' nx', e = .returned (ptr tb got.head?) ∧ Chg w w' (Own S tb n) ∧ Sta w' S tb n T z (fun i => R i ∧ i ∉ got) wh' nx' ∧ Nxl nx' got ∧ got.Nodup ∧
    ((got = [] ∧ (∀ i, R i → last < T i) ∧ c0 ≤ wh'.cur ∧ (wh'.cur = c0 ∨ (wh'.cur : Int) ≤ last) ∧ ((∀ i, ¬ R i) → wh'.cur = c0)) ∨
     (got ≠ [] ∧ (wh'.cur : Int) ≤ last ∧ (∀ i, R i → wh'.cur ≤ T i) ∧ ∀ i, i ∈ got ↔ R i ∧ T i = wh'.cur))

set_option maxHeartbeats 2000000 in
theorem expire_any (S : Nat) (tb : Nat → Nat) (n : Nat) (T : Nat → Nat) (z : Nat → Value) (R : Nat → Prop) (wh : Wh) (nx : Nat → Option Nat) (last : Int) (w : World)
    (hO : ¬ Own S tb n 2) (h2 : 2 < w.heap.size) (hRn : ∀ i, R i → i < n) (hc : wh.cur < 2 ^ 63) (h : Sta w S tb n T z R wh nx) :
    Calls Ybad.prog 12 #[.pointer (some ⟨S, 0, none⟩), .int .i64 last] w (ExpPost S tb n T z R wh.cur last w) := by
  have H2 : Hid (2 < w.heap.size) := h2
  have HR : Hid (∀ i, R i → i < n) := hRn
  have HC : Hid (wh.cur < 2 ^ 63) := hc
  have HST : Hid (Sta w S tb n T z R wh nx) := h
  clear h hc hRn h2
  go_enter Ybad.func12, Ybad.ntmps12
  go_wp2_with fail
  go_loopg [] 11 (fun k wr => ∃ wh' nx', Sta wr S tb n T z R wh' nx' ∧ Chg w wr (Own S tb n) ∧ wh.cur ≤ wh'.cur ∧ wh'.cur < 2 ^ 63 ∧ (wh'.cur = wh.cur ∨ (wh'.cur : Int) ≤ last) ∧ ((∀ l s, wh'.L l s = []) ∨ ∃ l s, l < k ∧ wh'.L l s ≠ []) ∧ ((∀ i, ¬ R i) → wh'.cur = wh.cur))
  case atStart =>
    refine ⟨wh, nx, HST.out, Chg.refl _ _, Nat.le_refl _, HC.out, .inl rfl, ?_, fun _ => rfl⟩
    by_cases he : ∀ l s, wh.L l s = []
    · exact .inl he
    · right
      refine Classical.byContradiction fun hne => he fun l s => ?_
      cases hx : wh.L l s with
      | nil => rfl
      | cons a t => exact absurd ⟨l, s, HST.out.inv.levlt (i := a) (by rw [hx]; exact List.mem_cons_self), by rw [hx]; simp⟩ hne
  case round =>
    obtain ⟨wh1, nx1, hst, hchg, hc1, hc2, hc3, hgk, hnone⟩ := hrel
    obtain ⟨pv, ps, occ, hm, hk⟩ := id hst.ex
    have hout : ∀ l s, ¬ (l < 11 ∧ s < 64) → wh1.L l s = [] := by
      intro l s hls
      cases hx : wh1.L l s with
      | nil => rfl
      | cons a t =>
        have ha : a ∈ wh1.L l s := by rw [hx]; exact List.mem_cons_self
        exact absurd ⟨hst.inv.levlt ha, hst.inv.slotlt ha⟩ hls
    rcases hk.first hout with ⟨hz, hempty⟩ | ⟨l, hl, hz, hn, he1, he2, he3, hs64⟩
    · have hF := first_none S tb wh1.cur occ wh1.L wr hm.s hz
      have HP : Hid (ExpPost S tb n T z R wh.cur last w (.returned (.pointer none)) wr) := by
        have hnR : ∀ i, ¬ R i := fun i hi => by have := hst.inv.place i hi; rw [hempty] at this; simp at this
        refine ⟨[], wh1, nx1, rfl, hchg, ⟨hst.ex, hst.inv.congr (fun i => by simp), hst.tab⟩, fun k i hk => by simp at hk, List.nodup_nil, .inl ⟨rfl, fun i hi => absurd hi (hnR i), hc1, hc3, hnone⟩⟩
      clear hst hm hk hgk hnone
      go_wp2_with (first | (go_at_call 24; refine hF.mono ?_; rintro e w' ⟨rfl, rfl⟩))
      go_ret
      exact HP.out
    · have mv := hst.inv.move he1 he2 he3
      obtain ⟨i0, hi0⟩ := List.exists_mem_of_ne_nil _ he3
      have hR0 := (hst.inv.only _ _ i0 hi0).1
      have ht0 : tickOf wh1.cur l (Lib.ctz 64 (occ l)) < 9223372036854775808 := Nat.lt_of_le_of_lt (mv.low i0 hR0) (hst.inv.lt i0 hR0)
      have hF := first_some S tb wh1.cur occ wh1.L l (Lib.ctz 64 (occ l)) wr hm.s hst.tab hl hz hn (hk.bnd l) rfl hc2 hs64 ht0
      generalize hsd : Lib.ctz 64 (occ l) = s at *
      generalize htd : tickOf wh1.cur l s = tick at *
      by_cases hlast : last < (tick : Int)
      · have HP : Hid (ExpPost S tb n T z R wh.cur last w (.returned (.pointer none)) wr) := by
          refine ⟨[], wh1, nx1, rfl, hchg, ⟨hst.ex, hst.inv.congr (fun i => by simp), hst.tab⟩, fun k i hk => by simp at hk, List.nodup_nil, .inl ⟨rfl, fun i hi => ?_, hc1, hc3, hnone⟩⟩
          have := mv.low i hi
          omega
        clear hst hm hk hgk hnone mv he1 he2 he3 hi0 hR0
        go_wp2_with (first | (go_at_call 24; refine hF.mono ?_; rintro e w' ⟨rfl, rfl⟩))
        go_ret
        exact HP.out
      · have hslot : slot tick l = s := by rw [← htd]; unfold slot; rw [tick_div]; omega
        have HS23 : Hid (∀ w, Calls Ybad.prog 23 #[.int .i64 tick, .int .i64 l] w fun e w' => e = .returned (.int .i64 s) ∧ w' = w) := fun w => by rw [← hslot]; exact slotOf_any tick l w ht0 hl
        have hand := andNot_bit (occ l) s (hk.bnd l) hs64
        have c0 := (hm.s.cell (i := 0) (by omega)).trans (congrArg some (slF_cur tb wh1.cur occ wh1.L))
        have co := (hm.s.cell (i := 1 + l) (by omega)).trans (congrArg some (slF_occ tb wh1.cur occ wh1.L l hl))
        have ch := (hm.s.cell (i := 12 + l * 64 + s) (by omega)).trans (congrArg some (slF_hd tb wh1.cur occ wh1.L l s hs64))
        have g0 := hm.s.free 0
        have go := hm.s.free (1 + l)
        have gh := hm.s.free (12 + l * 64 + s)
        have HB : Hid (Sta ((((wr.setCell ⟨S, 12 + l * 64 + s, none⟩ (.pointer none)).setCell ⟨S, 1 + l, none⟩ (.int .u64 ((occ l &&& (18446744073709551615 - 2 ^ s) : Nat) : Int))).setCell ⟨S, 0, none⟩ (.int .i64 (tick : Int))).drew) S tb n T z (fun i => R i ∧ i ∉ wh1.L l s) ⟨tick, updL wh1.L l s []⟩ nx1 ∧
            Chg w ((((wr.setCell ⟨S, 12 + l * 64 + s, none⟩ (.pointer none)).setCell ⟨S, 1 + l, none⟩ (.int .u64 ((occ l &&& (18446744073709551615 - 2 ^ s) : Nat) : Int))).setCell ⟨S, 0, none⟩ (.int .i64 (tick : Int))).drew) (Own S tb n)) := by
          have m1 := (((hm.setHd l s hs64 []).setOcc l (occ l &&& (18446744073709551615 - 2 ^ s)) hl).setCur tick).drew
          have c1 : Chg wr ((((wr.setCell ⟨S, 12 + l * 64 + s, none⟩ (.pointer none)).setCell ⟨S, 1 + l, none⟩ (.int .u64 ((occ l &&& (18446744073709551615 - 2 ^ s) : Nat) : Int))).setCell ⟨S, 0, none⟩ (.int .i64 (tick : Int))).drew) (Own S tb n) :=
            ((((Chg.refl wr (Own S tb n)).setCell (.inl (.inl rfl)) _).setCell (.inl (.inl rfl)) _).setCell (.inl (.inl rfl)) _).drew
          exact ⟨⟨⟨pv, ps, _, m1, hk.clear hl hs64⟩, htd ▸ mv.inv, tab_chg hst.tab (Nat.lt_of_lt_of_le H2.out hchg.size) c1 hO⟩, hchg.trans c1⟩
        have HX : Hid (Nxl nx1 (wh1.L l s) ∧ (wh1.L l s).Nodup ∧ (∀ i ∈ wh1.L l s, R i) ∧ wh1.L l s ≠ []) := ⟨fun k i h => hk.nxt l s k i h, hk.nd l s, fun i hi => (hst.inv.only l s i hi).1, he3⟩
        have HV : Hid (wh1.cur ≤ tick ∧ (∀ i, R i → tick ≤ T i) ∧ (l = 0 → ∀ i ∈ wh1.L l s, T i = tick) ∧ (l ≠ 0 → ∀ i ∈ wh1.L l s, lev (T i) tick < l) ∧ (∀ i, R i → i ∉ wh1.L l s → tick < T i)) :=
          ⟨htd ▸ mv.up, htd ▸ mv.low, htd ▸ mv.zero, htd ▸ mv.down, htd ▸ mv.beyond⟩
        have HG : Hid ((∀ l s, wh1.L l s = []) ∨ ∃ l s, l < gk ∧ wh1.L l s ≠ []) := hgk
        have HE : Hid (∀ l' s', l' < l → wh1.L l' s' = []) := he1
        have HC1 : Hid (wh.cur ≤ wh1.cur ∧ (last < (tick : Int) → False)) := ⟨hc1, hlast⟩
        clear hgk hnone mv he1 he2 he3 hst hm hk
        generalize hX : wh1.L l s = X at *
        generalize hq : (occ l &&& (18446744073709551615 - 2 ^ s)) = O2 at *
        generalize hpx : ptr tb X.head? = px at *
        by_cases h0 : l = 0
        · subst h0
          have HP : Hid (ExpPost S tb n T z R wh.cur last w (.returned px) ((((wr.setCell ⟨S, 12 + 0 * 64 + s, none⟩ (.pointer none)).setCell ⟨S, 1 + 0, none⟩ (.int .u64 (O2 : Int))).setCell ⟨S, 0, none⟩ (.int .i64 (tick : Int))).drew)) := by
            refine ⟨X, ⟨tick, updL wh1.L 0 s []⟩, nx1, by rw [hpx], HB.out.2, HB.out.1, HX.out.1, HX.out.2.1, .inr ⟨HX.out.2.2.2, ?_, HV.out.2.1, fun i => ⟨fun hi => ⟨HX.out.2.2.1 i hi, HV.out.2.2.1 rfl i hi⟩, fun hi => ?_⟩⟩⟩
            · show (tick : Int) ≤ last
              omega
            · refine Classical.byContradiction fun hne => ?_
              have := HV.out.2.2.2.2 i hi.1 hne
              have h2 : T i = tick := hi.2
              omega
          go_wp2_with (first | (go_at_call 24; refine hF.mono ?_; rintro e w' ⟨rfl, rfl⟩) | (go_at_call 23; refine (HS23.out _).mono ?_; rintro e w' ⟨rfl, rfl⟩))
          go_region
          go_wp2_with fail
          go_ret
          exact HP.out
        · have h0' : ((l : Int) == 0) = false := by simp; omega
          have hln : l < gk := by
            rcases HG.out with q | ⟨l', s', q1, q2⟩
            · exact absurd (by rw [← hX]; exact q l s) HX.out.2.2.2
            · refine Nat.lt_of_not_le fun hh => q2 (HE.out l' s' (by omega))
          go_wp2_with (first | (go_at_call 24; refine hF.mono ?_; rintro e w' ⟨rfl, rfl⟩) | (go_at_call 23; refine (HS23.out _).mono ?_; rintro e w' ⟨rfl, rfl⟩))
          go_region
          go_wp2_with fail
          go_loopg [10] X.length (fun k p wr2 => ∃ rest wh2 nx2, rest.length = k ∧ p = ptr tb rest.head? ∧ Sta wr2 S tb n T z (fun i => R i ∧ i ∉ rest) wh2 nx2 ∧ wh2.cur = tick ∧ Nxl nx2 rest ∧ rest.Nodup ∧ (∀ i ∈ rest, R i) ∧ Chg w wr2 (Own S tb n))
          case atStart => exact ⟨X, _, _, rfl, hpx.symm, HB.out.1, rfl, HX.out.1, HX.out.2.1, HX.out.2.2.1, HB.out.2⟩
          case round =>
            obtain ⟨rest, wh2, nx2, hlen, hp2, hst2, hcur2, hnx2, hnd2, hR2, hchg2⟩ := hrel
            cases rest with
            | nil =>
              have hp3 : ptr tb ([] : List Nat).head? = .pointer none := rfl
              rw [hp3] at hp2
              subst hp2
              have HS2 : Hid (∃ wh' nx', Sta wr S tb n T z R wh' nx' ∧ Chg w wr (Own S tb n) ∧ wh.cur ≤ wh'.cur ∧ wh'.cur < 2 ^ 63 ∧ (wh'.cur = wh.cur ∨ (wh'.cur : Int) ≤ last) ∧ ((∀ l s, wh'.L l s = []) ∨ ∃ l' s, l' < l ∧ wh'.L l' s ≠ []) ∧ ((∀ i, ¬ R i) → wh'.cur = wh.cur)) := by
                have hinv : Inv T R wh2 := hst2.inv.congr (fun i => by simp)
                obtain ⟨i1, hi1⟩ := List.exists_mem_of_ne_nil _ HX.out.2.2.2
                have hRi := HX.out.2.2.1 i1 hi1
                have hd := HV.out.2.2.2.1 h0 i1 hi1
                have hpl := hinv.place i1 hRi
                rw [hcur2] at hpl
                refine ⟨wh2, nx2, ⟨hst2.ex, hinv, hst2.tab⟩, hchg2, ?_, ?_, .inr ?_, .inr ⟨lev (T i1) tick, _, hd, fun e => by rw [e] at hpl; simp at hpl⟩, fun hno => absurd hRi (hno i1)⟩
                · have := HC1.out.1; have := HV.out.1; omega
                · rw [hcur2]; exact ht0
                · rw [hcur2]; have := HC1.out.2; omega
              clear hst2 hnx2 hR2 hchg2
              go_wp2_with fail
              go_roundg l
              case measure => exact hln
              case rel => exact HS2.out
            | cons i t =>
              have hin := HR.out i (hR2 i List.mem_cons_self)
              have hit : i ∉ t := (List.nodup_cons.1 hnd2).1
              have hTi := hst2.inv
              obtain ⟨pv2, ps2, occ2, hm2, hk2⟩ := id hst2.ex
              have c7 := (hm2.t i hin).cell (i := 7) (by omega)
              have hadd := hst2.add hin (hR2 i List.mem_cons_self) hit (by rw [hcur2]; exact HV.out.2.1 i (hR2 i List.mem_cons_self)) (HST.out.inv.lt i (hR2 i List.mem_cons_self)) hO (Nat.lt_of_lt_of_le H2.out hchg2.size)
              have hp3 : ptr tb (i :: t).head? = .pointer (some ⟨tb i, 0, none⟩) := rfl
              rw [hp3] at hp2
              subst hp2
              simp only [tmF] at c7
              simp [hnx2.head] at c7
              have HN : Hid (Nxl nx2 t ∧ t.Nodup ∧ (∀ j ∈ t, R j) ∧ (∀ j ∈ t, j ≠ i) ∧ Chg w wr (Own S tb n) ∧ wh2.cur = tick ∧ (i :: t).length = gk) := ⟨hnx2.tail, (List.nodup_cons.1 hnd2).2, fun j hj => hR2 j (List.mem_cons_of_mem _ hj), fun j hj e => hit (e ▸ hj), hchg2, hcur2, hlen⟩
              have HA : Hid _ := hadd
              clear hst2 hm2 hk2 hnx2 hR2 hchg2 hTi hadd hlen hnd2
              generalize hpt : ptr tb t.head? = pt at *
              go_wp2_with fail
              refine Calls.mono HA.out ?_
              rintro e w3 ⟨rfl, nx3, st3, hn3, c3⟩
              go_wp2_with fail
              go_roundg t.length
              case measure => have := HN.out.2.2.2.2.2.2; simp at this; omega
              case rel => exact ⟨t, _, nx3, rfl, hpt.symm, st3, HN.out.2.2.2.2.2.1, HN.out.1.congr (fun j hj => hn3 j (HN.out.2.2.2.1 j hj)), HN.out.2.1, HN.out.2.2.1, HN.out.2.2.2.2.1.trans c3⟩
end Go.Proofs.YbulkdgzaDoor
