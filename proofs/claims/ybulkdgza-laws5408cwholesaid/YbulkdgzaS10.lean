/-
  LawS5408CWhole: the open wheel, from statement 24 to the end.
-/
import Derived.Test.YbulkdgzaS9
namespace Go.Proofs.Ybulkdgza
open Go.RowKit B
set_option linter.unusedVariables false
set_option linter.unusedSimpArgs false

theorem und53 : Yba.prog.underlying 53 = some (.slice 47) := by kernel_rfl
theorem lenS (p : Option Addr) (n k : Nat) : ∀ (W : World) (ty : TypeId), (Builtin.len_ #[53] ty #[.slice p n k]).run Yba.prog W = .ok (.int .i64 n) W := by
  intro W ty
  simp [Builtin.len_, go_sem, run_underlying und53]
theorem hd_at (L : Lay) (n l s lt st lo so : Nat) (hs : s < 64) (hst : st < 64) (hso : so < 64) (kn : kix n = lt * 64 + st) (ko : kix L.oT = lo * 64 + so) : hdF L (some n) (l * 64 + s) = .pointer (if l = lt ∧ s = st then some ⟨L.Tb, 0, none⟩ else if l = lo ∧ s = so then some ⟨L.Ob, 0, none⟩ else none) := by
  unfold hdF
  rw [ko]
  simp only [Option.map_some, Option.some.injEq, kn]
  by_cases h : l = lt ∧ s = st
  · rw [if_pos h, if_pos (by omega)]
  · rw [if_neg h, if_neg (by omega)]
    by_cases h2 : l = lo ∧ s = so
    · rw [if_pos h2, if_pos (by omega)]
    · rw [if_neg h2, if_neg (by omega)]
theorem oc_words (oT n lt st lo so j : Nat) (hlt : lev n 0 = lt) (hst : slot n (lev n 0) = st) (hlo : lev oT 0 = lo) (hso : slot oT (lev oT 0) = so) :
    upd (upd (fun _ => Value.int .u64 0) lt (.int .u64 ((0 ||| 2 ^ st : Nat) : Int))) lo (.int .u64 (((if lo = lt then 0 ||| 2 ^ st else 0) ||| 2 ^ so : Nat) : Int)) j = .int .u64 ((ocF oT (some n) j : Nat) : Int) := by
  unfold ocF upd
  rw [hso, hlo]
  rw [hlt] at hst
  simp only [hlt, hst]
  by_cases h : j = lo
  · subst h
    by_cases g : j = lt
    · subst g
      simp only [if_true, Nat.zero_or]
      rw [Nat.or_comm]
    · simp only [if_true, if_neg g, Nat.zero_or, Nat.or_zero]
  · by_cases g : j = lt
    · subst g
      simp only [if_true, if_neg h, Nat.zero_or]
    · simp only [if_neg h, if_neg g, Nat.or_self]; rfl

set_option maxHeartbeats 4000000 in
/-- The wheel is open: what the law asks behind Reset. -/
theorem open_end {L : Lay} (ok : L.Ok) (off du : Nat) (d : Int) (b : Bool) (due : Value) (arr : Array Value) (w0 w : World) (R : Ending → World → Prop) (v0 v4 v5 v6 v7 v8 v10 v11 v12 v13 v14 v15 v16 v17 v18 v19 v20 v21 v26 v28 v29 v30 v31 v32 v33 v34 v35 v36 v37 v40 v41 v42 v43 v44 v45 v46 v47 v48 v49 v50 v51 : Value)
    (ho : off < 9223372036854775808) (h3 : -9223372036854775808 ≤ d) (h4 : d ≤ 9223372036854775807) (ht : 0 < L.tick) (hdu : du ≤ 9223372036854775807) (hm : max (off : Int) (dlV off d) = (du : Int))
    (M : Mem L ⟨1, 0, due, 2, some (ftV L.tick du), dlV off d, ftV L.tick du, L.sq, kix (ftV L.tick du), 1, false⟩ w0 w)
    (hdue : ∀ (W : World) (ty : TypeId), (Builtin.len_ #[53] ty #[due]).run Yba.prog W = .ok (.int .i64 0) W)
    (hs : Fx arr v0 (.int .i64 off) (.int .i64 d) (.int .u64 L.sq) v4 v5 v6 v7 v8 (.int .i64 L.oT) v10 v11 v12 v13 v14 v15 v16 v17 v18 v19 v20 v21 (.int .i64 L.tick) (.pointer (some ⟨L.Cb, 0, none⟩)) (.pointer (some ⟨L.Wb, 0, none⟩)) (.pointer (some ⟨L.Tb, 0, none⟩)) v26 (.pointer (some ⟨L.Ob, 0, none⟩)) v28 v29 v30 v31 v32 v33 v34 v35 v36 v37 (.bool b) (.bool b) v40 v41 v42 v43 v44 v45 v46 v47 v48 v49 v50 v51)
    (HQ : ∀ w', Chg w w' (fun _ => False) → R (.returned (.bool true)) w') :
    Code.wp Yba.prog (.seq (nav [1, 1, 1, 1, 1, 1, 1, 1, 1, 1, 1, 1, 1, 1, 1, 1, 1, 1, 1, 1, 1, 1, 1, 1, 0] (Yba.f3.body.getD .skip)) (.seq (nav [1, 1, 1, 1, 1, 1, 1, 1, 1, 1, 1, 1, 1, 1, 1, 1, 1, 1, 1, 1, 1, 1, 1, 1, 1, 0] (Yba.f3.body.getD .skip)) (.seq (nav [1, 1, 1, 1, 1, 1, 1, 1, 1, 1, 1, 1, 1, 1, 1, 1, 1, 1, 1, 1, 1, 1, 1, 1, 1, 1, 0] (Yba.f3.body.getD .skip)) (.seq (nav [1, 1, 1, 1, 1, 1, 1, 1, 1, 1, 1, 1, 1, 1, 1, 1, 1, 1, 1, 1, 1, 1, 1, 1, 1, 1, 1, 0] (Yba.f3.body.getD .skip)) (.seq (nav [1, 1, 1, 1, 1, 1, 1, 1, 1, 1, 1, 1, 1, 1, 1, 1, 1, 1, 1, 1, 1, 1, 1, 1, 1, 1, 1, 1, 0] (Yba.f3.body.getD .skip)) (.seq (nav [1, 1, 1, 1, 1, 1, 1, 1, 1, 1, 1, 1, 1, 1, 1, 1, 1, 1, 1, 1, 1, 1, 1, 1, 1, 1, 1, 1, 1, 0] (Yba.f3.body.getD .skip)) (.seq (nav [1, 1, 1, 1, 1, 1, 1, 1, 1, 1, 1, 1, 1, 1, 1, 1, 1, 1, 1, 1, 1, 1, 1, 1, 1, 1, 1, 1, 1, 1, 0] (Yba.f3.body.getD .skip)) (.seq (nav [1, 1, 1, 1, 1, 1, 1, 1, 1, 1, 1, 1, 1, 1, 1, 1, 1, 1, 1, 1, 1, 1, 1, 1, 1, 1, 1, 1, 1, 1, 1, 0] (Yba.f3.body.getD .skip)) (.seq (nav [1, 1, 1, 1, 1, 1, 1, 1, 1, 1, 1, 1, 1, 1, 1, 1, 1, 1, 1, 1, 1, 1, 1, 1, 1, 1, 1, 1, 1, 1, 1, 1, 0] (Yba.f3.body.getD .skip)) (.seq (nav [1, 1, 1, 1, 1, 1, 1, 1, 1, 1, 1, 1, 1, 1, 1, 1, 1, 1, 1, 1, 1, 1, 1, 1, 1, 1, 1, 1, 1, 1, 1, 1, 1, 0] (Yba.f3.body.getD .skip)) (.seq (nav [1, 1, 1, 1, 1, 1, 1, 1, 1, 1, 1, 1, 1, 1, 1, 1, 1, 1, 1, 1, 1, 1, 1, 1, 1, 1, 1, 1, 1, 1, 1, 1, 1, 1, 0] (Yba.f3.body.getD .skip)) (.seq (nav [1, 1, 1, 1, 1, 1, 1, 1, 1, 1, 1, 1, 1, 1, 1, 1, 1, 1, 1, 1, 1, 1, 1, 1, 1, 1, 1, 1, 1, 1, 1, 1, 1, 1, 1, 0] (Yba.f3.body.getD .skip)) (.seq (nav [1, 1, 1, 1, 1, 1, 1, 1, 1, 1, 1, 1, 1, 1, 1, 1, 1, 1, 1, 1, 1, 1, 1, 1, 1, 1, 1, 1, 1, 1, 1, 1, 1, 1, 1, 1, 0] (Yba.f3.body.getD .skip)) (.seq (nav [1, 1, 1, 1, 1, 1, 1, 1, 1, 1, 1, 1, 1, 1, 1, 1, 1, 1, 1, 1, 1, 1, 1, 1, 1, 1, 1, 1, 1, 1, 1, 1, 1, 1, 1, 1, 1, 0] (Yba.f3.body.getD .skip)) (.seq (nav [1, 1, 1, 1, 1, 1, 1, 1, 1, 1, 1, 1, 1, 1, 1, 1, 1, 1, 1, 1, 1, 1, 1, 1, 1, 1, 1, 1, 1, 1, 1, 1, 1, 1, 1, 1, 1, 1, 0] (Yba.f3.body.getD .skip)) (.seq (nav [1, 1, 1, 1, 1, 1, 1, 1, 1, 1, 1, 1, 1, 1, 1, 1, 1, 1, 1, 1, 1, 1, 1, 1, 1, 1, 1, 1, 1, 1, 1, 1, 1, 1, 1, 1, 1, 1, 1, 0] (Yba.f3.body.getD .skip)) (.seq (nav [1, 1, 1, 1, 1, 1, 1, 1, 1, 1, 1, 1, 1, 1, 1, 1, 1, 1, 1, 1, 1, 1, 1, 1, 1, 1, 1, 1, 1, 1, 1, 1, 1, 1, 1, 1, 1, 1, 1, 1, 0] (Yba.f3.body.getD .skip)) (.seq (nav [1, 1, 1, 1, 1, 1, 1, 1, 1, 1, 1, 1, 1, 1, 1, 1, 1, 1, 1, 1, 1, 1, 1, 1, 1, 1, 1, 1, 1, 1, 1, 1, 1, 1, 1, 1, 1, 1, 1, 1, 1, 0] (Yba.f3.body.getD .skip)) (.seq (nav [1, 1, 1, 1, 1, 1, 1, 1, 1, 1, 1, 1, 1, 1, 1, 1, 1, 1, 1, 1, 1, 1, 1, 1, 1, 1, 1, 1, 1, 1, 1, 1, 1, 1, 1, 1, 1, 1, 1, 1, 1, 1, 0] (Yba.f3.body.getD .skip)) (nav [1, 1, 1, 1, 1, 1, 1, 1, 1, 1, 1, 1, 1, 1, 1, 1, 1, 1, 1, 1, 1, 1, 1, 1, 1, 1, 1, 1, 1, 1, 1, 1, 1, 1, 1, 1, 1, 1, 1, 1, 1, 1, 1] (Yba.f3.body.getD .skip))))))))))))))))))))) (bodyPost Yba.prog Yba.f3 R) ⟨arr, []⟩ w := by
  have hn : ftV L.tick du < 9223372036854775808 := by have := ft_le L.tick du ht; omega
  refine seq_B (st24 _ arr w _ _ _ _ _ _ _ _ _ _ _ _ _ _ _ _ _ _ _ _ _ _ _ _ _ _ _ _ _ _ _ _ _ _ _ _ _ _ _ _ _ _ _ _ _ _ _ _ _ _ _ _ _ _ hs (fun arr24 f24 => ?_))
  refine t25 off d _ arr24 w _ _ _ _ _ _ _ _ _ _ _ _ _ _ _ _ _ _ _ _ _ _ _ _ _ _ _ _ _ _ _ _ _ _ _ _ _ _ _ _ _ _ _ _ _ _ _ _ _ _ _ ho h3 h4 f24 (fun arr26 f26 => ?_)
  refine t27 off du (dlV off d) _ arr26 w _ _ _ _ _ _ _ _ _ _ _ _ _ _ _ _ _ _ _ _ _ _ _ _ _ _ _ _ _ _ _ _ _ _ _ _ _ _ _ _ _ _ _ _ _ _ _ _ _ _ _ hm f26 (fun arr28 f28 => ?_)
  refine t29 du L.tick _ arr28 w _ _ _ _ _ _ _ _ _ _ _ _ _ _ _ _ _ _ _ _ _ _ _ _ _ _ _ _ _ _ _ _ _ _ _ _ _ _ _ _ _ _ _ _ _ _ _ _ _ _ _ ht hdu f28 (fun arr30 f30 => ?_)
  generalize hN : ftV L.tick du = n at *
  obtain ⟨lt, hlt⟩ : ∃ x, lev n 0 = x := ⟨_, rfl⟩
  obtain ⟨st, hst⟩ : ∃ x, slot n (lev n 0) = x := ⟨_, rfl⟩
  obtain ⟨lo, hlo⟩ : ∃ x, lev L.oT 0 = x := ⟨_, rfl⟩
  obtain ⟨so, hso⟩ : ∃ x, slot L.oT (lev L.oT 0) = x := ⟨_, rfl⟩
  have bl : lt < 11 := by rw [← hlt]; exact kix_lt n hn
  have bs : st < 64 := by rw [← hst]; exact slot_lt _ _
  have bl2 : lo < 11 := by rw [← hlo]; exact kix_lt L.oT ok.oT
  have bs2 : so < 64 := by rw [← hso]; exact slot_lt _ _
  have kn : kix n = lt * 64 + st := by unfold kix; rw [hst, hlt]
  have ko : kix L.oT = lo * 64 + so := by unfold kix; rw [hso, hlo]
  refine seq_B (st31 L.Cb L.Tb b (dlV off d) n L.sq arr30 w _ _ _ _ _ _ _ _ _ _ _ _ _ _ _ _ _ _ _ _ _ _ _ _ _ _ _ _ _ _ _ _ _ _ _ _ _ _ _ _ _ _ _ _ _ _ _ _ (M.r.hC.cell (i := 4) (by omega)) (M.hT.cell (i := 10) (by omega)) (M.hT.cell (i := 4) (by omega)) (M.hT.cell (i := 5) (by omega)) (M.hT.cell (i := 6) (by omega)) f30 (fun arr31 f31 => ?_))
  refine seq_B (st32 L.Wb due arr31 w _ _ _ _ _ _ _ _ _ _ _ _ _ _ _ _ _ _ _ _ _ _ _ _ _ _ _ _ _ _ _ _ _ _ _ _ _ _ _ _ _ _ _ _ _ _ _ _ _ _ _ _ _ _ (M.hW.cell (i := 726) (by omega)) (M.hW.cell (i := 725) (by omega)) (M.hW.cell (i := 9) (by omega)) hdue f31 (fun arr32 f32 => ?_))
  refine seq_B (st33 n lt st arr32 w _ _ _ _ _ _ _ _ _ _ _ _ _ _ _ _ _ _ _ _ _ _ _ _ _ _ _ _ _ _ _ _ _ _ _ _ _ _ _ _ _ _ _ _ _ _ _ _ _ _ _ _ _ _ (by have := place_any n w hn; rw [hst, hlt] at this; exact this) f32 (fun arr33 f33 => ?_))
  refine seq_B (st34 L.oT lo so arr33 w _ _ _ _ _ _ _ _ _ _ _ _ _ _ _ _ _ _ _ _ _ _ _ _ _ _ _ _ _ _ _ _ _ _ _ _ _ _ _ _ _ _ _ _ _ _ _ _ _ _ _ _ _ _ (by have := place_any L.oT w ok.oT; rw [hso, hlo] at this; exact this) f33 (fun arr34 f34 => ?_))
  refine seq_B (st35 L.Tb L.Ob lt st lo so arr34 w _ _ _ _ _ _ _ _ _ _ _ _ _ _ _ _ _ _ _ _ _ _ _ _ _ _ _ _ _ _ _ _ _ _ _ _ _ _ _ _ _ _ _ _ _ _ _ _ _ bl bs bl2 bs2 ((M.hT.cell (i := 9) (by omega)).trans (by show some (Value.int .i32 ((kix n : Nat) : Int)) = _; rw [kn]; simp)) ((M.r.hO.cell (i := 9) (by omega)).trans (by show some (Value.int .i32 ((kix L.oT : Nat) : Int)) = _; rw [ko]; simp)) (M.r.hO.cell (i := 10) (by omega)) f34 (fun arr35 f35 => ?_))
  refine seq_B (st36  arr35 w _ _ _ _ _ _ _ _ _ _ _ _ _ _ _ _ _ _ _ _ _ _ _ _ _ _ _ _ _ _ _ _ _ _ _ _ _ _ _ _ _ _ _ _ _ _ _ _ _ _ _ _ _ _ _ f35 (fun arr36 w1 Xb f36 rX eX gX => ?_))
  have cX1 := (rX.set lt (.int .u64 ((0 ||| 2 ^ st : Nat) : Int)))
  refine seq_B (st37 Xb lt st 0 _ arr36 w1 _ _ _ _ _ _ _ _ _ _ _ _ _ _ _ _ _ _ _ _ _ _ _ _ _ _ _ _ _ _ _ _ _ _ _ _ _ _ _ _ _ _ _ _ _ _ _ _ _ _ _ _ bl bs (by omega) (rX.cell (i := lt) bl) (rX.free lt) rfl f36 (fun arr37 f37 => ?_))
  have cV : (upd (fun _ => Value.int .u64 0) lt (.int .u64 ((0 ||| 2 ^ st : Nat) : Int))) lo = .int .u64 ((if lo = lt then 0 ||| 2 ^ st else 0 : Nat) : Int) := by
    unfold upd
    by_cases h : lo = lt
    · rw [if_pos h, if_pos h]
    · rw [if_neg h, if_neg h]; rfl
  have hO2 : (if lo = lt then 0 ||| 2 ^ st else 0) < 18446744073709551616 := by
    split
    · rw [Nat.zero_or]; exact Nat.pow_lt_pow_right (a := 2) (n := 64) (by omega) bs
    · omega
  refine seq_B (st38 Xb lo so _ _ arr37 _ _ _ _ _ _ _ _ _ _ _ _ _ _ _ _ _ _ _ _ _ _ _ _ _ _ _ _ _ _ _ _ _ _ _ _ _ _ _ _ _ _ _ _ _ _ _ _ _ _ _ _ _ bl2 bs2 hO2 ((cX1.cell (i := lo) bl2).trans (congrArg some cV)) (cX1.free lo) rfl f37 (fun arr38 f38 => ?_))
  have cX2 := (cX1.set lo (.int .u64 (((if lo = lt then 0 ||| 2 ^ st else 0) ||| 2 ^ so : Nat) : Int)))
  have cg : Chg w ((w1.setCell ⟨Xb, lt, none⟩ (.int .u64 ((0 ||| 2 ^ st : Nat) : Int))).setCell ⟨Xb, lo, none⟩ (.int .u64 (((if lo = lt then 0 ||| 2 ^ st else 0) ||| 2 ^ so : Nat) : Int))) (fun _ => False) := (gX.setCell (.inr (by show w.heap.size ≤ Xb; omega)) _).setCell (.inr (by show w.heap.size ≤ Xb; omega)) _
  generalize ((w1.setCell ⟨Xb, lt, none⟩ (.int .u64 ((0 ||| 2 ^ st : Nat) : Int))).setCell ⟨Xb, lo, none⟩ (.int .u64 (((if lo = lt then 0 ||| 2 ^ st else 0) ||| 2 ^ so : Nat) : Int))) = w3 at cX2 cg ⊢
  have M3 := M.same ok cg (fun _ _ h => h) (fun _ h _ => h)
  have HE : ∀ q, (binOp .neq 46 (.agg ((List.range 11).map (fun j => L.wh ⟨1, 0, due, 2, some n, dlV off d, n, L.sq, kix n, 1, false⟩ (10 + j))).toArray) (.agg ((List.range 11).map (fun j => (upd (upd (fun _ => Value.int .u64 0) lt (.int .u64 ((0 ||| 2 ^ st : Nat) : Int))) lo (.int .u64 (((if lo = lt then 0 ||| 2 ^ st else 0) ||| 2 ^ so : Nat) : Int))) (0 + j))).toArray)).run Yba.prog (w3.drewN q) = .ok (.bool false) (w3.drewN q) := fun q => by
    rw [run_neq_struct, eq46 9998 _ _ _ (fun i hi => ⟨((ocF L.oT (some n) i : Nat) : Int), by
      rw [List.getElem?_toArray, List.getElem?_map, List.getElem?_range hi]
      exact congrArg some (wh_at_oc _ _ _ _ _ _ _ _ _ i hi), by
      rw [List.getElem?_toArray, List.getElem?_map, List.getElem?_range hi]
      simp only [Option.map_some, Nat.zero_add]
      rw [oc_words L.oT n lt st lo so i hlt hst hlo hso]⟩)]
    rfl
  refine seq_B (st39 L.Wb Xb _ _ arr38 w3 _ _ _ _ _ _ _ _ _ _ _ _ _ _ _ _ _ _ _ _ _ _ _ _ _ _ _ _ _ _ _ _ _ _ _ _ _ _ _ _ _ _ _ _ _ _ _ _ _ _ _ _ _ (fun q => loadAt46 (M3.hW.drewN q) (o := 10) (by omega)) (fun q => loadAt46 (cX2.drewN q) (o := 0) (by omega)) HE f38 (fun arr39 w39 f39 g39 => ?_))
  obtain ⟨q, rfl⟩ := g39
  have M4 := M3.drewN q
  have cg4 := cg.drewN q
  generalize w3.drewN q = w4 at M4 cg4 ⊢
  clear HE M3 cX2 cX1 rX cg
  refine seq_B (st40 L.Wb L.Tb L.Ob lt st lo so arr39 w4 _ _ _ _ _ _ _ _ _ _ _ _ _ _ _ _ _ _ _ _ _ _ _ _ _ _ _ _ _ _ _ _ _ _ _ _ _ _ _ _ _ _ _ _ _ _ _ _ (fun l s hl hs => ⟨_, (M4.hW.cell (i := 21 + l * 64 + s) (by omega)).trans (congrArg some ((by rw [Nat.add_assoc]; exact (wh_at_hd _ _ _ _ _ _ _ _ _ (l * 64 + s) (by omega)).trans (hd_at L n l s lt st lo so hs bs bs2 kn ko)))), rfl⟩) f39 (fun arr40 u49 u50 u51 f40 => ?_))
  refine seq_B (st41 L.Tb L.Ob arr40 w4 _ _ _ _ _ _ _ _ _ _ _ _ _ _ _ _ _ _ _ _ _ _ _ _ _ _ _ _ _ _ _ _ _ _ _ _ _ _ _ _ _ _ _ _ _ _ _ _ _ _ _ _ _ (M4.hT.cell (i := 8) (by omega)) (M4.r.hO.cell (i := 7) (by omega)) f40 (fun arr41 f41 => ?_))
  have R4 := HQ _ cg4
  by_cases e : kix n = kix L.oT
  · obtain ⟨e1, e2⟩ := (kix_eq n L.oT).1 e
    rw [hlt, hlo] at e1
    rw [hst, hso] at e2
    subst e1
    subst e2
    refine seq_B (st42y L.Tb L.Ob lt st arr41 w4 _ _ _ _ _ _ _ _ _ _ _ _ _ _ _ _ _ _ _ _ _ _ _ _ _ _ _ _ _ _ _ _ _ _ _ _ _ _ _ _ _ _ _ _ _ _ _ _ _ ((M4.hT.cell (i := 7) (by omega)).trans (by show some (nxF L (some n)) = _; unfold nxF; simp [e])) ((M4.r.hO.cell (i := 8) (by omega)).trans (by show some (pvF L (some n)) = _; unfold pvF; simp [e])) f41 (fun arr42 f42 => ?_))
    exact ret_true f42 R4
  · have c7 : w4.cell? ⟨L.Tb, 7, none⟩ = some (.pointer none) := by
      refine (M4.hT.cell (i := 7) (by omega)).trans ?_
      show some (nxF L (some n)) = _
      unfold nxF; simp [e]
    have d8 : w4.cell? ⟨L.Ob, 8, none⟩ = some (.pointer none) := by
      refine (M4.r.hO.cell (i := 8) (by omega)).trans ?_
      show some (pvF L (some n)) = _
      unfold pvF; simp [e]
    by_cases e1 : lt = lo
    · subst e1
      have e2 : ¬ st = so := fun h => e (by rw [kn, ko, h])
      refine seq_B (st42m lt st so arr41 w4 _ _ _ _ _ _ _ _ _ _ _ _ _ _ _ _ _ _ _ _ _ _ _ _ _ _ _ _ _ _ _ _ _ _ _ _ _ _ _ _ _ _ _ _ _ _ _ _ _ _ _ (by simp; omega) f41 (fun arr42 f42 => ?_))
      refine wp_last (of_Qp (fun _ _ _ h => h) (st43 L.Tb L.Ob arr42 w4 _ _ _ _ _ _ _ _ _ _ _ _ _ _ _ _ _ _ _ _ _ _ _ _ _ _ _ _ _ _ _ _ _ _ _ _ _ _ _ _ _ _ _ _ _ _ _ _ _ _ _ _ _ c7 d8 f42 (fun arr43 f43 => ?_)))
      exact ret_true f43 R4
    · refine seq_B (st42n lt st lo so arr41 w4 _ _ _ _ _ _ _ _ _ _ _ _ _ _ _ _ _ _ _ _ _ _ _ _ _ _ _ _ _ _ _ _ _ _ _ _ _ _ _ _ _ _ _ _ _ _ _ _ _ _ _ (by simp; omega) f41 (fun arr42 f42 => ?_))
      refine wp_last (of_Qp (fun _ _ _ h => h) (st43 L.Tb L.Ob arr42 w4 _ _ _ _ _ _ _ _ _ _ _ _ _ _ _ _ _ _ _ _ _ _ _ _ _ _ _ _ _ _ _ _ _ _ _ _ _ _ _ _ _ _ _ _ _ _ _ _ _ _ _ _ _ c7 d8 f42 (fun arr43 f43 => ?_)))
      exact ret_true f43 R4

end Go.Proofs.Ybulkdgza
