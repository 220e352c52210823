/-
  LawS5408CWhole: from statement 16 to the end.
-/
import Derived.Test.YbulkdgzaS10
import Derived.Test.YbulkdgzaS5b
namespace Go.Proofs.Ybulkdgza
open Go.RowKit B
set_option linter.unusedVariables false
set_option linter.unusedSimpArgs false

set_option maxRecDepth 100000 in
set_option maxHeartbeats 400000 in
/-- dl0 -/
theorem st18g (Wb : Nat) (sl : Value) (n : Int) (arr : Array Value) (w : World) (K : Act → World → Prop) (Q : Exit → Act → World → Prop) (R : Ending → World → Prop) (v0 v1 v2 v3 v4 v5 v6 v7 v8 v9 v10 v11 v12 v13 v14 v15 v16 v17 v18 v19 v20 v21 v22 v23 v25 v26 v27 v28 v29 v30 v31 v32 v33 v34 v35 v36 v37 v38 v39 v40 v41 v42 v43 v44 v45 v46 v47 v48 v49 v50 v51 : Value)
    (c : w.cell? ⟨Wb, 725, none⟩ = some sl) (hlen : ∀ (W : World) (ty : TypeId), (Builtin.len_ #[53] ty #[sl]).run Yba.prog W = .ok (.int .i64 n) W)
    (hs : Fx arr v0 v1 v2 v3 v4 v5 v6 v7 v8 v9 v10 v11 v12 v13 v14 v15 v16 v17 v18 v19 v20 v21 v22 v23 (.pointer (some ⟨Wb, 0, none⟩)) v25 v26 v27 v28 v29 v30 v31 v32 v33 v34 v35 v36 v37 v38 v39 v40 v41 v42 v43 v44 v45 v46 v47 v48 v49 v50 v51)
    (HQ : Hid (∀ arr', Fx arr' v0 v1 v2 v3 v4 v5 v6 v7 v8 v9 v10 v11 v12 v13 v14 v15 v16 v17 v18 v19 v20 v21 v22 v23 (.pointer (some ⟨Wb, 0, none⟩)) v25 v26 v27 v28 v29 (.int .i64 n) v31 v32 v33 v34 v35 v36 v37 v38 v39 v40 v41 v42 v43 v44 v45 v46 v47 v48 v49 v50 v51 → K ⟨arr', []⟩ w)) :
    Code.wp Yba.prog (nav [1, 1, 1, 1, 1, 1, 1, 1, 1, 1, 1, 1, 1, 1, 1, 1, 1, 1, 0] (Yba.f3.body.getD .skip)) (Exit.then K (Qp Q R)) ⟨arr, []⟩ w := by
  refine hs.open (fun t => ?_)
  clear hs
  conv => arg 2; whnf
  go_wp2
  refine HQ.out _ ?_
  exact (Fx.mk rfl rfl rfl rfl rfl rfl rfl rfl rfl rfl rfl rfl rfl rfl rfl rfl rfl rfl rfl rfl rfl rfl rfl rfl rfl rfl rfl rfl rfl rfl rfl rfl rfl rfl rfl rfl rfl rfl rfl rfl rfl rfl rfl rfl rfl rfl rfl rfl rfl rfl rfl rfl rfl)

theorem hd_ptr (L : Lay) (tq : Option Nat) (k : Nat) : ∃ a, hdF L tq k = .pointer a := by
  unfold hdF
  split
  · exact ⟨_, rfl⟩
  · split <;> exact ⟨_, rfl⟩
theorem nx_ptr (L : Lay) (tq : Option Nat) : ∃ a, nxF L tq = .pointer a := by
  unfold nxF
  split <;> exact ⟨_, rfl⟩
theorem sl_cell (L : Lay) (s : Sta) (j : Nat) (hj : j < 716) : (j = 0 ∧ L.wh s (9 + j) = .int .i64 0) ∨ (∃ i a, i < 11 ∧ j = 1 + i ∧ L.wh s (9 + j) = .int .u64 a) ∨ (∃ i a, i < 704 ∧ j = 12 + i ∧ L.wh s (9 + j) = .pointer a) := by
  by_cases h0 : j = 0
  · subst h0; exact .inl ⟨rfl, rfl⟩
  by_cases h1 : j < 12
  · refine .inr (.inl ⟨j - 1, ((ocF L.oT s.tq (j - 1) : Nat) : Int), by omega, by omega, ?_⟩)
    rw [show 9 + j = 10 + (j - 1) by omega]
    exact wh_at_oc _ _ _ _ _ _ _ _ _ (j - 1) (by omega)
  · obtain ⟨a, ha⟩ := hd_ptr L s.tq (j - 12)
    refine .inr (.inr ⟨j - 12, a, by omega, by omega, ?_⟩)
    rw [show 9 + j = 21 + (j - 12) by omega]
    exact (wh_at_hd _ _ _ _ _ _ _ _ _ (j - 12) (by omega)).trans ha
theorem sl_one (L : Lay) (s : Sta) (j : Nat) (hj : j < 716) : (L.wh s (9 + j)).oneCell' = true := by
  rcases sl_cell L s j hj with ⟨_, h⟩ | ⟨_, _, _, _, h⟩ | ⟨_, _, _, _, h⟩ <;> rw [h] <;> rfl
theorem sl_eq (L : Lay) (s : Sta) (w : World) : (binOp .eql 51 (.agg ((List.range 716).map (fun j => L.wh s (9 + j))).toArray) (.agg ((List.range 716).map (fun j => L.wh s (9 + j))).toArray)).run Yba.prog w = .ok (.bool true) w := by
  have hx : ∀ j, j < 716 → ((List.range 716).map (fun j => L.wh s (9 + j))).toArray[j]? = some (L.wh s (9 + j)) := fun j hj => by
    rw [List.getElem?_toArray, List.getElem?_map, List.getElem?_range hj]; rfl
  have hz : ((List.range 716).map (fun j => L.wh s (9 + j))).toArray.size = 716 := by simp
  generalize ((List.range 716).map (fun j => L.wh s (9 + j))).toArray = C at *
  rw [run_eql_struct, eq51 9996 C C w hz hz ⟨0, hx 0 (by omega), hx 0 (by omega)⟩ ?_ ?_]
  · rfl
  · intro i hi
    rcases sl_cell L s (1 + i) (by omega) with ⟨h, _⟩ | ⟨_, a, _, _, h⟩ | ⟨i', _, _, e, _⟩
    · omega
    · exact ⟨a, by rw [hx _ (by omega), h], by rw [hx _ (by omega), h]⟩
    · omega
  · intro i hi
    rcases sl_cell L s (12 + i) (by omega) with ⟨h, _⟩ | ⟨_, a, _, _, h⟩ | ⟨_, a, _, e, h⟩
    · omega
    · omega
    · exact ⟨a, by rw [hx _ (by omega), h], by rw [hx _ (by omega), h]⟩
theorem Mem.rebase {L : Lay} {s : Sta} {w0 w : World} (M : Mem L s w0 w) : Mem L s w w := ⟨M.hW, M.hT, M.r.hC, M.r.hO, M.r.hH, Chg.refl _ _⟩
/-- Has it a channel? -/
def HasCh (L : Lay) (h : Bool) : Prop := (h = true ∧ ∃ j, L.ch = some j) ∨ (h = false ∧ L.ch = none)

set_option maxHeartbeats 4000000 in
/-- The wheel is closed. -/
theorem mid_shut {L : Lay} (ok : L.Ok) (off m : Nat) (d : Int) (hc : Bool) (s : Sta) (dlen : Int) (arr : Array Value) (w : World) (R : Ending → World → Prop) (v0 v4 v8 v10 v11 v12 v13 v14 v15 v16 v17 v18 v19 v20 v26 v28 v29 v30 v31 v32 v33 v34 v35 v36 v37 v38 v39 v40 v41 v42 v43 v44 v45 v46 v47 v48 v49 v50 v51 : Value)
    (hch : HasCh L hc) (hmu : s.mu = 0) (hcalls : s.calls = 0) (hf : L.ch = none → s.full = false) (hhi : L.hi ≤ w.heap.size) (hlen : ∀ (W : World) (ty : TypeId), (Builtin.len_ #[53] ty #[s.due]).run Yba.prog W = .ok (.int .i64 dlen) W) (M : Mem L s w w)
    (hs : Fx arr v0 (.int .i64 off) (.int .i64 d) (.int .u64 L.sq) v4 (.bool L.cl) (.bool hc) (.bool s.full) v8 (.int .i64 L.oT) v10 v11 v12 v13 v14 v15 v16 v17 v18 v19 v20 (.int .u8 ((m : Nat) : Int)) (.int .i64 L.tick) (.pointer (some ⟨L.Cb, 0, none⟩)) (.pointer (some ⟨L.Wb, 0, none⟩)) (.pointer (some ⟨L.Tb, 0, none⟩)) v26 (.pointer (some ⟨L.Ob, 0, none⟩)) v28 v29 v30 v31 v32 v33 v34 v35 v36 v37 v38 v39 v40 v41 v42 v43 v44 v45 v46 v47 v48 v49 v50 v51)
    (HQ : ∀ w', Chg w w' L.Own → R (.returned (.bool true)) w') (hcl : L.cl = true) :
    Code.wp Yba.prog (.seq (nav [1, 1, 1, 1, 1, 1, 1, 1, 1, 1, 1, 1, 1, 1, 1, 1, 0] (Yba.f3.body.getD .skip)) (.seq (nav [1, 1, 1, 1, 1, 1, 1, 1, 1, 1, 1, 1, 1, 1, 1, 1, 1, 0] (Yba.f3.body.getD .skip)) (.seq (nav [1, 1, 1, 1, 1, 1, 1, 1, 1, 1, 1, 1, 1, 1, 1, 1, 1, 1, 0] (Yba.f3.body.getD .skip)) (.seq (nav [1, 1, 1, 1, 1, 1, 1, 1, 1, 1, 1, 1, 1, 1, 1, 1, 1, 1, 1, 0] (Yba.f3.body.getD .skip)) (.seq (nav [1, 1, 1, 1, 1, 1, 1, 1, 1, 1, 1, 1, 1, 1, 1, 1, 1, 1, 1, 1, 0] (Yba.f3.body.getD .skip)) (.seq (nav [1, 1, 1, 1, 1, 1, 1, 1, 1, 1, 1, 1, 1, 1, 1, 1, 1, 1, 1, 1, 1, 0] (Yba.f3.body.getD .skip)) (.seq (nav [1, 1, 1, 1, 1, 1, 1, 1, 1, 1, 1, 1, 1, 1, 1, 1, 1, 1, 1, 1, 1, 1, 0] (Yba.f3.body.getD .skip)) (.seq (nav [1, 1, 1, 1, 1, 1, 1, 1, 1, 1, 1, 1, 1, 1, 1, 1, 1, 1, 1, 1, 1, 1, 1, 0] (Yba.f3.body.getD .skip)) (.seq (nav [1, 1, 1, 1, 1, 1, 1, 1, 1, 1, 1, 1, 1, 1, 1, 1, 1, 1, 1, 1, 1, 1, 1, 1, 0] (Yba.f3.body.getD .skip)) (.seq (nav [1, 1, 1, 1, 1, 1, 1, 1, 1, 1, 1, 1, 1, 1, 1, 1, 1, 1, 1, 1, 1, 1, 1, 1, 1, 0] (Yba.f3.body.getD .skip)) (.seq (nav [1, 1, 1, 1, 1, 1, 1, 1, 1, 1, 1, 1, 1, 1, 1, 1, 1, 1, 1, 1, 1, 1, 1, 1, 1, 1, 0] (Yba.f3.body.getD .skip)) (.seq (nav [1, 1, 1, 1, 1, 1, 1, 1, 1, 1, 1, 1, 1, 1, 1, 1, 1, 1, 1, 1, 1, 1, 1, 1, 1, 1, 1, 0] (Yba.f3.body.getD .skip)) (.seq (nav [1, 1, 1, 1, 1, 1, 1, 1, 1, 1, 1, 1, 1, 1, 1, 1, 1, 1, 1, 1, 1, 1, 1, 1, 1, 1, 1, 1, 0] (Yba.f3.body.getD .skip)) (.seq (nav [1, 1, 1, 1, 1, 1, 1, 1, 1, 1, 1, 1, 1, 1, 1, 1, 1, 1, 1, 1, 1, 1, 1, 1, 1, 1, 1, 1, 1, 0] (Yba.f3.body.getD .skip)) (.seq (nav [1, 1, 1, 1, 1, 1, 1, 1, 1, 1, 1, 1, 1, 1, 1, 1, 1, 1, 1, 1, 1, 1, 1, 1, 1, 1, 1, 1, 1, 1, 0] (Yba.f3.body.getD .skip)) (.seq (nav [1, 1, 1, 1, 1, 1, 1, 1, 1, 1, 1, 1, 1, 1, 1, 1, 1, 1, 1, 1, 1, 1, 1, 1, 1, 1, 1, 1, 1, 1, 1, 0] (Yba.f3.body.getD .skip)) (.seq (nav [1, 1, 1, 1, 1, 1, 1, 1, 1, 1, 1, 1, 1, 1, 1, 1, 1, 1, 1, 1, 1, 1, 1, 1, 1, 1, 1, 1, 1, 1, 1, 1, 0] (Yba.f3.body.getD .skip)) (.seq (nav [1, 1, 1, 1, 1, 1, 1, 1, 1, 1, 1, 1, 1, 1, 1, 1, 1, 1, 1, 1, 1, 1, 1, 1, 1, 1, 1, 1, 1, 1, 1, 1, 1, 0] (Yba.f3.body.getD .skip)) (.seq (nav [1, 1, 1, 1, 1, 1, 1, 1, 1, 1, 1, 1, 1, 1, 1, 1, 1, 1, 1, 1, 1, 1, 1, 1, 1, 1, 1, 1, 1, 1, 1, 1, 1, 1, 0] (Yba.f3.body.getD .skip)) (.seq (nav [1, 1, 1, 1, 1, 1, 1, 1, 1, 1, 1, 1, 1, 1, 1, 1, 1, 1, 1, 1, 1, 1, 1, 1, 1, 1, 1, 1, 1, 1, 1, 1, 1, 1, 1, 0] (Yba.f3.body.getD .skip)) (.seq (nav [1, 1, 1, 1, 1, 1, 1, 1, 1, 1, 1, 1, 1, 1, 1, 1, 1, 1, 1, 1, 1, 1, 1, 1, 1, 1, 1, 1, 1, 1, 1, 1, 1, 1, 1, 1, 0] (Yba.f3.body.getD .skip)) (.seq (nav [1, 1, 1, 1, 1, 1, 1, 1, 1, 1, 1, 1, 1, 1, 1, 1, 1, 1, 1, 1, 1, 1, 1, 1, 1, 1, 1, 1, 1, 1, 1, 1, 1, 1, 1, 1, 1, 0] (Yba.f3.body.getD .skip)) (.seq (nav [1, 1, 1, 1, 1, 1, 1, 1, 1, 1, 1, 1, 1, 1, 1, 1, 1, 1, 1, 1, 1, 1, 1, 1, 1, 1, 1, 1, 1, 1, 1, 1, 1, 1, 1, 1, 1, 1, 0] (Yba.f3.body.getD .skip)) (.seq (nav [1, 1, 1, 1, 1, 1, 1, 1, 1, 1, 1, 1, 1, 1, 1, 1, 1, 1, 1, 1, 1, 1, 1, 1, 1, 1, 1, 1, 1, 1, 1, 1, 1, 1, 1, 1, 1, 1, 1, 0] (Yba.f3.body.getD .skip)) (.seq (nav [1, 1, 1, 1, 1, 1, 1, 1, 1, 1, 1, 1, 1, 1, 1, 1, 1, 1, 1, 1, 1, 1, 1, 1, 1, 1, 1, 1, 1, 1, 1, 1, 1, 1, 1, 1, 1, 1, 1, 1, 0] (Yba.f3.body.getD .skip)) (.seq (nav [1, 1, 1, 1, 1, 1, 1, 1, 1, 1, 1, 1, 1, 1, 1, 1, 1, 1, 1, 1, 1, 1, 1, 1, 1, 1, 1, 1, 1, 1, 1, 1, 1, 1, 1, 1, 1, 1, 1, 1, 1, 0] (Yba.f3.body.getD .skip)) (.seq (nav [1, 1, 1, 1, 1, 1, 1, 1, 1, 1, 1, 1, 1, 1, 1, 1, 1, 1, 1, 1, 1, 1, 1, 1, 1, 1, 1, 1, 1, 1, 1, 1, 1, 1, 1, 1, 1, 1, 1, 1, 1, 1, 0] (Yba.f3.body.getD .skip)) (nav [1, 1, 1, 1, 1, 1, 1, 1, 1, 1, 1, 1, 1, 1, 1, 1, 1, 1, 1, 1, 1, 1, 1, 1, 1, 1, 1, 1, 1, 1, 1, 1, 1, 1, 1, 1, 1, 1, 1, 1, 1, 1, 1] (Yba.f3.body.getD .skip))))))))))))))))))))))))))))) (bodyPost Yba.prog Yba.f3 R) ⟨arr, []⟩ w := by
  have hone := sl_one L s
  refine seq_B (st16 L.Wb (L.wh s) arr w _ _ _ _ _ _ _ _ _ _ _ _ _ _ _ _ _ _ _ _ _ _ _ _ _ _ _ _ _ _ _ _ _ _ _ _ _ _ _ _ _ _ _ _ _ _ _ _ _ _ _ _ _ _ M.hW hone hs (fun arr16 w1 g f16 r1 e1 g1 => ?_))
  have M1 := M.same ok g1 (fun _ _ h => h) (fun _ h _ => h)
  refine seq_B (st17 L.Wb s.p arr16 w1 _ _ _ _ _ _ _ _ _ _ _ _ _ _ _ _ _ _ _ _ _ _ _ _ _ _ _ _ _ _ _ _ _ _ _ _ _ _ _ _ _ _ _ _ _ _ _ _ _ _ _ _ _ _ (M1.hW.cell (i := 726) (by omega)) f16 (fun arr17 f17 => ?_))
  refine seq_B (st18g L.Wb s.due dlen arr17 w1 _ _ _ _ _ _ _ _ _ _ _ _ _ _ _ _ _ _ _ _ _ _ _ _ _ _ _ _ _ _ _ _ _ _ _ _ _ _ _ _ _ _ _ _ _ _ _ _ _ _ _ _ _ _ (M1.hW.cell (i := 725) (by omega)) hlen f17 (fun arr18 f18 => ?_))
  refine seq_B (st19 L.Tb _ _ _ _ _ _ _ arr18 w1 _ _ _ _ _ _ _ _ _ _ _ _ _ _ _ _ _ _ _ _ _ _ _ _ _ _ _ _ _ _ _ _ _ _ _ _ _ _ _ _ _ _ _ _ _ _ _ _ _ _ _ _ _ _ (M1.hT.cell (i := 10) (by omega)) (M1.hT.cell (i := 4) (by omega)) (M1.hT.cell (i := 5) (by omega)) (M1.hT.cell (i := 6) (by omega)) (M1.hT.cell (i := 9) (by omega)) (M1.hT.cell (i := 7) (by omega)) (M1.hT.cell (i := 8) (by omega)) f18 (fun arr19 w19 f19 g19 => ?_))
  obtain ⟨q, rfl⟩ := g19
  have M2 := (M1.drewN q).rebase
  have r2 := r1.drewN q
  have g2 := g1.drewN q
  generalize w1.drewN q = w2 at M2 r2 g2 ⊢
  clear M1 r1 g1
  refine seq_B (st20 L.Tb d s.full (fun W => Mem L { s with full := false } w2 W) arr19 w2 _ _ _ _ _ _ _ _ _ _ _ _ _ _ _ _ _ _ _ _ _ _ _ _ _ _ _ _ _ _ _ _ _ _ _ _ _ _ _ _ _ _ _ _ _ _ _ _ _ _ _ _ _ (reset_shut ok hcl d s hmu hf M2) f19 (fun arr20 w3 f20 M3 => ?_))
  have r3 := r2.chg M3.r.chg (fun h => by have := h.2; omega)
  obtain ⟨x7, hx7⟩ := nx_ptr L s.tq
  have f20' := f20
  rw [hcl] at f20'
  rw [show L.tm s 7 = .pointer x7 from hx7] at f20'
  clear f20
  have f20 := f20'
  clear f20'
  rcases hch with ⟨rfl, j, hj⟩ | ⟨rfl, hj⟩
  · obtain ⟨a, b', hh⟩ := M3.r.hH j hj
    refine seq_B (st21y L.Tb j a b' arr20 w3 _ _ _ _ _ _ _ _ _ _ _ _ _ _ _ _ _ _ _ _ _ _ _ _ _ _ _ _ _ _ _ _ _ _ _ _ _ _ _ _ _ _ _ _ _ _ _ _ _ _ _ _ _ ((M3.hT.cell (i := 3) (by omega)).trans (by show some (Value.chan L.ch) = _; rw [hj])) hh f20 (fun arr21 f21 => ?_))
    refine seq_B (st22y L.Cb L.Wb L.Tb g s.full (L.wh s) s.due s.p dlen s.st s.dl s.tk s.sq s.ps x7 none arr21 w3 _ _ _ _ _ _ _ _ _ _ _ _ _ _ _ _ _ _ _ _ _ _ _ _ _ _ _ _ _ _ _ _ _ _ _ _ _ _ _ ((M3.r.hC.cell (i := 4) (by omega)).trans (by show some (Value.int .i64 ((s.calls : Nat) : Int)) = _; rw [hcalls]; rfl)) (M3.hW.cell (i := 726) (by omega)) (M3.hW.cell (i := 725) (by omega)) (M3.hT.cell (i := 10) (by omega)) (M3.hT.cell (i := 4) (by omega)) (M3.hT.cell (i := 5) (by omega)) (M3.hT.cell (i := 6) (by omega)) (M3.hT.cell (i := 9) (by omega)) ((M3.hT.cell (i := 7) (by omega)).trans (congrArg some hx7)) (M3.hT.cell (i := 8) (by omega)) _ (fun q => loadAt51 (M3.hW.drewN q) (o := 9) (by omega)) (fun q => by rw [loadAt51 (r3.drewN q) (o := 0) (by omega)]; simp only [Nat.zero_add]) (fun q => sl_eq L s _) hlen f21 (fun arr22 w22 f22 g22 => ?_))
    obtain ⟨q, rfl⟩ := g22
    exact ret_true f22 (HQ _ (((g2.mono (fun _ _ h => h.elim)).trans M3.r.chg).drewN q))
  · refine seq_B (st21n  arr20 w3 _ _ _ _ _ _ _ _ _ _ _ _ _ _ _ _ _ _ _ _ _ _ _ _ _ _ _ _ _ _ _ _ _ _ _ _ _ _ _ _ _ _ _ _ _ _ _ _ _ _ _ _ _ _ f20 (fun arr21 f21 => ?_))
    refine seq_B (st22y L.Cb L.Wb L.Tb g s.full (L.wh s) s.due s.p dlen s.st s.dl s.tk s.sq s.ps x7 none arr21 w3 _ _ _ _ _ _ _ _ _ _ _ _ _ _ _ _ _ _ _ _ _ _ _ _ _ _ _ _ _ _ _ _ _ _ _ _ _ _ _ ((M3.r.hC.cell (i := 4) (by omega)).trans (by show some (Value.int .i64 ((s.calls : Nat) : Int)) = _; rw [hcalls]; rfl)) (M3.hW.cell (i := 726) (by omega)) (M3.hW.cell (i := 725) (by omega)) (M3.hT.cell (i := 10) (by omega)) (M3.hT.cell (i := 4) (by omega)) (M3.hT.cell (i := 5) (by omega)) (M3.hT.cell (i := 6) (by omega)) (M3.hT.cell (i := 9) (by omega)) ((M3.hT.cell (i := 7) (by omega)).trans (congrArg some hx7)) (M3.hT.cell (i := 8) (by omega)) _ (fun q => loadAt51 (M3.hW.drewN q) (o := 9) (by omega)) (fun q => by rw [loadAt51 (r3.drewN q) (o := 0) (by omega)]; simp only [Nat.zero_add]) (fun q => sl_eq L s _) hlen f21 (fun arr22 w22 f22 g22 => ?_))
    obtain ⟨q, rfl⟩ := g22
    exact ret_true f22 (HQ _ (((g2.mono (fun _ _ h => h.elim)).trans M3.r.chg).drewN q))


set_option maxHeartbeats 4000000 in
/-- The wheel is open. -/
theorem mid_open {L : Lay} (ok : L.Ok) (off m : Nat) (d : Int) (hc : Bool) (s : Sta) (dlen : Int) (arr : Array Value) (w : World) (R : Ending → World → Prop) (v0 v4 v8 v10 v11 v12 v13 v14 v15 v16 v17 v18 v19 v20 v26 v28 v29 v30 v31 v32 v33 v34 v35 v36 v37 v38 v39 v40 v41 v42 v43 v44 v45 v46 v47 v48 v49 v50 v51 : Value)
    (hch : HasCh L hc) (hmu : s.mu = 0) (hcalls : s.calls = 0) (hf : L.ch = none → s.full = false) (hhi : L.hi ≤ w.heap.size) (hlen : ∀ (W : World) (ty : TypeId), (Builtin.len_ #[53] ty #[s.due]).run Yba.prog W = .ok (.int .i64 dlen) W) (M : Mem L s w w)
    (hs : Fx arr v0 (.int .i64 off) (.int .i64 d) (.int .u64 L.sq) v4 (.bool L.cl) (.bool hc) (.bool s.full) v8 (.int .i64 L.oT) v10 v11 v12 v13 v14 v15 v16 v17 v18 v19 v20 (.int .u8 ((m : Nat) : Int)) (.int .i64 L.tick) (.pointer (some ⟨L.Cb, 0, none⟩)) (.pointer (some ⟨L.Wb, 0, none⟩)) (.pointer (some ⟨L.Tb, 0, none⟩)) v26 (.pointer (some ⟨L.Ob, 0, none⟩)) v28 v29 v30 v31 v32 v33 v34 v35 v36 v37 v38 v39 v40 v41 v42 v43 v44 v45 v46 v47 v48 v49 v50 v51)
    (HQ : ∀ w', Chg w w' L.Own → R (.returned (.bool true)) w') (hcl : L.cl = false)
    (du : Nat) (due' : Value) (dl' tk' sq' ps' : Int) (b : Bool) (ho : off < 9223372036854775808) (hn : off % 1000000000 = L.n) (hsec : off / 1000000000 = L.s) (h3 : -9223372036854775808 ≤ d) (h4 : d ≤ 9223372036854775807) (ht : 0 < L.tick) (ht2 : L.tick ≤ 9223372036854775807) (hdu : du ≤ 9223372036854775807) (hm : max (off : Int) (dlV off d) = (du : Int))
    (hdue : ∀ (W : World) (ty : TypeId), (Builtin.len_ #[53] ty #[due']).run Yba.prog W = .ok (.int .i64 0) W) (hwant : (m = 0 ∧ s.full = b) ∨ (m = 1 ∧ b = true) ∨ (m = 2 ∧ b = true))
    (HD : ∀ W, Chg w W (fun _ => False) → Mem L s W W → Calls Yba.prog 18 #[.pointer (some ⟨L.Wb, 0, none⟩), .pointer (some ⟨L.Tb, 0, none⟩)] (W.setCell ⟨L.Wb, 7, none⟩ (.int .i32 1)) fun e w' => e = .returned (.bool b) ∧ Mem L ⟨0, 1, due', 1, none, dl', tk', sq', ps', 0, false⟩ W w') :
    Code.wp Yba.prog (.seq (nav [1, 1, 1, 1, 1, 1, 1, 1, 1, 1, 1, 1, 1, 1, 1, 1, 0] (Yba.f3.body.getD .skip)) (.seq (nav [1, 1, 1, 1, 1, 1, 1, 1, 1, 1, 1, 1, 1, 1, 1, 1, 1, 0] (Yba.f3.body.getD .skip)) (.seq (nav [1, 1, 1, 1, 1, 1, 1, 1, 1, 1, 1, 1, 1, 1, 1, 1, 1, 1, 0] (Yba.f3.body.getD .skip)) (.seq (nav [1, 1, 1, 1, 1, 1, 1, 1, 1, 1, 1, 1, 1, 1, 1, 1, 1, 1, 1, 0] (Yba.f3.body.getD .skip)) (.seq (nav [1, 1, 1, 1, 1, 1, 1, 1, 1, 1, 1, 1, 1, 1, 1, 1, 1, 1, 1, 1, 0] (Yba.f3.body.getD .skip)) (.seq (nav [1, 1, 1, 1, 1, 1, 1, 1, 1, 1, 1, 1, 1, 1, 1, 1, 1, 1, 1, 1, 1, 0] (Yba.f3.body.getD .skip)) (.seq (nav [1, 1, 1, 1, 1, 1, 1, 1, 1, 1, 1, 1, 1, 1, 1, 1, 1, 1, 1, 1, 1, 1, 0] (Yba.f3.body.getD .skip)) (.seq (nav [1, 1, 1, 1, 1, 1, 1, 1, 1, 1, 1, 1, 1, 1, 1, 1, 1, 1, 1, 1, 1, 1, 1, 0] (Yba.f3.body.getD .skip)) (.seq (nav [1, 1, 1, 1, 1, 1, 1, 1, 1, 1, 1, 1, 1, 1, 1, 1, 1, 1, 1, 1, 1, 1, 1, 1, 0] (Yba.f3.body.getD .skip)) (.seq (nav [1, 1, 1, 1, 1, 1, 1, 1, 1, 1, 1, 1, 1, 1, 1, 1, 1, 1, 1, 1, 1, 1, 1, 1, 1, 0] (Yba.f3.body.getD .skip)) (.seq (nav [1, 1, 1, 1, 1, 1, 1, 1, 1, 1, 1, 1, 1, 1, 1, 1, 1, 1, 1, 1, 1, 1, 1, 1, 1, 1, 0] (Yba.f3.body.getD .skip)) (.seq (nav [1, 1, 1, 1, 1, 1, 1, 1, 1, 1, 1, 1, 1, 1, 1, 1, 1, 1, 1, 1, 1, 1, 1, 1, 1, 1, 1, 0] (Yba.f3.body.getD .skip)) (.seq (nav [1, 1, 1, 1, 1, 1, 1, 1, 1, 1, 1, 1, 1, 1, 1, 1, 1, 1, 1, 1, 1, 1, 1, 1, 1, 1, 1, 1, 0] (Yba.f3.body.getD .skip)) (.seq (nav [1, 1, 1, 1, 1, 1, 1, 1, 1, 1, 1, 1, 1, 1, 1, 1, 1, 1, 1, 1, 1, 1, 1, 1, 1, 1, 1, 1, 1, 0] (Yba.f3.body.getD .skip)) (.seq (nav [1, 1, 1, 1, 1, 1, 1, 1, 1, 1, 1, 1, 1, 1, 1, 1, 1, 1, 1, 1, 1, 1, 1, 1, 1, 1, 1, 1, 1, 1, 0] (Yba.f3.body.getD .skip)) (.seq (nav [1, 1, 1, 1, 1, 1, 1, 1, 1, 1, 1, 1, 1, 1, 1, 1, 1, 1, 1, 1, 1, 1, 1, 1, 1, 1, 1, 1, 1, 1, 1, 0] (Yba.f3.body.getD .skip)) (.seq (nav [1, 1, 1, 1, 1, 1, 1, 1, 1, 1, 1, 1, 1, 1, 1, 1, 1, 1, 1, 1, 1, 1, 1, 1, 1, 1, 1, 1, 1, 1, 1, 1, 0] (Yba.f3.body.getD .skip)) (.seq (nav [1, 1, 1, 1, 1, 1, 1, 1, 1, 1, 1, 1, 1, 1, 1, 1, 1, 1, 1, 1, 1, 1, 1, 1, 1, 1, 1, 1, 1, 1, 1, 1, 1, 0] (Yba.f3.body.getD .skip)) (.seq (nav [1, 1, 1, 1, 1, 1, 1, 1, 1, 1, 1, 1, 1, 1, 1, 1, 1, 1, 1, 1, 1, 1, 1, 1, 1, 1, 1, 1, 1, 1, 1, 1, 1, 1, 0] (Yba.f3.body.getD .skip)) (.seq (nav [1, 1, 1, 1, 1, 1, 1, 1, 1, 1, 1, 1, 1, 1, 1, 1, 1, 1, 1, 1, 1, 1, 1, 1, 1, 1, 1, 1, 1, 1, 1, 1, 1, 1, 1, 0] (Yba.f3.body.getD .skip)) (.seq (nav [1, 1, 1, 1, 1, 1, 1, 1, 1, 1, 1, 1, 1, 1, 1, 1, 1, 1, 1, 1, 1, 1, 1, 1, 1, 1, 1, 1, 1, 1, 1, 1, 1, 1, 1, 1, 0] (Yba.f3.body.getD .skip)) (.seq (nav [1, 1, 1, 1, 1, 1, 1, 1, 1, 1, 1, 1, 1, 1, 1, 1, 1, 1, 1, 1, 1, 1, 1, 1, 1, 1, 1, 1, 1, 1, 1, 1, 1, 1, 1, 1, 1, 0] (Yba.f3.body.getD .skip)) (.seq (nav [1, 1, 1, 1, 1, 1, 1, 1, 1, 1, 1, 1, 1, 1, 1, 1, 1, 1, 1, 1, 1, 1, 1, 1, 1, 1, 1, 1, 1, 1, 1, 1, 1, 1, 1, 1, 1, 1, 0] (Yba.f3.body.getD .skip)) (.seq (nav [1, 1, 1, 1, 1, 1, 1, 1, 1, 1, 1, 1, 1, 1, 1, 1, 1, 1, 1, 1, 1, 1, 1, 1, 1, 1, 1, 1, 1, 1, 1, 1, 1, 1, 1, 1, 1, 1, 1, 0] (Yba.f3.body.getD .skip)) (.seq (nav [1, 1, 1, 1, 1, 1, 1, 1, 1, 1, 1, 1, 1, 1, 1, 1, 1, 1, 1, 1, 1, 1, 1, 1, 1, 1, 1, 1, 1, 1, 1, 1, 1, 1, 1, 1, 1, 1, 1, 1, 0] (Yba.f3.body.getD .skip)) (.seq (nav [1, 1, 1, 1, 1, 1, 1, 1, 1, 1, 1, 1, 1, 1, 1, 1, 1, 1, 1, 1, 1, 1, 1, 1, 1, 1, 1, 1, 1, 1, 1, 1, 1, 1, 1, 1, 1, 1, 1, 1, 1, 0] (Yba.f3.body.getD .skip)) (.seq (nav [1, 1, 1, 1, 1, 1, 1, 1, 1, 1, 1, 1, 1, 1, 1, 1, 1, 1, 1, 1, 1, 1, 1, 1, 1, 1, 1, 1, 1, 1, 1, 1, 1, 1, 1, 1, 1, 1, 1, 1, 1, 1, 0] (Yba.f3.body.getD .skip)) (nav [1, 1, 1, 1, 1, 1, 1, 1, 1, 1, 1, 1, 1, 1, 1, 1, 1, 1, 1, 1, 1, 1, 1, 1, 1, 1, 1, 1, 1, 1, 1, 1, 1, 1, 1, 1, 1, 1, 1, 1, 1, 1, 1] (Yba.f3.body.getD .skip))))))))))))))))))))))))))))) (bodyPost Yba.prog Yba.f3 R) ⟨arr, []⟩ w := by
  have hone := sl_one L s
  refine seq_B (st16 L.Wb (L.wh s) arr w _ _ _ _ _ _ _ _ _ _ _ _ _ _ _ _ _ _ _ _ _ _ _ _ _ _ _ _ _ _ _ _ _ _ _ _ _ _ _ _ _ _ _ _ _ _ _ _ _ _ _ _ _ _ M.hW hone hs (fun arr16 w1 g f16 r1 e1 g1 => ?_))
  have M1 := M.same ok g1 (fun _ _ h => h) (fun _ h _ => h)
  refine seq_B (st17 L.Wb s.p arr16 w1 _ _ _ _ _ _ _ _ _ _ _ _ _ _ _ _ _ _ _ _ _ _ _ _ _ _ _ _ _ _ _ _ _ _ _ _ _ _ _ _ _ _ _ _ _ _ _ _ _ _ _ _ _ _ (M1.hW.cell (i := 726) (by omega)) f16 (fun arr17 f17 => ?_))
  refine seq_B (st18g L.Wb s.due dlen arr17 w1 _ _ _ _ _ _ _ _ _ _ _ _ _ _ _ _ _ _ _ _ _ _ _ _ _ _ _ _ _ _ _ _ _ _ _ _ _ _ _ _ _ _ _ _ _ _ _ _ _ _ _ _ _ _ (M1.hW.cell (i := 725) (by omega)) hlen f17 (fun arr18 f18 => ?_))
  refine seq_B (st19 L.Tb _ _ _ _ _ _ _ arr18 w1 _ _ _ _ _ _ _ _ _ _ _ _ _ _ _ _ _ _ _ _ _ _ _ _ _ _ _ _ _ _ _ _ _ _ _ _ _ _ _ _ _ _ _ _ _ _ _ _ _ _ _ _ _ _ (M1.hT.cell (i := 10) (by omega)) (M1.hT.cell (i := 4) (by omega)) (M1.hT.cell (i := 5) (by omega)) (M1.hT.cell (i := 6) (by omega)) (M1.hT.cell (i := 9) (by omega)) (M1.hT.cell (i := 7) (by omega)) (M1.hT.cell (i := 8) (by omega)) f18 (fun arr19 w19 f19 g19 => ?_))
  obtain ⟨q, rfl⟩ := g19
  have M2 := (M1.drewN q).rebase
  have r2 := r1.drewN q
  have g2 := g1.drewN q
  generalize w1.drewN q = w2 at M2 r2 g2 ⊢
  clear M1 r1 g1
  refine seq_B (st20 L.Tb d b (fun W => Mem L ⟨1, 0, due', 2, some (ftV L.tick du), dlV off d, ftV L.tick du, L.sq, kix (ftV L.tick du), 1, false⟩ w2 W) arr19 w2 _ _ _ _ _ _ _ _ _ _ _ _ _ _ _ _ _ _ _ _ _ _ _ _ _ _ _ _ _ _ _ _ _ _ _ _ _ _ _ _ _ _ _ _ _ _ _ _ _ _ _ _ _ (reset_go ok hcl off du d ho hn hsec h3 ht ht2 hdu hm s hmu b M2 (HD w2 g2 M2)) f19 (fun arr20 w3 f20 M3 => ?_))
  have f20' := f20
  rw [hcl] at f20'
  clear f20
  have f20 := f20'
  clear f20'
  rcases hch with ⟨rfl, j, hj⟩ | ⟨rfl, hj⟩
  · obtain ⟨a, b', hh⟩ := M3.r.hH j hj
    refine seq_B (st21y L.Tb j a b' arr20 w3 _ _ _ _ _ _ _ _ _ _ _ _ _ _ _ _ _ _ _ _ _ _ _ _ _ _ _ _ _ _ _ _ _ _ _ _ _ _ _ _ _ _ _ _ _ _ _ _ _ _ _ _ _ ((M3.hT.cell (i := 3) (by omega)).trans (by show some (Value.chan L.ch) = _; rw [hj])) hh f20 (fun arr21 f21 => ?_))
    refine seq_B (st22n  arr21 w3 _ _ _ _ _ _ _ _ _ _ _ _ _ _ _ _ _ _ _ _ _ _ _ _ _ _ _ _ _ _ _ _ _ _ _ _ _ _ _ _ _ _ _ _ _ _ _ _ _ _ _ _ _ _ f21 (fun arr22 f22 => ?_))
    rcases hwant with ⟨rfl, hb⟩ | ⟨rfl, hb⟩ | ⟨rfl, hb⟩
    · subst hb
      refine seq_B (st23c _ arr22 w3 _ _ _ _ _ _ _ _ _ _ _ _ _ _ _ _ _ _ _ _ _ _ _ _ _ _ _ _ _ _ _ _ _ _ _ _ _ _ _ _ _ _ _ _ _ _ _ _ _ _ _ _ _ f22 (fun arr23 f23 => ?_))
      exact open_end ok off du d _ due' arr23 _ _ _ _ _ _ _ _ _ _ _ _ _ _ _ _ _ _ _ _ _ _ _ _ _ _ _ _ _ _ _ _ _ _ _ _ _ _ _ _ _ _ _ _ ho h3 h4 ht hdu hm M3 hdue f23 (fun w' h => HQ _ (((g2.mono (fun _ _ h => h.elim)).trans M3.r.chg).trans (h.mono (fun _ _ h => h.elim))))
    · subst hb
      refine seq_B (st23a  arr22 w3 _ _ _ _ _ _ _ _ _ _ _ _ _ _ _ _ _ _ _ _ _ _ _ _ _ _ _ _ _ _ _ _ _ _ _ _ _ _ _ _ _ _ _ _ _ _ _ _ _ _ _ _ _ _ f22 (fun arr23 f23 => ?_))
      exact open_end ok off du d _ due' arr23 _ _ _ _ _ _ _ _ _ _ _ _ _ _ _ _ _ _ _ _ _ _ _ _ _ _ _ _ _ _ _ _ _ _ _ _ _ _ _ _ _ _ _ _ ho h3 h4 ht hdu hm M3 hdue f23 (fun w' h => HQ _ (((g2.mono (fun _ _ h => h.elim)).trans M3.r.chg).trans (h.mono (fun _ _ h => h.elim))))
    · subst hb
      refine seq_B (st23b  arr22 w3 _ _ _ _ _ _ _ _ _ _ _ _ _ _ _ _ _ _ _ _ _ _ _ _ _ _ _ _ _ _ _ _ _ _ _ _ _ _ _ _ _ _ _ _ _ _ _ _ _ _ _ _ _ _ f22 (fun arr23 f23 => ?_))
      exact open_end ok off du d _ due' arr23 _ _ _ _ _ _ _ _ _ _ _ _ _ _ _ _ _ _ _ _ _ _ _ _ _ _ _ _ _ _ _ _ _ _ _ _ _ _ _ _ _ _ _ _ ho h3 h4 ht hdu hm M3 hdue f23 (fun w' h => HQ _ (((g2.mono (fun _ _ h => h.elim)).trans M3.r.chg).trans (h.mono (fun _ _ h => h.elim))))
  · refine seq_B (st21n  arr20 w3 _ _ _ _ _ _ _ _ _ _ _ _ _ _ _ _ _ _ _ _ _ _ _ _ _ _ _ _ _ _ _ _ _ _ _ _ _ _ _ _ _ _ _ _ _ _ _ _ _ _ _ _ _ _ f20 (fun arr21 f21 => ?_))
    refine seq_B (st22n  arr21 w3 _ _ _ _ _ _ _ _ _ _ _ _ _ _ _ _ _ _ _ _ _ _ _ _ _ _ _ _ _ _ _ _ _ _ _ _ _ _ _ _ _ _ _ _ _ _ _ _ _ _ _ _ _ _ f21 (fun arr22 f22 => ?_))
    rcases hwant with ⟨rfl, hb⟩ | ⟨rfl, hb⟩ | ⟨rfl, hb⟩
    · subst hb
      refine seq_B (st23c _ arr22 w3 _ _ _ _ _ _ _ _ _ _ _ _ _ _ _ _ _ _ _ _ _ _ _ _ _ _ _ _ _ _ _ _ _ _ _ _ _ _ _ _ _ _ _ _ _ _ _ _ _ _ _ _ _ f22 (fun arr23 f23 => ?_))
      exact open_end ok off du d _ due' arr23 _ _ _ _ _ _ _ _ _ _ _ _ _ _ _ _ _ _ _ _ _ _ _ _ _ _ _ _ _ _ _ _ _ _ _ _ _ _ _ _ _ _ _ _ ho h3 h4 ht hdu hm M3 hdue f23 (fun w' h => HQ _ (((g2.mono (fun _ _ h => h.elim)).trans M3.r.chg).trans (h.mono (fun _ _ h => h.elim))))
    · subst hb
      refine seq_B (st23a  arr22 w3 _ _ _ _ _ _ _ _ _ _ _ _ _ _ _ _ _ _ _ _ _ _ _ _ _ _ _ _ _ _ _ _ _ _ _ _ _ _ _ _ _ _ _ _ _ _ _ _ _ _ _ _ _ _ f22 (fun arr23 f23 => ?_))
      exact open_end ok off du d _ due' arr23 _ _ _ _ _ _ _ _ _ _ _ _ _ _ _ _ _ _ _ _ _ _ _ _ _ _ _ _ _ _ _ _ _ _ _ _ _ _ _ _ _ _ _ _ ho h3 h4 ht hdu hm M3 hdue f23 (fun w' h => HQ _ (((g2.mono (fun _ _ h => h.elim)).trans M3.r.chg).trans (h.mono (fun _ _ h => h.elim))))
    · subst hb
      refine seq_B (st23b  arr22 w3 _ _ _ _ _ _ _ _ _ _ _ _ _ _ _ _ _ _ _ _ _ _ _ _ _ _ _ _ _ _ _ _ _ _ _ _ _ _ _ _ _ _ _ _ _ _ _ _ _ _ _ _ _ _ f22 (fun arr23 f23 => ?_))
      exact open_end ok off du d _ due' arr23 _ _ _ _ _ _ _ _ _ _ _ _ _ _ _ _ _ _ _ _ _ _ _ _ _ _ _ _ _ _ _ _ _ _ _ _ _ _ _ _ _ _ _ _ ho h3 h4 ht hdu hm M3 hdue f23 (fun w' h => HQ _ (((g2.mono (fun _ _ h => h.elim)).trans M3.r.chg).trans (h.mono (fun _ _ h => h.elim))))


end Go.Proofs.Ybulkdgza
