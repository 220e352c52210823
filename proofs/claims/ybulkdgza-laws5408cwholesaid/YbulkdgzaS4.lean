/-
  LawS5408CWhole, its statements 16 to 20.
-/
import Derived.Test.YbulkdgzaMem3
import Derived.Test.YbulkdgzaEq
import Derived.Deep.WholeRow
import Derived.Conc.LoneSelectN
namespace Go.Proofs.Ybulkdgza
open Go.RowKit B
set_option linter.unusedVariables false
set_option linter.unusedSimpArgs false

theorem add_off (b i j : Nat) : (⟨b, i, none⟩ : Addr).add j = ⟨b, i + j, none⟩ := by unfold Addr.add; split <;> simp_all
theorem info51 : (Yba.prog.info? 51).map (·.size) = some 716 := by kernel_rfl
theorem size51 : Yba.zeroCells51.size = 716 := by kernel_rfl
/-- The slots struct out of the wheel. -/
theorem load51 {w : World} {b o n : Nat} {E : TypeId} {f : Nat → Value} (h : RowF w b E n f) (hn : o + 716 ≤ n) : (loadVar 51 ⟨b, o, none⟩).run Yba.prog w = .ok (.agg ((List.range 716).map (fun j => f (o + j))).toArray) w := by
  have hl := run_loadCells (P := Yba.prog) w ⟨b, o, none⟩ 716 (fun j => f (o + j)) (fun j hj => by rw [add_off]; exact h.cell (by omega))
  cases hq : Yba.prog.info? 51 with
  | none => have := info51; rw [hq] at this; cases this
  | some i =>
    have hs : i.size = 716 := by have := info51; rw [hq] at this; simpa using this
    simp [loadVar, isAgg, sizeOf, typeInfo, run_underlying und51, hq, hs, hl]
theorem loadAt51 {w : World} {b o n : Nat} {E : TypeId} {f : Nat → Value} (h : RowF w b E n f) (hn : o + 716 ≤ n) : (Instr.loadAt 51 (.pointer (some ⟨b, o, none⟩))).run Yba.prog w = .ok (.agg ((List.range 716).map (fun j => f (o + j))).toArray) w := by
  simp only [Instr.loadAt, Instr.sureAddr, Sem.run_bind, Sem.run_pure, Result.andThen]
  exact load51 h hn
section
variable {P : Program} {a : Act} {w w' : World} {K : Act → World → Prop} {Q : Exit → Act → World → Prop} {dst : Option Tmp} {ty : TypeId} {pos : String} {aft : Array Edge} {g : Option (Nat × Bool)}
theorem wp_ld {t : TypeId} {p : Operand} {x v : Value} (hx : a.eval p = x) (hl : (Instr.loadAt t x).run P w = .ok v w) (hk : K (a.put dst v) w) : Oper.wp P { dst := dst, op := .load t p, type := ty, pos := pos, after := aft, guard := g } a w K Q := by
  have : (execOp a.eval { dst := dst, op := .load t p, type := ty, pos := pos, after := aft, guard := g }).run P w = .ok (.value v) w := by
    simp only [execOp, hx, Sem.run_bind, hl, Result.andThen_ok]; rfl
  unfold Oper.wp; rw [this]; exact hk
theorem wp_st {t : TypeId} {p q : Operand} {x y : Value} (hx : a.eval p = x) (hy : a.eval q = y) (hl : (Instr.storeAt t x y).run P w = .ok () w') (hk : K (a.put dst undef) w') : Oper.wp P { dst := dst, op := .store t p q, type := ty, pos := pos, after := aft, guard := g } a w K Q := by
  have : (execOp a.eval { dst := dst, op := .store t p q, type := ty, pos := pos, after := aft, guard := g }).run P w = .ok .skip w' := by
    simp only [execOp, hx, hy, Sem.run_bind, hl, Result.andThen_ok]; rfl
  unfold Oper.wp; rw [this]; exact hk
end

set_option maxRecDepth 100000 in
set_option maxHeartbeats 400000 in
/-- s0 -/
theorem st16 (Wb : Nat) (f : Nat → Value) (arr : Array Value) (w : World) (K : Act → World → Prop) (Q : Exit → Act → World → Prop) (R : Ending → World → Prop) (v0 v1 v2 v3 v4 v5 v6 v7 v8 v9 v10 v11 v12 v13 v14 v15 v16 v17 v18 v19 v20 v21 v22 v23 v25 v26 v27 v28 v29 v30 v31 v32 v33 v34 v35 v36 v37 v38 v39 v40 v41 v42 v43 v44 v45 v46 v47 v48 v49 v50 v51 : Value)
    (hW : RowF w Wb 55 729 f) (h1 : ∀ j, j < 716 → (f (9 + j)).oneCell' = true)
    (hs : Fx arr v0 v1 v2 v3 v4 v5 v6 v7 v8 v9 v10 v11 v12 v13 v14 v15 v16 v17 v18 v19 v20 v21 v22 v23 (.pointer (some ⟨Wb, 0, none⟩)) v25 v26 v27 v28 v29 v30 v31 v32 v33 v34 v35 v36 v37 v38 v39 v40 v41 v42 v43 v44 v45 v46 v47 v48 v49 v50 v51)
    (HQ : Hid (∀ arr' w' g, Fx arr' v0 v1 v2 v3 v4 v5 v6 v7 v8 v9 v10 v11 v12 v13 v14 v15 v16 v17 v18 v19 v20 v21 v22 v23 (.pointer (some ⟨Wb, 0, none⟩)) v25 v26 v27 (.pointer (some ⟨g, 0, none⟩)) v29 v30 v31 v32 v33 v34 v35 v36 v37 v38 v39 v40 v41 v42 v43 v44 v45 v46 v47 v48 v49 v50 v51 → RowF w' g 51 716 (fun j => f (9 + j)) → w.heap.size = g → Chg w w' (fun _ => False) → K ⟨arr', []⟩ w')) :
    Code.wp Yba.prog (nav [1, 1, 1, 1, 1, 1, 1, 1, 1, 1, 1, 1, 1, 1, 1, 1, 0] (Yba.f3.body.getD .skip)) (Exit.then K (Qp Q R)) ⟨arr, []⟩ w := by
  refine hs.open (fun t => ?_)
  clear hs
  conv => arg 2; whnf
  obtain ⟨C, hC⟩ : ∃ C, C = ((List.range 716).map (fun j => f (9 + j))).toArray := ⟨_, rfl⟩
  have hld := loadAt51 hW (o := 9) (by omega)
  rw [← hC] at hld
  have hlv := load51 hW (o := 9) (by omega)
  rw [← hC] at hlv
  have hst := run_storeCells_new (P := Yba.prog) w 51 Yba.zeroCells51 C (by rw [hC]; simp [info51]) (by rw [hC]; simp [size51]) (by
    rw [hC, Array.all_eq_true]
    intro i hi
    simp
    exact h1 i (by simpa using hi))
  have HF : Hid (∀ i, i < 716 → C[i]? = some (f (9 + i))) := fun i hi => by rw [hC]; simp [hi]
  have HS : Hid (C.size = 716) := by rw [hC]; show Hid (_ = _); simp [Hid]
  clear hC hW h1
  go_wp2
  rename_i K1 hK1
  refine wp_ld (x := .pointer (some ⟨Wb, 9, none⟩)) (v := .agg C) rfl hld (hK1 _ _ ?_)
  clear hK1 hlv hld K1
  go_wp2
  refine HQ.out _ _ w.heap.size ?_ ?_ rfl ?_
  · exact (Fx.mk rfl rfl rfl rfl rfl rfl rfl rfl rfl rfl rfl rfl rfl rfl rfl rfl rfl rfl rfl rfl rfl rfl rfl rfl rfl rfl rfl rfl rfl rfl rfl rfl rfl rfl rfl rfl rfl rfl rfl rfl rfl rfl rfl rfl rfl rfl rfl rfl rfl rfl rfl rfl rfl)
  · exact RowF.newA w 51 C 716 (fun j => f (9 + j)) HS.out HF.out
  · exact (Chg.refl w (fun _ => False)).alloc _

set_option maxRecDepth 100000 in
set_option maxHeartbeats 400000 in
/-- p0 -/
theorem st17 (Wb : Nat) (p : Int) (arr : Array Value) (w : World) (K : Act → World → Prop) (Q : Exit → Act → World → Prop) (R : Ending → World → Prop) (v0 v1 v2 v3 v4 v5 v6 v7 v8 v9 v10 v11 v12 v13 v14 v15 v16 v17 v18 v19 v20 v21 v22 v23 v25 v26 v27 v28 v29 v30 v31 v32 v33 v34 v35 v36 v37 v38 v39 v40 v41 v42 v43 v44 v45 v46 v47 v48 v49 v50 v51 : Value)
    (c : w.cell? ⟨Wb, 726, none⟩ = some (.int .i64 p))
    (hs : Fx arr v0 v1 v2 v3 v4 v5 v6 v7 v8 v9 v10 v11 v12 v13 v14 v15 v16 v17 v18 v19 v20 v21 v22 v23 (.pointer (some ⟨Wb, 0, none⟩)) v25 v26 v27 v28 v29 v30 v31 v32 v33 v34 v35 v36 v37 v38 v39 v40 v41 v42 v43 v44 v45 v46 v47 v48 v49 v50 v51)
    (HQ : Hid (∀ arr', Fx arr' v0 v1 v2 v3 v4 v5 v6 v7 v8 v9 v10 v11 v12 v13 v14 v15 v16 v17 v18 v19 v20 v21 v22 v23 (.pointer (some ⟨Wb, 0, none⟩)) v25 v26 v27 v28 (.int .i64 p) v30 v31 v32 v33 v34 v35 v36 v37 v38 v39 v40 v41 v42 v43 v44 v45 v46 v47 v48 v49 v50 v51 → K ⟨arr', []⟩ w)) :
    Code.wp Yba.prog (nav [1, 1, 1, 1, 1, 1, 1, 1, 1, 1, 1, 1, 1, 1, 1, 1, 1, 0] (Yba.f3.body.getD .skip)) (Exit.then K (Qp Q R)) ⟨arr, []⟩ w := by
  refine hs.open (fun t => ?_)
  clear hs
  conv => arg 2; whnf
  go_wp2
  refine HQ.out _ ?_
  exact (Fx.mk rfl rfl rfl rfl rfl rfl rfl rfl rfl rfl rfl rfl rfl rfl rfl rfl rfl rfl rfl rfl rfl rfl rfl rfl rfl rfl rfl rfl rfl rfl rfl rfl rfl rfl rfl rfl rfl rfl rfl rfl rfl rfl rfl rfl rfl rfl rfl rfl rfl rfl rfl rfl rfl)

set_option maxRecDepth 100000 in
set_option maxHeartbeats 400000 in
/-- dl0 -/
theorem st18n (Wb g n k : Nat) (arr : Array Value) (w : World) (K : Act → World → Prop) (Q : Exit → Act → World → Prop) (R : Ending → World → Prop) (v0 v1 v2 v3 v4 v5 v6 v7 v8 v9 v10 v11 v12 v13 v14 v15 v16 v17 v18 v19 v20 v21 v22 v23 v25 v26 v27 v28 v29 v30 v31 v32 v33 v34 v35 v36 v37 v38 v39 v40 v41 v42 v43 v44 v45 v46 v47 v48 v49 v50 v51 : Value)
    (c : w.cell? ⟨Wb, 725, none⟩ = some (.slice none 0 0))
    (hs : Fx arr v0 v1 v2 v3 v4 v5 v6 v7 v8 v9 v10 v11 v12 v13 v14 v15 v16 v17 v18 v19 v20 v21 v22 v23 (.pointer (some ⟨Wb, 0, none⟩)) v25 v26 v27 v28 v29 v30 v31 v32 v33 v34 v35 v36 v37 v38 v39 v40 v41 v42 v43 v44 v45 v46 v47 v48 v49 v50 v51)
    (HQ : Hid (∀ arr', Fx arr' v0 v1 v2 v3 v4 v5 v6 v7 v8 v9 v10 v11 v12 v13 v14 v15 v16 v17 v18 v19 v20 v21 v22 v23 (.pointer (some ⟨Wb, 0, none⟩)) v25 v26 v27 v28 v29 (.int .i64 0) v31 v32 v33 v34 v35 v36 v37 v38 v39 v40 v41 v42 v43 v44 v45 v46 v47 v48 v49 v50 v51 → K ⟨arr', []⟩ w)) :
    Code.wp Yba.prog (nav [1, 1, 1, 1, 1, 1, 1, 1, 1, 1, 1, 1, 1, 1, 1, 1, 1, 1, 0] (Yba.f3.body.getD .skip)) (Exit.then K (Qp Q R)) ⟨arr, []⟩ w := by
  refine hs.open (fun t => ?_)
  clear hs
  conv => arg 2; whnf
  go_wp2
  refine HQ.out _ ?_
  exact (Fx.mk rfl rfl rfl rfl rfl rfl rfl rfl rfl rfl rfl rfl rfl rfl rfl rfl rfl rfl rfl rfl rfl rfl rfl rfl rfl rfl rfl rfl rfl rfl rfl rfl rfl rfl rfl rfl rfl rfl rfl rfl rfl rfl rfl rfl rfl rfl rfl rfl rfl rfl rfl rfl rfl)

set_option maxRecDepth 100000 in
set_option maxHeartbeats 400000 in
/-- dl0 -/
theorem st18s (Wb g n k : Nat) (arr : Array Value) (w : World) (K : Act → World → Prop) (Q : Exit → Act → World → Prop) (R : Ending → World → Prop) (v0 v1 v2 v3 v4 v5 v6 v7 v8 v9 v10 v11 v12 v13 v14 v15 v16 v17 v18 v19 v20 v21 v22 v23 v25 v26 v27 v28 v29 v30 v31 v32 v33 v34 v35 v36 v37 v38 v39 v40 v41 v42 v43 v44 v45 v46 v47 v48 v49 v50 v51 : Value)
    (c : w.cell? ⟨Wb, 725, none⟩ = some (.slice (some ⟨g, 0, none⟩) n k))
    (hs : Fx arr v0 v1 v2 v3 v4 v5 v6 v7 v8 v9 v10 v11 v12 v13 v14 v15 v16 v17 v18 v19 v20 v21 v22 v23 (.pointer (some ⟨Wb, 0, none⟩)) v25 v26 v27 v28 v29 v30 v31 v32 v33 v34 v35 v36 v37 v38 v39 v40 v41 v42 v43 v44 v45 v46 v47 v48 v49 v50 v51)
    (HQ : Hid (∀ arr', Fx arr' v0 v1 v2 v3 v4 v5 v6 v7 v8 v9 v10 v11 v12 v13 v14 v15 v16 v17 v18 v19 v20 v21 v22 v23 (.pointer (some ⟨Wb, 0, none⟩)) v25 v26 v27 v28 v29 (.int .i64 n) v31 v32 v33 v34 v35 v36 v37 v38 v39 v40 v41 v42 v43 v44 v45 v46 v47 v48 v49 v50 v51 → K ⟨arr', []⟩ w)) :
    Code.wp Yba.prog (nav [1, 1, 1, 1, 1, 1, 1, 1, 1, 1, 1, 1, 1, 1, 1, 1, 1, 1, 0] (Yba.f3.body.getD .skip)) (Exit.then K (Qp Q R)) ⟨arr, []⟩ w := by
  refine hs.open (fun t => ?_)
  clear hs
  conv => arg 2; whnf
  go_wp2
  refine HQ.out _ ?_
  exact (Fx.mk rfl rfl rfl rfl rfl rfl rfl rfl rfl rfl rfl rfl rfl rfl rfl rfl rfl rfl rfl rfl rfl rfl rfl rfl rfl rfl rfl rfl rfl rfl rfl rfl rfl rfl rfl rfl rfl rfl rfl rfl rfl rfl rfl rfl rfl rfl rfl rfl rfl rfl rfl rfl rfl)

set_option maxRecDepth 100000 in
set_option maxHeartbeats 400000 in
/-- the timer as it was -/
theorem st19 (Tb : Nat) (x10 x4 x5 x6 x9 x7 x8 : Value) (arr : Array Value) (w : World) (K : Act → World → Prop) (Q : Exit → Act → World → Prop) (R : Ending → World → Prop) (v0 v1 v2 v3 v4 v5 v6 v7 v8 v9 v10 v11 v12 v13 v14 v15 v16 v17 v18 v19 v20 v21 v22 v23 v24 v26 v27 v28 v29 v30 v31 v32 v33 v34 v35 v36 v37 v38 v39 v40 v41 v42 v43 v44 v45 v46 v47 v48 v49 v50 v51 : Value)
    (c10 : w.cell? ⟨Tb, 10, none⟩ = some x10) (c4 : w.cell? ⟨Tb, 4, none⟩ = some x4) (c5 : w.cell? ⟨Tb, 5, none⟩ = some x5) (c6 : w.cell? ⟨Tb, 6, none⟩ = some x6) (c9 : w.cell? ⟨Tb, 9, none⟩ = some x9) (c7 : w.cell? ⟨Tb, 7, none⟩ = some x7) (c8 : w.cell? ⟨Tb, 8, none⟩ = some x8)
    (hs : Fx arr v0 v1 v2 v3 v4 v5 v6 v7 v8 v9 v10 v11 v12 v13 v14 v15 v16 v17 v18 v19 v20 v21 v22 v23 v24 (.pointer (some ⟨Tb, 0, none⟩)) v26 v27 v28 v29 v30 v31 v32 v33 v34 v35 v36 v37 v38 v39 v40 v41 v42 v43 v44 v45 v46 v47 v48 v49 v50 v51)
    (HQ : Hid (∀ arr' w', Fx arr' v0 v1 v2 v3 v4 v5 v6 v7 v8 v9 v10 v11 v12 v13 v14 v15 v16 v17 v18 v19 v20 v21 v22 v23 v24 (.pointer (some ⟨Tb, 0, none⟩)) v26 v27 v28 v29 v30 (x10) (x4) (x5) (x6) (x9) (x7) (x8) v38 v39 v40 v41 v42 v43 v44 v45 v46 v47 v48 v49 v50 v51 → (∃ q, w' = w.drewN q) → K ⟨arr', []⟩ w')) :
    Code.wp Yba.prog (nav [1, 1, 1, 1, 1, 1, 1, 1, 1, 1, 1, 1, 1, 1, 1, 1, 1, 1, 1, 0] (Yba.f3.body.getD .skip)) (Exit.then K (Qp Q R)) ⟨arr, []⟩ w := by
  refine hs.open (fun t => ?_)
  clear hs
  conv => arg 2; whnf
  go_wp2
  go_quiet (fail)
  show K _ _
  refine HQ.out _ _ ?_ ⟨nq, rfl⟩
  exact (Fx.mk rfl rfl rfl rfl rfl rfl rfl rfl rfl rfl rfl rfl rfl rfl rfl rfl rfl rfl rfl rfl rfl rfl rfl rfl rfl rfl rfl rfl rfl rfl rfl rfl rfl rfl rfl rfl rfl rfl rfl rfl rfl rfl rfl rfl rfl rfl rfl rfl rfl rfl rfl rfl rfl)

set_option maxRecDepth 100000 in
set_option maxHeartbeats 400000 in
/-- Reset -/
theorem st20 (Tb : Nat) (d : Int) (b : Bool) (G : World → Prop) (arr : Array Value) (w : World) (K : Act → World → Prop) (Q : Exit → Act → World → Prop) (R : Ending → World → Prop) (v0 v1 v3 v4 v5 v6 v7 v8 v9 v10 v11 v12 v13 v14 v15 v16 v17 v18 v19 v20 v21 v22 v23 v24 v26 v27 v28 v29 v30 v31 v32 v33 v34 v35 v36 v37 v38 v39 v40 v41 v42 v43 v44 v45 v46 v47 v48 v49 v50 v51 : Value)
    (HA : Hid (Calls Yba.prog 8 #[.pointer (some ⟨Tb, 0, none⟩), .int .i64 d] w fun e w' => e = .returned (.bool b) ∧ G w'))
    (hs : Fx arr v0 v1 (.int .i64 d) v3 v4 v5 v6 v7 v8 v9 v10 v11 v12 v13 v14 v15 v16 v17 v18 v19 v20 v21 v22 v23 v24 (.pointer (some ⟨Tb, 0, none⟩)) v26 v27 v28 v29 v30 v31 v32 v33 v34 v35 v36 v37 v38 v39 v40 v41 v42 v43 v44 v45 v46 v47 v48 v49 v50 v51)
    (HQ : Hid (∀ arr' w', Fx arr' v0 v1 (.int .i64 d) v3 v4 v5 v6 v7 v8 v9 v10 v11 v12 v13 v14 v15 v16 v17 v18 v19 v20 v21 v22 v23 v24 (.pointer (some ⟨Tb, 0, none⟩)) v26 v27 v28 v29 v30 v31 v32 v33 v34 v35 v36 v37 (.bool b) v39 v40 v41 v42 v43 v44 v45 v46 v47 v48 v49 v50 v51 → G w' → K ⟨arr', []⟩ w')) :
    Code.wp Yba.prog (nav [1, 1, 1, 1, 1, 1, 1, 1, 1, 1, 1, 1, 1, 1, 1, 1, 1, 1, 1, 1, 0] (Yba.f3.body.getD .skip)) (Exit.then K (Qp Q R)) ⟨arr, []⟩ w := by
  refine hs.open (fun t => ?_)
  clear hs
  conv => arg 2; whnf
  go_wp2_with fail
  refine Calls.mono HA.out ?_
  rintro e w2 ⟨rfl, hg⟩
  have GG : Hid (G w2) := hg
  clear HA hg
  go_wp2
  refine HQ.out _ _ ?_ GG.out
  exact (Fx.mk rfl rfl rfl rfl rfl rfl rfl rfl rfl rfl rfl rfl rfl rfl rfl rfl rfl rfl rfl rfl rfl rfl rfl rfl rfl rfl rfl rfl rfl rfl rfl rfl rfl rfl rfl rfl rfl rfl rfl rfl rfl rfl rfl rfl rfl rfl rfl rfl rfl rfl rfl rfl rfl)

end Go.Proofs.Ybulkdgza
