/-
  LawS5405CWhole, statement 30: want := upload{..}.
-/
import Derived.Test.YbulkdgxkS7
import Derived.Deep.RegionHeld3
namespace Go.Proofs.Ybulkdgxk
open Go.RowKit C
set_option linter.unusedVariables false
set_option linter.unusedSimpArgs false


set_option maxRecDepth 100000 in
set_option maxHeartbeats 3000000 in
/-- want := upload{..} -/
theorem s30a (b0 o0 n c0 g ge i np : Nat) (U : Nat → Up) (e : Nat → Int) (arr : Array Value) (w : World) (K : Act → World → Prop) (Q : Exit → Act → World → Prop) (R : Ending → World → Prop) (v1 v2 v3 v4 v5 v6 v7 v8 v9 v10 v11 v12 v13 v15 v16 v17 v18 v19 v20 v21 v22 v23 v24 v25 v26 v27 v28 v29 v30 v32 v33 v34 v35 v36 v37 v38 v39 v41 v42 v43 v44 v45 v46 : Value)
    (hi : i < n) (hn : n ≤ 65536) (hU : Ups w b0 o0 n U) (ho : RowF w g 21 n (ownF U np)) (he : RowF w ge 21 n (intF e))
    (hs : Fx arr (.slice (some ⟨b0, o0, none⟩) n c0) v1 v2 v3 v4 v5 v6 v7 v8 v9 v10 v11 v12 v13 (.slice (some ⟨g, 0, none⟩) n n) v15 v16 v17 v18 v19 v20 v21 v22 v23 v24 v25 v26 v27 v28 v29 v30 (.slice (some ⟨ge, 0, none⟩) n n) v32 v33 v34 v35 v36 v37 v38 v39 (.int .i64 i) v41 v42 v43 v44 v45 v46)
    (HQ : Hid (∀ arr' w' gw, Fx arr' (.slice (some ⟨b0, o0, none⟩) n c0) v1 v2 v3 v4 v5 v6 v7 v8 v9 v10 v11 v12 v13 (.slice (some ⟨g, 0, none⟩) n n) v15 v16 v17 v18 v19 v20 v21 v22 v23 v24 v25 v26 v27 v28 v29 v30 (.slice (some ⟨ge, 0, none⟩) n n) v32 v33 v34 v35 v36 v37 v38 v39 (.int .i64 i) (.pointer (some ⟨gw, 0, none⟩)) v42 v43 v44 v45 v46 → Chg w w' (fun _ => False) → RowF w' gw 32 6 (fun j => usF U np e (i * 6 + j)) → K ⟨arr', []⟩ w')) :
    Code.wp Yba.prog (nav [1, 1, 1, 1, 1, 1, 1, 1, 1, 1, 1, 1, 1, 1, 1, 1, 1, 1, 1, 1, 1, 1, 1, 1, 1, 1, 1, 1, 1, 1, 0, 1, 2, 2, 1, 0, 2, 0] (Yba.f4.body.getD .skip)) (Exit.then K (Qp Q R)) ⟨arr, []⟩ w := by
  refine hs.open (fun t => ?_)
  clear hs
  conv => arg 2; whnf
  have hi' : (i : Int) < (n : Int) := by omega
  have k0 := hU.peer i hi
  have k1 := hU.place i hi
  have k2 := hU.seg i hi
  have k3 := hU.start i hi
  have co := ho.cell hi
  have ce := he.cell hi
  simp only [ownF, intF] at co ce
  have e0 : Hid (usF U np e (i * 6 + 0) = .int .i32 (U i).peer) := usF_0 U np e i
  have e1 : Hid (usF U np e (i * 6 + 1) = .int .i32 (U i).place) := usF_1 U np e i
  have e2 : Hid (usF U np e (i * 6 + 2) = .int .i32 (own U np i)) := usF_2 U np e i
  have e3 : Hid (usF U np e (i * 6 + 3) = .int .i32 (e i)) := usF_3 U np e i
  have e4 : Hid (usF U np e (i * 6 + 4) = .int .i32 (U i).seg) := usF_4 U np e i
  have e5 : Hid (usF U np e (i * 6 + 5) = .int .i32 (U i).start) := usF_5 U np e i
  generalize (U i).peer = x0 at *
  generalize (U i).place = x1 at *
  generalize (U i).seg = x2 at *
  generalize (U i).start = x3 at *
  generalize own U np i = p at *
  generalize e i = z at *
  have lb := hU.lt
  have lg := ho.lt
  have le := he.lt
  have nb : ¬ b0 = w.heap.size := by omega
  have ng : ¬ g = w.heap.size := by omega
  have ne : ¬ ge = w.heap.size := by omega
  clear hU ho he
  go_wp2
  go_region_held3 (fun w' => w'.cell? ⟨b0, o0 + i * 6, none⟩ = some (.int .i32 x0) ∧ w'.cell? ⟨b0, o0 + i * 6 + 1, none⟩ = some (.int .i32 x1) ∧ w'.cell? ⟨b0, o0 + i * 6 + 2, none⟩ = some (.int .i32 x2) ∧ w'.cell? ⟨b0, o0 + i * 6 + 3, none⟩ = some (.int .i32 x3) ∧ w'.cell? ⟨g, i, none⟩ = some (.int .i32 (p : Int)) ∧ w'.cell? ⟨ge, i, none⟩ = some (.int .i32 z)) (go_keep) (fail)
  refine HQ.out _ _ w.heap.size ?_ ?_ ?_
  · exact (Fx.mk rfl rfl rfl rfl rfl rfl rfl rfl rfl rfl rfl rfl rfl rfl rfl rfl rfl rfl rfl rfl rfl rfl rfl rfl rfl rfl rfl rfl rfl rfl rfl rfl rfl rfl rfl rfl rfl rfl rfl rfl rfl rfl rfl rfl rfl rfl rfl rfl)
  · exact ((Chg.refl _ _).alloc _).drew
  · have row : RowF (w.alloc (.cells #[Value.int .i32 x0, .int .i32 x1, .int .i32 (p : Int), .int .i32 z, .int .i32 x2, .int .i32 x3] 32)) w.heap.size 32 6 (fun j => usF U np e (i * 6 + j)) :=
      ⟨#[.int .i32 x0, .int .i32 x1, .int .i32 (p : Int), .int .i32 z, .int .i32 x2, .int .i32 x3], by show (w.heap.push _)[w.heap.size]? = _; simp, by simp, fun j hj => by
        match j, hj with
        | 0, _ => exact (congrArg some e0.out).symm
        | 1, _ => exact (congrArg some e1.out).symm
        | 2, _ => exact (congrArg some e2.out).symm
        | 3, _ => exact (congrArg some e3.out).symm
        | 4, _ => exact (congrArg some e4.out).symm
        | 5, _ => exact (congrArg some e5.out).symm⟩
    exact row.drew

end Go.Proofs.Ybulkdgxk
