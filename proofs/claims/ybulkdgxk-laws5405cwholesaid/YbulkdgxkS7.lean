/-
  LawS5405CWhole, its statements 27 to 29.
-/
import Derived.Test.YbulkdgxkS6b
namespace Go.Proofs.Ybulkdgxk
open Go.RowKit C
set_option linter.unusedVariables false
set_option linter.unusedSimpArgs false


set_option maxRecDepth 100000 in
set_option maxHeartbeats 400000 in
/-- r := t.takeUpload(x) -/
theorem s27 (T x : Nat) (pe pl : Int) (Z : World → Prop) (arr : Array Value) (w : World) (K : Act → World → Prop) (Q : Exit → Act → World → Prop) (v0 v1 v2 v3 v4 v5 v6 v7 v8 v9 v10 v11 v12 v14 v15 v16 v17 v18 v19 v20 v21 v22 v23 v24 v26 v27 v28 v29 v30 v31 v32 v33 v34 v35 v36 v37 v38 v39 v40 v41 v42 v43 v44 v45 v46 : Value)
    (hcall : Hid (Calls Yba.prog 7 #[.pointer (some ⟨T, 0, none⟩), .int .i64 x] w fun e w1 => e = .returned (.agg #[.int .i64 pe, .int .i64 pl]) ∧ Z w1))
    (hs : Fx arr v0 v1 v2 v3 v4 v5 v6 v7 v8 v9 v10 v11 v12 (.int .i64 x) v14 v15 v16 v17 v18 v19 v20 v21 v22 v23 v24 (.pointer (some ⟨T, 0, none⟩)) v26 v27 v28 v29 v30 v31 v32 v33 v34 v35 v36 v37 v38 v39 v40 v41 v42 v43 v44 v45 v46)
    (HQ : Hid (∀ arr' w' w1 gr, Fx arr' v0 v1 v2 v3 v4 v5 v6 v7 v8 v9 v10 v11 v12 (.int .i64 x) v14 v15 v16 v17 v18 v19 v20 v21 v22 v23 v24 (.pointer (some ⟨T, 0, none⟩)) v26 v27 v28 v29 v30 v31 v32 v33 v34 v35 v36 v37 v38 (.pointer (some ⟨gr, 0, none⟩)) v40 v41 v42 v43 v44 v45 v46 → Z w1 → Chg w1 w' (fun _ => False) → w1.heap.size ≤ gr → RowF w' gr 81 2 (fun i => if i = 0 then .int .i64 pe else .int .i64 pl) → K ⟨arr', []⟩ w')) :
    Code.wp Yba.prog (nav [1, 1, 1, 1, 1, 1, 1, 1, 1, 1, 1, 1, 1, 1, 1, 1, 1, 1, 1, 1, 1, 1, 1, 1, 1, 1, 1, 0] (Yba.f4.body.getD .skip)) (Exit.then K Q) ⟨arr, []⟩ w := by
  refine hs.open (fun t => ?_)
  clear hs
  conv => arg 2; whnf
  go_wp2_with fail
  refine hcall.out.mono ?_
  rintro e w1 ⟨rfl, hz⟩
  go_wp2
  refine HQ.out _ _ w1 w1.heap.size ?_ hz ?_ (Nat.le_refl _) ?_
  · exact (Fx.mk rfl rfl rfl rfl rfl rfl rfl rfl rfl rfl rfl rfl rfl rfl rfl rfl rfl rfl rfl rfl rfl rfl rfl rfl rfl rfl rfl rfl rfl rfl rfl rfl rfl rfl rfl rfl rfl rfl rfl rfl rfl rfl rfl rfl rfl rfl rfl rfl)
  · exact (Chg.refl _ _).alloc _
  · exact ⟨#[.int .i64 pe, .int .i64 pl], by show (w1.heap.push _)[w1.heap.size]? = _; simp, by simp, fun i hi => by match i, hi with | 0, _ => rfl | 1, _ => rfl⟩

set_option maxRecDepth 100000 in
set_option maxHeartbeats 400000 in
/-- r != Request{..} -/
theorem s28 (b0 o0 n c0 x gr : Nat) (U : Nat → Up) (arr : Array Value) (w : World) (K : Act → World → Prop) (Q : Exit → Act → World → Prop) (R : Ending → World → Prop) (v1 v2 v3 v4 v5 v6 v7 v8 v9 v10 v11 v12 v14 v15 v16 v17 v18 v19 v20 v21 v22 v23 v24 v25 v26 v27 v28 v29 v30 v31 v32 v33 v34 v35 v36 v37 v38 v40 v41 v42 v43 v44 v45 v46 : Value)
    (hx : x < n) (hU : Ups w b0 o0 n U) (hU1 : -2147483648 ≤ (U x).peer ∧ (U x).peer ≤ 2147483647) (hU2 : -2147483648 ≤ (U x).place ∧ (U x).place ≤ 2147483647) (hr : RowF w gr 81 2 (fun i => if i = 0 then .int .i64 (U x).peer else .int .i64 (U x).place))
    (hs : Fx arr (.slice (some ⟨b0, o0, none⟩) n c0) v1 v2 v3 v4 v5 v6 v7 v8 v9 v10 v11 v12 (.int .i64 x) v14 v15 v16 v17 v18 v19 v20 v21 v22 v23 v24 v25 v26 v27 v28 v29 v30 v31 v32 v33 v34 v35 v36 v37 v38 (.pointer (some ⟨gr, 0, none⟩)) v40 v41 v42 v43 v44 v45 v46)
    (HQ : Hid (∀ arr' w', Fx arr' (.slice (some ⟨b0, o0, none⟩) n c0) v1 v2 v3 v4 v5 v6 v7 v8 v9 v10 v11 v12 (.int .i64 x) v14 v15 v16 v17 v18 v19 v20 v21 v22 v23 v24 v25 v26 v27 v28 v29 v30 v31 v32 v33 v34 v35 v36 v37 v38 (.pointer (some ⟨gr, 0, none⟩)) v40 v41 v42 v43 v44 v45 v46 → Chg w w' (fun _ => False) → K ⟨arr', []⟩ w')) :
    Code.wp Yba.prog (nav [1, 1, 1, 1, 1, 1, 1, 1, 1, 1, 1, 1, 1, 1, 1, 1, 1, 1, 1, 1, 1, 1, 1, 1, 1, 1, 1, 1, 0] (Yba.f4.body.getD .skip)) (Exit.then K (Qp Q R)) ⟨arr, []⟩ w := by
  refine hs.open (fun t => ?_)
  clear hs
  conv => arg 2; whnf
  have hx' : (x : Int) < (n : Int) := by omega
  have c0 := hr.cell (i := 0) (by omega)
  have c1 := hr.cell (i := 1) (by omega)
  have cp := hU.peer x hx
  have cq := hU.place x hx
  simp at c0 c1
  generalize (U x).peer = pe at *
  generalize (U x).place = pl at *
  clear hU hr
  go_wp2
  go_quiet (fail)
  go_wp2
  refine HQ.out _ _ ?_ ((Chg.refl _ _).drewN _)
  exact (Fx.mk rfl rfl rfl rfl rfl rfl rfl rfl rfl rfl rfl rfl rfl rfl rfl rfl rfl rfl rfl rfl rfl rfl rfl rfl rfl rfl rfl rfl rfl rfl rfl rfl rfl rfl rfl rfl rfl rfl rfl rfl rfl rfl rfl rfl rfl rfl rfl rfl)

set_option maxRecDepth 100000 in
set_option maxHeartbeats 400000 in
/-- len(t.uploads) != n -/
theorem s29 (T n gu : Nat) (f : Nat → Value) (arr : Array Value) (w : World) (K : Act → World → Prop) (Q : Exit → Act → World → Prop) (v0 v1 v2 v3 v4 v5 v6 v7 v8 v9 v10 v12 v13 v14 v15 v16 v17 v18 v19 v20 v21 v22 v23 v24 v26 v27 v28 v29 v30 v31 v32 v33 v34 v35 v36 v37 v38 v39 v40 v41 v42 v43 v44 v45 v46 : Value)
    (hf : f 17 = .slice (some ⟨gu, 0, none⟩) n n) (ht : RowF w T 79 140 f)
    (hs : Fx arr v0 v1 v2 v3 v4 v5 v6 v7 v8 v9 v10 (.int .i64 n) v12 v13 v14 v15 v16 v17 v18 v19 v20 v21 v22 v23 v24 (.pointer (some ⟨T, 0, none⟩)) v26 v27 v28 v29 v30 v31 v32 v33 v34 v35 v36 v37 v38 v39 v40 v41 v42 v43 v44 v45 v46)
    (HQ : Hid (∀ arr', Fx arr' v0 v1 v2 v3 v4 v5 v6 v7 v8 v9 v10 (.int .i64 n) v12 v13 v14 v15 v16 v17 v18 v19 v20 v21 v22 v23 v24 (.pointer (some ⟨T, 0, none⟩)) v26 v27 v28 v29 v30 v31 v32 v33 v34 v35 v36 v37 v38 v39 v40 v41 v42 v43 v44 v45 v46 → K ⟨arr', []⟩ w)) :
    Code.wp Yba.prog (nav [1, 1, 1, 1, 1, 1, 1, 1, 1, 1, 1, 1, 1, 1, 1, 1, 1, 1, 1, 1, 1, 1, 1, 1, 1, 1, 1, 1, 1, 0] (Yba.f4.body.getD .skip)) (Exit.then K Q) ⟨arr, []⟩ w := by
  refine hs.open (fun t => ?_)
  clear hs
  conv => arg 2; whnf
  have ct := ht.cell (i := 17) (by omega)
  rw [hf] at ct
  clear ht hf
  go_wp2
  refine HQ.out _ ?_
  exact (Fx.mk rfl rfl rfl rfl rfl rfl rfl rfl rfl rfl rfl rfl rfl rfl rfl rfl rfl rfl rfl rfl rfl rfl rfl rfl rfl rfl rfl rfl rfl rfl rfl rfl rfl rfl rfl rfl rfl rfl rfl rfl rfl rfl rfl rfl rfl rfl rfl rfl)

set_option maxRecDepth 100000 in
set_option maxHeartbeats 400000 in
/-- len(t.latest) != np -/
theorem s31 (T np gl : Nat) (f : Nat → Value) (arr : Array Value) (w : World) (K : Act → World → Prop) (Q : Exit → Act → World → Prop) (v0 v1 v2 v3 v4 v5 v6 v7 v8 v9 v10 v11 v13 v14 v15 v16 v17 v18 v19 v20 v21 v22 v23 v24 v26 v27 v28 v29 v30 v31 v32 v33 v34 v35 v36 v37 v38 v39 v40 v41 v42 v43 v44 v45 v46 : Value)
    (hf : f 22 = .slice (some ⟨gl, 0, none⟩) np np) (ht : RowF w T 79 140 f)
    (hs : Fx arr v0 v1 v2 v3 v4 v5 v6 v7 v8 v9 v10 v11 (.int .i64 np) v13 v14 v15 v16 v17 v18 v19 v20 v21 v22 v23 v24 (.pointer (some ⟨T, 0, none⟩)) v26 v27 v28 v29 v30 v31 v32 v33 v34 v35 v36 v37 v38 v39 v40 v41 v42 v43 v44 v45 v46)
    (HQ : Hid (∀ arr', Fx arr' v0 v1 v2 v3 v4 v5 v6 v7 v8 v9 v10 v11 (.int .i64 np) v13 v14 v15 v16 v17 v18 v19 v20 v21 v22 v23 v24 (.pointer (some ⟨T, 0, none⟩)) v26 v27 v28 v29 v30 v31 v32 v33 v34 v35 v36 v37 v38 v39 v40 v41 v42 v43 v44 v45 v46 → K ⟨arr', []⟩ w)) :
    Code.wp Yba.prog (nav [1, 1, 1, 1, 1, 1, 1, 1, 1, 1, 1, 1, 1, 1, 1, 1, 1, 1, 1, 1, 1, 1, 1, 1, 1, 1, 1, 1, 1, 1, 1, 0] (Yba.f4.body.getD .skip)) (Exit.then K Q) ⟨arr, []⟩ w := by
  refine hs.open (fun t => ?_)
  clear hs
  conv => arg 2; whnf
  have ct := ht.cell (i := 22) (by omega)
  rw [hf] at ct
  clear ht hf
  go_wp2
  refine HQ.out _ ?_
  exact (Fx.mk rfl rfl rfl rfl rfl rfl rfl rfl rfl rfl rfl rfl rfl rfl rfl rfl rfl rfl rfl rfl rfl rfl rfl rfl rfl rfl rfl rfl rfl rfl rfl rfl rfl rfl rfl rfl rfl rfl rfl rfl rfl rfl rfl rfl rfl rfl rfl rfl)

set_option maxRecDepth 100000 in
set_option maxHeartbeats 400000 in
/-- len(t.given) != len(givenCopy) || .. -/
theorem s33 (T n cap gg gc : Nat) (f : Nat → Value) (arr : Array Value) (w : World) (K : Act → World → Prop) (Q : Exit → Act → World → Prop) (v0 v1 v2 v3 v4 v5 v6 v7 v8 v9 v10 v11 v12 v13 v14 v15 v16 v17 v18 v19 v20 v21 v22 v24 v26 v27 v28 v29 v30 v31 v32 v33 v34 v35 v36 v37 v38 v39 v40 v41 v42 v43 v44 v45 v46 : Value)
    (hf : f 18 = .slice (some ⟨gg, 0, none⟩) n cap) (hf2 : f 20 = .int .i64 n) (ht : RowF w T 79 140 f)
    (hs : Fx arr v0 v1 v2 v3 v4 v5 v6 v7 v8 v9 v10 v11 v12 v13 v14 v15 v16 v17 v18 v19 v20 v21 v22 (.slice (some ⟨gc, 0, none⟩) n n) v24 (.pointer (some ⟨T, 0, none⟩)) v26 v27 v28 v29 v30 v31 v32 v33 v34 v35 v36 v37 v38 v39 v40 v41 v42 v43 v44 v45 v46)
    (HQ : Hid (∀ arr', Fx arr' v0 v1 v2 v3 v4 v5 v6 v7 v8 v9 v10 v11 v12 v13 v14 v15 v16 v17 v18 v19 v20 v21 v22 (.slice (some ⟨gc, 0, none⟩) n n) v24 (.pointer (some ⟨T, 0, none⟩)) v26 v27 v28 v29 v30 v31 v32 v33 v34 v35 v36 v37 v38 v39 v40 v41 v42 v43 v44 v45 v46 → K ⟨arr', []⟩ w)) :
    Code.wp Yba.prog (nav [1, 1, 1, 1, 1, 1, 1, 1, 1, 1, 1, 1, 1, 1, 1, 1, 1, 1, 1, 1, 1, 1, 1, 1, 1, 1, 1, 1, 1, 1, 1, 1, 1, 0] (Yba.f4.body.getD .skip)) (Exit.then K Q) ⟨arr, []⟩ w := by
  refine hs.open (fun t => ?_)
  clear hs
  conv => arg 2; whnf
  have ct2 := ht.cell (i := 20) (by omega)
  rw [hf2] at ct2
  have ct := ht.cell (i := 18) (by omega)
  rw [hf] at ct
  clear ht hf
  go_wp2
  refine HQ.out _ ?_
  exact (Fx.mk rfl rfl rfl rfl rfl rfl rfl rfl rfl rfl rfl rfl rfl rfl rfl rfl rfl rfl rfl rfl rfl rfl rfl rfl rfl rfl rfl rfl rfl rfl rfl rfl rfl rfl rfl rfl rfl rfl rfl rfl rfl rfl rfl rfl rfl rfl rfl rfl)

set_option maxRecDepth 100000 in
set_option maxHeartbeats 400000 in
/-- len(t.freed) != len(freed)+1 -/
theorem s35 (T nf cf capf gf : Nat) (af : Option Addr) (f : Nat → Value) (arr : Array Value) (w : World) (K : Act → World → Prop) (Q : Exit → Act → World → Prop) (v0 v1 v2 v4 v5 v6 v7 v8 v9 v10 v11 v12 v13 v14 v15 v16 v17 v18 v19 v20 v21 v22 v23 v24 v26 v27 v28 v29 v30 v31 v32 v33 v34 v35 v36 v37 v38 v39 v40 v41 v42 v43 v44 v45 v46 : Value)
    (hnf : nf ≤ 1048576) (hf : f 32 = .slice (some ⟨gf, 0, none⟩) (nf + 1 : Nat) capf) (ht : RowF w T 79 140 f)
    (hs : Fx arr v0 v1 v2 (.slice af nf cf) v4 v5 v6 v7 v8 v9 v10 v11 v12 v13 v14 v15 v16 v17 v18 v19 v20 v21 v22 v23 v24 (.pointer (some ⟨T, 0, none⟩)) v26 v27 v28 v29 v30 v31 v32 v33 v34 v35 v36 v37 v38 v39 v40 v41 v42 v43 v44 v45 v46)
    (HQ : Hid (∀ arr', Fx arr' v0 v1 v2 (.slice af nf cf) v4 v5 v6 v7 v8 v9 v10 v11 v12 v13 v14 v15 v16 v17 v18 v19 v20 v21 v22 v23 v24 (.pointer (some ⟨T, 0, none⟩)) v26 v27 v28 v29 v30 v31 v32 v33 v34 v35 v36 v37 v38 v39 v40 v41 v42 v43 v44 v45 v46 → K ⟨arr', []⟩ w)) :
    Code.wp Yba.prog (nav [1, 1, 1, 1, 1, 1, 1, 1, 1, 1, 1, 1, 1, 1, 1, 1, 1, 1, 1, 1, 1, 1, 1, 1, 1, 1, 1, 1, 1, 1, 1, 1, 1, 1, 1, 0] (Yba.f4.body.getD .skip)) (Exit.then K Q) ⟨arr, []⟩ w := by
  refine hs.open (fun t => ?_)
  clear hs
  conv => arg 2; whnf
  have ct := ht.cell (i := 32) (by omega)
  rw [hf] at ct
  clear ht hf
  have hq : ((nf + 1 : Nat) : Int) = (nf : Int) + 1 := by omega
  go_wp2
  refine HQ.out _ ?_
  exact (Fx.mk rfl rfl rfl rfl rfl rfl rfl rfl rfl rfl rfl rfl rfl rfl rfl rfl rfl rfl rfl rfl rfl rfl rfl rfl rfl rfl rfl rfl rfl rfl rfl rfl rfl rfl rfl rfl rfl rfl rfl rfl rfl rfl rfl rfl rfl rfl rfl rfl)

set_option maxRecDepth 100000 in
set_option maxHeartbeats 400000 in
/-- t.freed[len(freed)] != px -/
theorem s37 (T nf cf capf gf : Nat) (px : Int) (af : Option Addr) (f : Nat → Value) (arr : Array Value) (w : World) (K : Act → World → Prop) (Q : Exit → Act → World → Prop) (v0 v1 v2 v4 v5 v6 v7 v8 v9 v10 v11 v12 v13 v14 v15 v16 v17 v18 v19 v20 v21 v22 v23 v24 v26 v27 v28 v29 v31 v32 v33 v34 v35 v36 v37 v38 v39 v40 v41 v42 v43 v44 v45 v46 : Value)
    (hnf : nf ≤ 1048576) (hf : f 32 = .slice (some ⟨gf, 0, none⟩) (nf + 1 : Nat) capf) (ht : RowF w T 79 140 f) (hc : w.cell? ⟨gf, nf, none⟩ = some (.int .i32 px))
    (hs : Fx arr v0 v1 v2 (.slice af nf cf) v4 v5 v6 v7 v8 v9 v10 v11 v12 v13 v14 v15 v16 v17 v18 v19 v20 v21 v22 v23 v24 (.pointer (some ⟨T, 0, none⟩)) v26 v27 v28 v29 (.int .i32 px) v31 v32 v33 v34 v35 v36 v37 v38 v39 v40 v41 v42 v43 v44 v45 v46)
    (HQ : Hid (∀ arr', Fx arr' v0 v1 v2 (.slice af nf cf) v4 v5 v6 v7 v8 v9 v10 v11 v12 v13 v14 v15 v16 v17 v18 v19 v20 v21 v22 v23 v24 (.pointer (some ⟨T, 0, none⟩)) v26 v27 v28 v29 (.int .i32 px) v31 v32 v33 v34 v35 v36 v37 v38 v39 v40 v41 v42 v43 v44 v45 v46 → K ⟨arr', []⟩ w)) :
    Code.wp Yba.prog (nav [1, 1, 1, 1, 1, 1, 1, 1, 1, 1, 1, 1, 1, 1, 1, 1, 1, 1, 1, 1, 1, 1, 1, 1, 1, 1, 1, 1, 1, 1, 1, 1, 1, 1, 1, 1, 1, 0] (Yba.f4.body.getD .skip)) (Exit.then K Q) ⟨arr, []⟩ w := by
  refine hs.open (fun t => ?_)
  clear hs
  conv => arg 2; whnf
  have ct := ht.cell (i := 32) (by omega)
  rw [hf] at ct
  clear ht hf
  go_wp2
  refine HQ.out _ ?_
  exact (Fx.mk rfl rfl rfl rfl rfl rfl rfl rfl rfl rfl rfl rfl rfl rfl rfl rfl rfl rfl rfl rfl rfl rfl rfl rfl rfl rfl rfl rfl rfl rfl rfl rfl rfl rfl rfl rfl rfl rfl rfl rfl rfl rfl rfl rfl rfl rfl rfl rfl)

set_option maxRecDepth 100000 in
set_option maxHeartbeats 400000 in
/-- len(t.upLeft) != np -/
theorem s38 (T np gup capu : Nat) (f : Nat → Value) (arr : Array Value) (w : World) (K : Act → World → Prop) (Q : Exit → Act → World → Prop) (v0 v1 v2 v3 v4 v5 v6 v7 v8 v9 v10 v11 v13 v14 v15 v16 v17 v18 v19 v20 v21 v22 v23 v24 v26 v27 v28 v29 v30 v31 v32 v33 v34 v35 v36 v37 v38 v39 v40 v41 v42 v43 v44 v45 v46 : Value)
    (hf : f 13 = .slice (some ⟨gup, 0, none⟩) np capu) (ht : RowF w T 79 140 f)
    (hs : Fx arr v0 v1 v2 v3 v4 v5 v6 v7 v8 v9 v10 v11 (.int .i64 np) v13 v14 v15 v16 v17 v18 v19 v20 v21 v22 v23 v24 (.pointer (some ⟨T, 0, none⟩)) v26 v27 v28 v29 v30 v31 v32 v33 v34 v35 v36 v37 v38 v39 v40 v41 v42 v43 v44 v45 v46)
    (HQ : Hid (∀ arr', Fx arr' v0 v1 v2 v3 v4 v5 v6 v7 v8 v9 v10 v11 (.int .i64 np) v13 v14 v15 v16 v17 v18 v19 v20 v21 v22 v23 v24 (.pointer (some ⟨T, 0, none⟩)) v26 v27 v28 v29 v30 v31 v32 v33 v34 v35 v36 v37 v38 v39 v40 v41 v42 v43 v44 v45 v46 → K ⟨arr', []⟩ w)) :
    Code.wp Yba.prog (nav [1, 1, 1, 1, 1, 1, 1, 1, 1, 1, 1, 1, 1, 1, 1, 1, 1, 1, 1, 1, 1, 1, 1, 1, 1, 1, 1, 1, 1, 1, 1, 1, 1, 1, 1, 1, 1, 1, 0] (Yba.f4.body.getD .skip)) (Exit.then K Q) ⟨arr, []⟩ w := by
  refine hs.open (fun t => ?_)
  clear hs
  conv => arg 2; whnf
  have ct := ht.cell (i := 13) (by omega)
  rw [hf] at ct
  clear ht hf
  go_wp2
  refine HQ.out _ ?_
  exact (Fx.mk rfl rfl rfl rfl rfl rfl rfl rfl rfl rfl rfl rfl rfl rfl rfl rfl rfl rfl rfl rfl rfl rfl rfl rfl rfl rfl rfl rfl rfl rfl rfl rfl rfl rfl rfl rfl rfl rfl rfl rfl rfl rfl rfl rfl rfl rfl rfl rfl)

set_option maxRecDepth 100000 in
set_option maxHeartbeats 400000 in
/-- counts[px]++ -/
theorem s39 (np gc p : Nat) (c : Int) (fc : Nat → Value) (arr : Array Value) (w : World) (K : Act → World → Prop) (Q : Exit → Act → World → Prop) (v0 v1 v2 v3 v4 v5 v6 v7 v8 v9 v10 v11 v12 v13 v14 v15 v16 v17 v18 v19 v20 v21 v22 v23 v24 v25 v27 v28 v29 v31 v32 v33 v34 v35 v36 v37 v38 v39 v40 v41 v42 v43 v44 v45 v46 : Value)
    (hp : p < np) (hp8 : np ≤ 8) (hc0 : 0 ≤ c ∧ c ≤ 3) (hv : fc p = .int .i64 c) (hc : RowF w gc 3 np fc)
    (hs : Fx arr v0 v1 v2 v3 v4 v5 v6 v7 v8 v9 v10 v11 v12 v13 v14 v15 v16 v17 v18 v19 v20 v21 v22 v23 v24 v25 (.slice (some ⟨gc, 0, none⟩) np np) v27 v28 v29 (.int .i32 (p : Int)) v31 v32 v33 v34 v35 v36 v37 v38 v39 v40 v41 v42 v43 v44 v45 v46)
    (HQ : Hid (∀ arr' w', Fx arr' v0 v1 v2 v3 v4 v5 v6 v7 v8 v9 v10 v11 v12 v13 v14 v15 v16 v17 v18 v19 v20 v21 v22 v23 v24 v25 (.slice (some ⟨gc, 0, none⟩) np np) v27 v28 v29 (.int .i32 (p : Int)) v31 v32 v33 v34 v35 v36 v37 v38 v39 v40 v41 v42 v43 v44 v45 v46 → RowF w' gc 3 np (upd fc p (.int .i64 (c + 1))) → Chg w w' (fun k => k = gc) → K ⟨arr', []⟩ w')) :
    Code.wp Yba.prog (nav [1, 1, 1, 1, 1, 1, 1, 1, 1, 1, 1, 1, 1, 1, 1, 1, 1, 1, 1, 1, 1, 1, 1, 1, 1, 1, 1, 1, 1, 1, 1, 1, 1, 1, 1, 1, 1, 1, 1, 0] (Yba.f4.body.getD .skip)) (Exit.then K Q) ⟨arr, []⟩ w := by
  refine hs.open (fun t => ?_)
  clear hs
  conv => arg 2; whnf
  have hp' : (p : Int) < (np : Int) := by omega
  have cc := hc.cell hp
  rw [hv] at cc
  have fz := hc.free p
  have HR : Hid (RowF (w.setCell ⟨gc, p, none⟩ (.int .i64 (c + 1))) gc 3 np (upd fc p (.int .i64 (c + 1)))) := hc.set p _
  clear hc hv
  go_wp2
  refine HQ.out _ _ ?_ HR.out ((Chg.refl w (fun k => k = gc)).setCell (.inl rfl) _)
  exact (Fx.mk rfl rfl rfl rfl rfl rfl rfl rfl rfl rfl rfl rfl rfl rfl rfl rfl rfl rfl rfl rfl rfl rfl rfl rfl rfl rfl rfl rfl rfl rfl rfl rfl rfl rfl rfl rfl rfl rfl rfl rfl rfl rfl rfl rfl rfl rfl rfl rfl)
end Go.Proofs.Ybulkdgxk
