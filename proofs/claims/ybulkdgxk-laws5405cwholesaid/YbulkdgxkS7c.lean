/-
  LawS5405CWhole, the loops of its statements 30, 32, 34, 36, 40.
-/
import Derived.Test.YbulkdgxkS7a
import Derived.Test.YbulkdgxkS7b
namespace Go.Proofs.Ybulkdgxk
open Go.RowKit C
set_option linter.unusedVariables false
set_option linter.unusedSimpArgs false

theorem c30 : nav [1, 1, 1, 1, 1, 1, 1, 1, 1, 1, 1, 1, 1, 1, 1, 1, 1, 1, 1, 1, 1, 1, 1, 1, 1, 1, 1, 1, 1, 1, 0] (Yba.f4.body.getD .skip) = .seq (nav [1, 1, 1, 1, 1, 1, 1, 1, 1, 1, 1, 1, 1, 1, 1, 1, 1, 1, 1, 1, 1, 1, 1, 1, 1, 1, 1, 1, 1, 1, 0, 0] (Yba.f4.body.getD .skip)) (.block 20 (.loop (.seq (nav [1, 1, 1, 1, 1, 1, 1, 1, 1, 1, 1, 1, 1, 1, 1, 1, 1, 1, 1, 1, 1, 1, 1, 1, 1, 1, 1, 1, 1, 1, 0, 1, 2, 2, 0] (Yba.f4.body.getD .skip)) (.seq (.block 21 (.seq (nav [1, 1, 1, 1, 1, 1, 1, 1, 1, 1, 1, 1, 1, 1, 1, 1, 1, 1, 1, 1, 1, 1, 1, 1, 1, 1, 1, 1, 1, 1, 0, 1, 2, 2, 1, 0, 2, 0] (Yba.f4.body.getD .skip)) (nav [1, 1, 1, 1, 1, 1, 1, 1, 1, 1, 1, 1, 1, 1, 1, 1, 1, 1, 1, 1, 1, 1, 1, 1, 1, 1, 1, 1, 1, 1, 0, 1, 2, 2, 1, 0, 2, 1] (Yba.f4.body.getD .skip)))) (nav [1, 1, 1, 1, 1, 1, 1, 1, 1, 1, 1, 1, 1, 1, 1, 1, 1, 1, 1, 1, 1, 1, 1, 1, 1, 1, 1, 1, 1, 1, 0, 1, 2, 2, 1, 1] (Yba.f4.body.getD .skip)))))) := by kernel_rfl
set_option maxHeartbeats 1000000 in
/-- The whole loop. -/
theorem l30 (b0 o0 n c0 g ge T gu np : Nat) (U : Nat → Up) (f : Nat → Value) (e s1 : Nat → Int) (arr : Array Value) (w : World) (K : Act → World → Prop) (R : Ending → World → Prop) (v1 v2 v3 v4 v5 v6 v7 v8 v9 v10 v12 v13 v15 v16 v17 v18 v19 v20 v21 v22 v23 v24 v26 v27 v28 v29 v30 v32 v33 v34 v35 v36 v37 v38 v39 v40 v41 v42 v43 v44 v45 v46 : Value)
    (hn : n ≤ 65536) (hU : Ups w b0 o0 n U) (ho : RowF w g 21 n (ownF U np)) (he : RowF w ge 21 n (intF e)) (hes : ∀ i, i < n → s1 i = e i) (hf : f 17 = .slice (some ⟨gu, 0, none⟩) n n) (ht : RowF w T 79 140 f) (hu : RowF w gu 32 (n * 6) (usF U np s1))
    (hs : Fx arr (.slice (some ⟨b0, o0, none⟩) n c0) v1 v2 v3 v4 v5 v6 v7 v8 v9 v10 (.int .i64 n) v12 v13 (.slice (some ⟨g, 0, none⟩) n n) v15 v16 v17 v18 v19 v20 v21 v22 v23 v24 (.pointer (some ⟨T, 0, none⟩)) v26 v27 v28 v29 v30 (.slice (some ⟨ge, 0, none⟩) n n) v32 v33 v34 v35 v36 v37 v38 v39 v40 v41 v42 v43 v44 v45 v46)
    (HQ : ∀ arr' w' u40 u41, Fx arr' (.slice (some ⟨b0, o0, none⟩) n c0) v1 v2 v3 v4 v5 v6 v7 v8 v9 v10 (.int .i64 n) v12 v13 (.slice (some ⟨g, 0, none⟩) n n) v15 v16 v17 v18 v19 v20 v21 v22 v23 v24 (.pointer (some ⟨T, 0, none⟩)) v26 v27 v28 v29 v30 (.slice (some ⟨ge, 0, none⟩) n n) v32 v33 v34 v35 v36 v37 v38 v39 (u40) (u41) v42 v43 v44 v45 v46 → Chg w w' (fun _ => False) → K ⟨arr', []⟩ w') :
    Code.wp Yba.prog (nav [1, 1, 1, 1, 1, 1, 1, 1, 1, 1, 1, 1, 1, 1, 1, 1, 1, 1, 1, 1, 1, 1, 1, 1, 1, 1, 1, 1, 1, 1, 0] (Yba.f4.body.getD .skip)) (Exit.then K (bodyPost Yba.prog Yba.f4 R)) ⟨arr, []⟩ w := by
  rw [c30]
  refine wp_seq (s30i  arr w _ _ _ _ _ _ _ _ _ _ _ _ _ _ _ _ _ _ _ _ _ _ _ _ _ _ _ _ _ _ _ _ _ _ _ _ _ _ _ _ _ _ _ _ _ _ _ _ _ hs (fun arr1 f1 => ?_))
  refine wp_block ?_
  refine wp_loop (fun a w' => ∃ (arr' : Array Value) (k : Nat) (u41 : Value), a = ⟨arr', []⟩ ∧ Fx arr' (.slice (some ⟨b0, o0, none⟩) n c0) v1 v2 v3 v4 v5 v6 v7 v8 v9 v10 (.int .i64 n) v12 v13 (.slice (some ⟨g, 0, none⟩) n n) v15 v16 v17 v18 v19 v20 v21 v22 v23 v24 (.pointer (some ⟨T, 0, none⟩)) v26 v27 v28 v29 v30 (.slice (some ⟨ge, 0, none⟩) n n) v32 v33 v34 v35 v36 v37 v38 v39 (.int .i64 (k : Int)) (u41) v42 v43 v44 v45 v46 ∧ k ≤ n ∧ Chg w w' (fun _ => False)) (fun a _ => ((n : Int) - intOf (a.tmps.getD 40 undef)).toNat) ?_ ?_
  · exact ⟨arr1, 0, _, rfl, f1, Nat.zero_le _, Chg.refl _ _⟩
  · rintro a w' ⟨arr', k, u41, rfl, f0, hk, hchg⟩
    have hmu : intOf (arr'.getD 40 undef) = (k : Int) := by obtain ⟨_, h⟩ := f0; simp only [h]; simp [intOf]
    refine wp_seq (s30t n k arr' w' _ _ _ _ _ _ _ _ _ _ _ _ _ _ _ _ _ _ _ _ _ _ _ _ _ _ _ _ _ _ _ _ _ _ _ _ _ _ _ _ _ _ _ _ _ _ _ (by omega) f0 (fun arr2 f2 hlt => ?_) (fun arr2 f2 hkn => ?_))
    · refine wp_seq (wp_block ?_)
      refine wp_seq (of_Qp (R := R) (fun _ _ _ h => h) (s30a b0 o0 n c0 g ge k np U e arr2 w' _ _ R _ _ _ _ _ _ _ _ _ _ _ _ _ _ _ _ _ _ _ _ _ _ _ _ _ _ _ _ _ _ _ _ _ _ _ _ _ _ _ _ _ _ _ hlt hn (hU.chg hchg id) (ho.chg hchg id) (he.chg hchg id) f2 (fun arr3 w3 gw f3 g3 r3 => ?_)))
      have g3' := hchg.trans g3
      refine wp_last (of_Qp (R := R) (fun _ _ _ h => h) (s30b T gu n np k gw U f e s1 arr3 w3 _ _ R _ _ _ _ _ _ _ _ _ _ _ _ _ _ _ _ _ _ _ _ _ _ _ _ _ _ _ _ _ _ _ _ _ _ _ _ _ _ _ _ _ _ _ _ hlt hn (hes k hlt) hf (ht.chg g3' id) (hu.chg g3' id) r3 f3 (fun arr4 w4 f4 g4' => ?_)))
      have g4 := g3.trans g4'
      refine s30p k arr4 w4 _ _ _ _ _ _ _ _ _ _ _ _ _ _ _ _ _ _ _ _ _ _ _ _ _ _ _ _ _ _ _ _ _ _ _ _ _ _ _ _ _ _ _ _ _ _ _ _ (by omega) f4 (fun arr5 f5 => ?_)
      refine ⟨⟨arr5, k + 1, _, rfl, f5, by omega, hchg.trans g4⟩, ?_⟩
      have hmu5 : intOf (arr5.getD 40 undef) = ((k + 1 : Nat) : Int) := by obtain ⟨_, h⟩ := f5; simp only [h]; simp [intOf]
      show ((n : Int) - intOf (arr5.getD 40 undef)).toNat < _
      rw [hmu, hmu5]; omega
    · exact HQ arr2 w' _ _ f2 hchg

theorem c32 : nav [1, 1, 1, 1, 1, 1, 1, 1, 1, 1, 1, 1, 1, 1, 1, 1, 1, 1, 1, 1, 1, 1, 1, 1, 1, 1, 1, 1, 1, 1, 1, 1, 0] (Yba.f4.body.getD .skip) = .seq (nav [1, 1, 1, 1, 1, 1, 1, 1, 1, 1, 1, 1, 1, 1, 1, 1, 1, 1, 1, 1, 1, 1, 1, 1, 1, 1, 1, 1, 1, 1, 1, 1, 0, 0] (Yba.f4.body.getD .skip)) (.block 22 (.loop (.seq (nav [1, 1, 1, 1, 1, 1, 1, 1, 1, 1, 1, 1, 1, 1, 1, 1, 1, 1, 1, 1, 1, 1, 1, 1, 1, 1, 1, 1, 1, 1, 1, 1, 0, 1, 2, 2, 0] (Yba.f4.body.getD .skip)) (.seq (.block 23 (nav [1, 1, 1, 1, 1, 1, 1, 1, 1, 1, 1, 1, 1, 1, 1, 1, 1, 1, 1, 1, 1, 1, 1, 1, 1, 1, 1, 1, 1, 1, 1, 1, 0, 1, 2, 2, 1, 0, 2] (Yba.f4.body.getD .skip))) (nav [1, 1, 1, 1, 1, 1, 1, 1, 1, 1, 1, 1, 1, 1, 1, 1, 1, 1, 1, 1, 1, 1, 1, 1, 1, 1, 1, 1, 1, 1, 1, 1, 0, 1, 2, 2, 1, 1] (Yba.f4.body.getD .skip)))))) := by kernel_rfl
set_option maxHeartbeats 1000000 in
/-- The whole loop. -/
theorem l32 (T gl gel np : Nat) (f : Nat → Value) (y1 y2 : Nat → Int) (arr : Array Value) (w : World) (K : Act → World → Prop) (R : Ending → World → Prop) (v0 v1 v2 v3 v4 v5 v6 v7 v8 v9 v10 v11 v13 v14 v15 v16 v17 v18 v19 v20 v21 v22 v23 v24 v26 v27 v28 v29 v30 v31 v33 v34 v35 v36 v37 v38 v39 v40 v41 v42 v43 v44 v45 v46 : Value)
    (hp8 : np ≤ 8) (hf : f 22 = .slice (some ⟨gl, 0, none⟩) np np) (ht : RowF w T 79 140 f) (h1 : RowF w gl 21 np (intF y1)) (h2 : RowF w gel 21 np (intF y2)) (hy : ∀ p, p < np → y2 p = y1 p)
    (hs : Fx arr v0 v1 v2 v3 v4 v5 v6 v7 v8 v9 v10 v11 (.int .i64 np) v13 v14 v15 v16 v17 v18 v19 v20 v21 v22 v23 v24 (.pointer (some ⟨T, 0, none⟩)) v26 v27 v28 v29 v30 v31 (.slice (some ⟨gel, 0, none⟩) np np) v33 v34 v35 v36 v37 v38 v39 v40 v41 v42 v43 v44 v45 v46)
    (HQ : ∀ arr' w' u42, Fx arr' v0 v1 v2 v3 v4 v5 v6 v7 v8 v9 v10 v11 (.int .i64 np) v13 v14 v15 v16 v17 v18 v19 v20 v21 v22 v23 v24 (.pointer (some ⟨T, 0, none⟩)) v26 v27 v28 v29 v30 v31 (.slice (some ⟨gel, 0, none⟩) np np) v33 v34 v35 v36 v37 v38 v39 v40 v41 (u42) v43 v44 v45 v46 → Chg w w' (fun _ => False) → K ⟨arr', []⟩ w') :
    Code.wp Yba.prog (nav [1, 1, 1, 1, 1, 1, 1, 1, 1, 1, 1, 1, 1, 1, 1, 1, 1, 1, 1, 1, 1, 1, 1, 1, 1, 1, 1, 1, 1, 1, 1, 1, 0] (Yba.f4.body.getD .skip)) (Exit.then K (bodyPost Yba.prog Yba.f4 R)) ⟨arr, []⟩ w := by
  rw [c32]
  refine wp_seq (s32i  arr w _ _ _ _ _ _ _ _ _ _ _ _ _ _ _ _ _ _ _ _ _ _ _ _ _ _ _ _ _ _ _ _ _ _ _ _ _ _ _ _ _ _ _ _ _ _ _ _ _ hs (fun arr1 f1 => ?_))
  refine wp_block ?_
  refine wp_loop (fun a w' => ∃ (arr' : Array Value) (k : Nat), a = ⟨arr', []⟩ ∧ Fx arr' v0 v1 v2 v3 v4 v5 v6 v7 v8 v9 v10 v11 (.int .i64 np) v13 v14 v15 v16 v17 v18 v19 v20 v21 v22 v23 v24 (.pointer (some ⟨T, 0, none⟩)) v26 v27 v28 v29 v30 v31 (.slice (some ⟨gel, 0, none⟩) np np) v33 v34 v35 v36 v37 v38 v39 v40 v41 (.int .i64 (k : Int)) v43 v44 v45 v46 ∧ k ≤ np ∧ Chg w w' (fun _ => False)) (fun a _ => ((np : Int) - intOf (a.tmps.getD 42 undef)).toNat) ?_ ?_
  · exact ⟨arr1, 0, rfl, f1, Nat.zero_le _, Chg.refl _ _⟩
  · rintro a w' ⟨arr', k, rfl, f0, hk, hchg⟩
    have hmu : intOf (arr'.getD 42 undef) = (k : Int) := by obtain ⟨_, h⟩ := f0; simp only [h]; simp [intOf]
    refine wp_seq (s32t np k arr' w' _ _ _ _ _ _ _ _ _ _ _ _ _ _ _ _ _ _ _ _ _ _ _ _ _ _ _ _ _ _ _ _ _ _ _ _ _ _ _ _ _ _ _ _ _ _ _ (by omega) f0 (fun arr2 f2 hlt => ?_) (fun arr2 f2 hkn => ?_))
    · refine wp_seq (wp_block ?_)
      have q2 := (h2.chg hchg id).cell hlt
      simp only [intF, hy k hlt] at q2
      refine wp_last (of_Qp (R := R) (fun _ _ _ h => h) (s32b T gl gel np k f (y1 k) arr2 w' _ _ R _ _ _ _ _ _ _ _ _ _ _ _ _ _ _ _ _ _ _ _ _ _ _ _ _ _ _ _ _ _ _ _ _ _ _ _ _ _ _ _ _ _ _ _ hlt hf (ht.chg hchg id) ((h1.chg hchg id).cell hlt) q2 f2 (fun arr4 w4 f4 g4 => ?_)))
      refine s32p k arr4 w4 _ _ _ _ _ _ _ _ _ _ _ _ _ _ _ _ _ _ _ _ _ _ _ _ _ _ _ _ _ _ _ _ _ _ _ _ _ _ _ _ _ _ _ _ _ _ _ _ (by omega) f4 (fun arr5 f5 => ?_)
      refine ⟨⟨arr5, k + 1, rfl, f5, by omega, hchg.trans g4⟩, ?_⟩
      have hmu5 : intOf (arr5.getD 42 undef) = ((k + 1 : Nat) : Int) := by obtain ⟨_, h⟩ := f5; simp only [h]; simp [intOf]
      show ((np : Int) - intOf (arr5.getD 42 undef)).toNat < _
      rw [hmu, hmu5]; omega
    · exact HQ arr2 w' _ f2 hchg

theorem c34 : nav [1, 1, 1, 1, 1, 1, 1, 1, 1, 1, 1, 1, 1, 1, 1, 1, 1, 1, 1, 1, 1, 1, 1, 1, 1, 1, 1, 1, 1, 1, 1, 1, 1, 1, 0] (Yba.f4.body.getD .skip) = .seq (nav [1, 1, 1, 1, 1, 1, 1, 1, 1, 1, 1, 1, 1, 1, 1, 1, 1, 1, 1, 1, 1, 1, 1, 1, 1, 1, 1, 1, 1, 1, 1, 1, 1, 1, 0, 0] (Yba.f4.body.getD .skip)) (.block 24 (.loop (.seq (nav [1, 1, 1, 1, 1, 1, 1, 1, 1, 1, 1, 1, 1, 1, 1, 1, 1, 1, 1, 1, 1, 1, 1, 1, 1, 1, 1, 1, 1, 1, 1, 1, 1, 1, 0, 1, 2, 2, 0] (Yba.f4.body.getD .skip)) (.seq (.block 25 (nav [1, 1, 1, 1, 1, 1, 1, 1, 1, 1, 1, 1, 1, 1, 1, 1, 1, 1, 1, 1, 1, 1, 1, 1, 1, 1, 1, 1, 1, 1, 1, 1, 1, 1, 0, 1, 2, 2, 1, 0, 2] (Yba.f4.body.getD .skip))) (nav [1, 1, 1, 1, 1, 1, 1, 1, 1, 1, 1, 1, 1, 1, 1, 1, 1, 1, 1, 1, 1, 1, 1, 1, 1, 1, 1, 1, 1, 1, 1, 1, 1, 1, 0, 1, 2, 2, 1, 1] (Yba.f4.body.getD .skip)))))) := by kernel_rfl
set_option maxHeartbeats 1000000 in
/-- The whole loop. -/
theorem l34 (T gg gc n cap : Nat) (f : Nat → Value) (y1 : Nat → Int) (arr : Array Value) (w : World) (K : Act → World → Prop) (R : Ending → World → Prop) (v0 v1 v2 v3 v4 v5 v6 v7 v8 v9 v10 v11 v12 v13 v14 v15 v16 v17 v18 v19 v20 v21 v22 v24 v26 v27 v28 v29 v30 v31 v32 v33 v34 v35 v36 v37 v38 v39 v40 v41 v42 v43 v44 v45 v46 : Value)
    (hn : n ≤ 65536) (hf : f 18 = .slice (some ⟨gg, 0, none⟩) n cap) (ht : RowF w T 79 140 f) (h1 : RowF w gg 21 n (intF y1)) (h2 : RowF w gc 21 n (intF y1))
    (hs : Fx arr v0 v1 v2 v3 v4 v5 v6 v7 v8 v9 v10 v11 v12 v13 v14 v15 v16 v17 v18 v19 v20 v21 v22 (.slice (some ⟨gc, 0, none⟩) n n) v24 (.pointer (some ⟨T, 0, none⟩)) v26 v27 v28 v29 v30 v31 v32 v33 v34 v35 v36 v37 v38 v39 v40 v41 v42 v43 v44 v45 v46)
    (HQ : ∀ arr' w' u43, Fx arr' v0 v1 v2 v3 v4 v5 v6 v7 v8 v9 v10 v11 v12 v13 v14 v15 v16 v17 v18 v19 v20 v21 v22 (.slice (some ⟨gc, 0, none⟩) n n) v24 (.pointer (some ⟨T, 0, none⟩)) v26 v27 v28 v29 v30 v31 v32 v33 v34 v35 v36 v37 v38 v39 v40 v41 v42 (u43) v44 v45 v46 → Chg w w' (fun _ => False) → K ⟨arr', []⟩ w') :
    Code.wp Yba.prog (nav [1, 1, 1, 1, 1, 1, 1, 1, 1, 1, 1, 1, 1, 1, 1, 1, 1, 1, 1, 1, 1, 1, 1, 1, 1, 1, 1, 1, 1, 1, 1, 1, 1, 1, 0] (Yba.f4.body.getD .skip)) (Exit.then K (bodyPost Yba.prog Yba.f4 R)) ⟨arr, []⟩ w := by
  rw [c34]
  refine wp_seq (s34i  arr w _ _ _ _ _ _ _ _ _ _ _ _ _ _ _ _ _ _ _ _ _ _ _ _ _ _ _ _ _ _ _ _ _ _ _ _ _ _ _ _ _ _ _ _ _ _ _ _ _ hs (fun arr1 f1 => ?_))
  refine wp_block ?_
  refine wp_loop (fun a w' => ∃ (arr' : Array Value) (k : Nat), a = ⟨arr', []⟩ ∧ Fx arr' v0 v1 v2 v3 v4 v5 v6 v7 v8 v9 v10 v11 v12 v13 v14 v15 v16 v17 v18 v19 v20 v21 v22 (.slice (some ⟨gc, 0, none⟩) n n) v24 (.pointer (some ⟨T, 0, none⟩)) v26 v27 v28 v29 v30 v31 v32 v33 v34 v35 v36 v37 v38 v39 v40 v41 v42 (.int .i64 (k : Int)) v44 v45 v46 ∧ k ≤ n ∧ Chg w w' (fun _ => False)) (fun a _ => ((n : Int) - intOf (a.tmps.getD 43 undef)).toNat) ?_ ?_
  · exact ⟨arr1, 0, rfl, f1, Nat.zero_le _, Chg.refl _ _⟩
  · rintro a w' ⟨arr', k, rfl, f0, hk, hchg⟩
    have hmu : intOf (arr'.getD 43 undef) = (k : Int) := by obtain ⟨_, h⟩ := f0; simp only [h]; simp [intOf]
    refine wp_seq (s34t n k gc arr' w' _ _ _ _ _ _ _ _ _ _ _ _ _ _ _ _ _ _ _ _ _ _ _ _ _ _ _ _ _ _ _ _ _ _ _ _ _ _ _ _ _ _ _ _ _ _ _ hk f0 (fun arr2 f2 hlt => ?_) (fun arr2 f2 hkn => ?_))
    · refine wp_seq (wp_block ?_)
      refine wp_last (of_Qp (R := R) (fun _ _ _ h => h) (s34b T gg gc n cap k f (y1 k) arr2 w' _ _ R _ _ _ _ _ _ _ _ _ _ _ _ _ _ _ _ _ _ _ _ _ _ _ _ _ _ _ _ _ _ _ _ _ _ _ _ _ _ _ _ _ _ _ _ hlt hf (ht.chg hchg id) ((h1.chg hchg id).cell hlt) ((h2.chg hchg id).cell hlt) f2 (fun arr4 w4 f4 g4 => ?_)))
      refine s34p k arr4 w4 _ _ _ _ _ _ _ _ _ _ _ _ _ _ _ _ _ _ _ _ _ _ _ _ _ _ _ _ _ _ _ _ _ _ _ _ _ _ _ _ _ _ _ _ _ _ _ _ (by omega) f4 (fun arr5 f5 => ?_)
      refine ⟨⟨arr5, k + 1, rfl, f5, by omega, hchg.trans g4⟩, ?_⟩
      have hmu5 : intOf (arr5.getD 43 undef) = ((k + 1 : Nat) : Int) := by obtain ⟨_, h⟩ := f5; simp only [h]; simp [intOf]
      show ((n : Int) - intOf (arr5.getD 43 undef)).toNat < _
      rw [hmu, hmu5]; omega
    · exact HQ arr2 w' _ f2 hchg

/-- The freed ones that came in. -/
def Fd (w : World) (B : Nat) (af : Option Addr) (nf : Nat) (F : Nat → Int) : Prop :=
  B ≤ w.heap.size ∧ (0 < nf → ∃ bf of, af = some ⟨bf, of, none⟩ ∧ bf < B ∧ ∀ j, j < nf → w.cell? ⟨bf, of + j, none⟩ = some (.int .i32 (F j)))
theorem Fd.chg {w w' : World} {B : Nat} {af : Option Addr} {nf : Nat} {F : Nat → Int} (h : Fd w B af nf F) {Z : Nat → Prop} (hc : Chg w w' Z) (hz : ∀ k, k < B → ¬ Z k) : Fd w' B af nf F := by
  obtain ⟨h1, h2⟩ := h
  refine ⟨Nat.le_trans h1 hc.size, fun h0 => ?_⟩
  obtain ⟨bl, ol, e, hb, hl⟩ := h2 h0
  exact ⟨bl, ol, e, hb, fun j hj => (hc.cell (by omega) (hz _ hb)).trans (hl j hj)⟩

theorem c36 : nav [1, 1, 1, 1, 1, 1, 1, 1, 1, 1, 1, 1, 1, 1, 1, 1, 1, 1, 1, 1, 1, 1, 1, 1, 1, 1, 1, 1, 1, 1, 1, 1, 1, 1, 1, 1, 0] (Yba.f4.body.getD .skip) = .seq (nav [1, 1, 1, 1, 1, 1, 1, 1, 1, 1, 1, 1, 1, 1, 1, 1, 1, 1, 1, 1, 1, 1, 1, 1, 1, 1, 1, 1, 1, 1, 1, 1, 1, 1, 1, 1, 0, 0] (Yba.f4.body.getD .skip)) (.block 26 (.loop (.seq (nav [1, 1, 1, 1, 1, 1, 1, 1, 1, 1, 1, 1, 1, 1, 1, 1, 1, 1, 1, 1, 1, 1, 1, 1, 1, 1, 1, 1, 1, 1, 1, 1, 1, 1, 1, 1, 0, 1, 2, 2, 0] (Yba.f4.body.getD .skip)) (.seq (.block 27 (nav [1, 1, 1, 1, 1, 1, 1, 1, 1, 1, 1, 1, 1, 1, 1, 1, 1, 1, 1, 1, 1, 1, 1, 1, 1, 1, 1, 1, 1, 1, 1, 1, 1, 1, 1, 1, 0, 1, 2, 2, 1, 0, 2] (Yba.f4.body.getD .skip))) (nav [1, 1, 1, 1, 1, 1, 1, 1, 1, 1, 1, 1, 1, 1, 1, 1, 1, 1, 1, 1, 1, 1, 1, 1, 1, 1, 1, 1, 1, 1, 1, 1, 1, 1, 1, 1, 0, 1, 2, 2, 1, 1] (Yba.f4.body.getD .skip)))))) := by kernel_rfl
set_option maxHeartbeats 1000000 in
/-- The whole loop. -/
theorem l36 (T gf nf cf capf B : Nat) (af : Option Addr) (f : Nat → Value) (F y1 : Nat → Int) (arr : Array Value) (w : World) (K : Act → World → Prop) (R : Ending → World → Prop) (v0 v1 v2 v4 v5 v6 v7 v8 v9 v10 v11 v12 v13 v14 v15 v16 v17 v18 v19 v20 v21 v22 v23 v24 v26 v27 v28 v29 v30 v31 v32 v33 v34 v35 v36 v37 v38 v39 v40 v41 v42 v43 v44 v45 v46 : Value)
    (hnf : nf ≤ 1048576) (hf : f 32 = .slice (some ⟨gf, 0, none⟩) (nf + 1 : Nat) capf) (ht : RowF w T 79 140 f) (h1 : RowF w gf 21 (nf + 1) (intF y1)) (hF : Fd w B af nf F) (hy : ∀ j, j < nf → y1 j = F j)
    (hs : Fx arr v0 v1 v2 (.slice af nf cf) v4 v5 v6 v7 v8 v9 v10 v11 v12 v13 v14 v15 v16 v17 v18 v19 v20 v21 v22 v23 v24 (.pointer (some ⟨T, 0, none⟩)) v26 v27 v28 v29 v30 v31 v32 v33 v34 v35 v36 v37 v38 v39 v40 v41 v42 v43 v44 v45 v46)
    (HQ : ∀ arr' w' u44, Fx arr' v0 v1 v2 (.slice af nf cf) v4 v5 v6 v7 v8 v9 v10 v11 v12 v13 v14 v15 v16 v17 v18 v19 v20 v21 v22 v23 v24 (.pointer (some ⟨T, 0, none⟩)) v26 v27 v28 v29 v30 v31 v32 v33 v34 v35 v36 v37 v38 v39 v40 v41 v42 v43 (u44) v45 v46 → Chg w w' (fun _ => False) → K ⟨arr', []⟩ w') :
    Code.wp Yba.prog (nav [1, 1, 1, 1, 1, 1, 1, 1, 1, 1, 1, 1, 1, 1, 1, 1, 1, 1, 1, 1, 1, 1, 1, 1, 1, 1, 1, 1, 1, 1, 1, 1, 1, 1, 1, 1, 0] (Yba.f4.body.getD .skip)) (Exit.then K (bodyPost Yba.prog Yba.f4 R)) ⟨arr, []⟩ w := by
  rw [c36]
  refine wp_seq (s36i  arr w _ _ _ _ _ _ _ _ _ _ _ _ _ _ _ _ _ _ _ _ _ _ _ _ _ _ _ _ _ _ _ _ _ _ _ _ _ _ _ _ _ _ _ _ _ _ _ _ _ hs (fun arr1 f1 => ?_))
  refine wp_block ?_
  refine wp_loop (fun a w' => ∃ (arr' : Array Value) (k : Nat), a = ⟨arr', []⟩ ∧ Fx arr' v0 v1 v2 (.slice af nf cf) v4 v5 v6 v7 v8 v9 v10 v11 v12 v13 v14 v15 v16 v17 v18 v19 v20 v21 v22 v23 v24 (.pointer (some ⟨T, 0, none⟩)) v26 v27 v28 v29 v30 v31 v32 v33 v34 v35 v36 v37 v38 v39 v40 v41 v42 v43 (.int .i64 (k : Int)) v45 v46 ∧ k ≤ nf ∧ Chg w w' (fun _ => False)) (fun a _ => ((nf : Int) - intOf (a.tmps.getD 44 undef)).toNat) ?_ ?_
  · exact ⟨arr1, 0, rfl, f1, Nat.zero_le _, Chg.refl _ _⟩
  · rintro a w' ⟨arr', k, rfl, f0, hk, hchg⟩
    have hmu : intOf (arr'.getD 44 undef) = (k : Int) := by obtain ⟨_, h⟩ := f0; simp only [h]; simp [intOf]
    refine wp_seq (s36t nf k cf af arr' w' _ _ _ _ _ _ _ _ _ _ _ _ _ _ _ _ _ _ _ _ _ _ _ _ _ _ _ _ _ _ _ _ _ _ _ _ _ _ _ _ _ _ _ _ _ _ _ hk f0 (fun arr2 f2 hlt => ?_) (fun arr2 f2 hkn => ?_))
    · refine wp_seq (wp_block ?_)
      have q1 := (h1.chg hchg id).cell (i := k) (by omega)
      simp only [intF, hy k hlt] at q1
      obtain ⟨bf, of, rfl, _, hcl⟩ := (hF.chg hchg (fun _ _ => id)).2 (by omega)
      refine wp_last (of_Qp (R := R) (fun _ _ _ h => h) (s36b T gf bf of nf cf capf k f (F k) arr2 w' _ _ R _ _ _ _ _ _ _ _ _ _ _ _ _ _ _ _ _ _ _ _ _ _ _ _ _ _ _ _ _ _ _ _ _ _ _ _ _ _ _ _ _ _ _ _ hlt hf (ht.chg hchg id) q1 (hcl k hlt) f2 (fun arr4 w4 f4 g4 => ?_)))
      refine s36p k arr4 w4 _ _ _ _ _ _ _ _ _ _ _ _ _ _ _ _ _ _ _ _ _ _ _ _ _ _ _ _ _ _ _ _ _ _ _ _ _ _ _ _ _ _ _ _ _ _ _ _ (by omega) f4 (fun arr5 f5 => ?_)
      refine ⟨⟨arr5, k + 1, rfl, f5, by omega, hchg.trans g4⟩, ?_⟩
      have hmu5 : intOf (arr5.getD 44 undef) = ((k + 1 : Nat) : Int) := by obtain ⟨_, h⟩ := f5; simp only [h]; simp [intOf]
      show ((nf : Int) - intOf (arr5.getD 44 undef)).toNat < _
      rw [hmu, hmu5]; omega
    · exact HQ arr2 w' _ f2 hchg

theorem upd_byteF' (f : Nat → Int) (i : Nat) (v : Int) : upd (byteF f) i (.int .u8 v) = byteF (updI f i v) := by
  funext j; unfold upd byteF updI; split <;> rfl
theorem c40b : nav [1, 1, 1, 1, 1, 1, 1, 1, 1, 1, 1, 1, 1, 1, 1, 1, 1, 1, 1, 1, 1, 1, 1, 1, 1, 1, 1, 1, 1, 1, 1, 1, 1, 1, 1, 1, 1, 1, 1, 1, 0, 1, 2, 2, 1, 0, 2, 0, 1] (Yba.f4.body.getD .skip) = .block 30 (.loop (.seq (nav [1, 1, 1, 1, 1, 1, 1, 1, 1, 1, 1, 1, 1, 1, 1, 1, 1, 1, 1, 1, 1, 1, 1, 1, 1, 1, 1, 1, 1, 1, 1, 1, 1, 1, 1, 1, 1, 1, 1, 1, 0, 1, 2, 2, 1, 0, 2, 0, 1, 2, 2, 0] (Yba.f4.body.getD .skip)) (.seq (.block 31 (nav [1, 1, 1, 1, 1, 1, 1, 1, 1, 1, 1, 1, 1, 1, 1, 1, 1, 1, 1, 1, 1, 1, 1, 1, 1, 1, 1, 1, 1, 1, 1, 1, 1, 1, 1, 1, 1, 1, 1, 1, 0, 1, 2, 2, 1, 0, 2, 0, 1, 2, 2, 1, 0, 2] (Yba.f4.body.getD .skip))) (nav [1, 1, 1, 1, 1, 1, 1, 1, 1, 1, 1, 1, 1, 1, 1, 1, 1, 1, 1, 1, 1, 1, 1, 1, 1, 1, 1, 1, 1, 1, 1, 1, 1, 1, 1, 1, 1, 1, 1, 1, 0, 1, 2, 2, 1, 0, 2, 0, 1, 2, 2, 1, 1] (Yba.f4.body.getD .skip))))) := by kernel_rfl
theorem c40 : nav [1, 1, 1, 1, 1, 1, 1, 1, 1, 1, 1, 1, 1, 1, 1, 1, 1, 1, 1, 1, 1, 1, 1, 1, 1, 1, 1, 1, 1, 1, 1, 1, 1, 1, 1, 1, 1, 1, 1, 1, 0] (Yba.f4.body.getD .skip) = .seq (nav [1, 1, 1, 1, 1, 1, 1, 1, 1, 1, 1, 1, 1, 1, 1, 1, 1, 1, 1, 1, 1, 1, 1, 1, 1, 1, 1, 1, 1, 1, 1, 1, 1, 1, 1, 1, 1, 1, 1, 1, 0, 0] (Yba.f4.body.getD .skip)) (.block 28 (.loop (.seq (nav [1, 1, 1, 1, 1, 1, 1, 1, 1, 1, 1, 1, 1, 1, 1, 1, 1, 1, 1, 1, 1, 1, 1, 1, 1, 1, 1, 1, 1, 1, 1, 1, 1, 1, 1, 1, 1, 1, 1, 1, 0, 1, 2, 2, 0] (Yba.f4.body.getD .skip)) (.seq (.block 29 (.seq (.seq (nav [1, 1, 1, 1, 1, 1, 1, 1, 1, 1, 1, 1, 1, 1, 1, 1, 1, 1, 1, 1, 1, 1, 1, 1, 1, 1, 1, 1, 1, 1, 1, 1, 1, 1, 1, 1, 1, 1, 1, 1, 0, 1, 2, 2, 1, 0, 2, 0, 0] (Yba.f4.body.getD .skip)) (nav [1, 1, 1, 1, 1, 1, 1, 1, 1, 1, 1, 1, 1, 1, 1, 1, 1, 1, 1, 1, 1, 1, 1, 1, 1, 1, 1, 1, 1, 1, 1, 1, 1, 1, 1, 1, 1, 1, 1, 1, 0, 1, 2, 2, 1, 0, 2, 0, 1] (Yba.f4.body.getD .skip))) (nav [1, 1, 1, 1, 1, 1, 1, 1, 1, 1, 1, 1, 1, 1, 1, 1, 1, 1, 1, 1, 1, 1, 1, 1, 1, 1, 1, 1, 1, 1, 1, 1, 1, 1, 1, 1, 1, 1, 1, 1, 0, 1, 2, 2, 1, 0, 2, 1] (Yba.f4.body.getD .skip)))) (nav [1, 1, 1, 1, 1, 1, 1, 1, 1, 1, 1, 1, 1, 1, 1, 1, 1, 1, 1, 1, 1, 1, 1, 1, 1, 1, 1, 1, 1, 1, 1, 1, 1, 1, 1, 1, 1, 1, 1, 1, 0, 1, 2, 2, 1, 1] (Yba.f4.body.getD .skip)))))) := by kernel_rfl
set_option maxHeartbeats 1000000 in
/-- for k := 0; k < counts[p]; k++ -/
theorem l40b (T gup gc np capu p : Nat) (c : Int) (f : Nat → Value) (h : Nat → Int) (arr : Array Value) (w : World) (K : Act → World → Prop) (Q : Exit → Act → World → Prop) (v0 v1 v2 v3 v4 v5 v6 v7 v8 v9 v10 v11 v12 v13 v14 v15 v16 v17 v18 v19 v20 v21 v22 v23 v24 v27 v28 v29 v30 v31 v32 v33 v34 v35 v36 v37 v38 v39 v40 v41 v42 v43 v44 : Value)
    (hp : p < np) (hc0 : 0 ≤ c ∧ c ≤ 4) (hpc : h p = c) (hf : f 13 = .slice (some ⟨gup, 0, none⟩) np capu) (ht : RowF w T 79 140 f) (hg : RowF w gup 5 np (byteF h)) (hc : w.cell? ⟨gc, p, none⟩ = some (.int .i64 c)) (hgc : gc < w.heap.size) (ne : ¬ T = gup ∧ ¬ gc = gup)
    (hs : Fx arr v0 v1 v2 v3 v4 v5 v6 v7 v8 v9 v10 v11 v12 v13 v14 v15 v16 v17 v18 v19 v20 v21 v22 v23 v24 (.pointer (some ⟨T, 0, none⟩)) (.slice (some ⟨gc, 0, none⟩) np np) v27 v28 v29 v30 v31 v32 v33 v34 v35 v36 v37 v38 v39 v40 v41 v42 v43 v44 (.int .i64 p) (.int .i64 ((0 : Nat) : Int)))
    (HQ : ∀ arr' w' u46, Fx arr' v0 v1 v2 v3 v4 v5 v6 v7 v8 v9 v10 v11 v12 v13 v14 v15 v16 v17 v18 v19 v20 v21 v22 v23 v24 (.pointer (some ⟨T, 0, none⟩)) (.slice (some ⟨gc, 0, none⟩) np np) v27 v28 v29 v30 v31 v32 v33 v34 v35 v36 v37 v38 v39 v40 v41 v42 v43 v44 (.int .i64 p) (u46) → RowF w' gup 5 np (byteF (updI h p 0)) → Chg w w' (fun j => j = gup) → K ⟨arr', []⟩ w') :
    Code.wp Yba.prog (nav [1, 1, 1, 1, 1, 1, 1, 1, 1, 1, 1, 1, 1, 1, 1, 1, 1, 1, 1, 1, 1, 1, 1, 1, 1, 1, 1, 1, 1, 1, 1, 1, 1, 1, 1, 1, 1, 1, 1, 1, 0, 1, 2, 2, 1, 0, 2, 0, 1] (Yba.f4.body.getD .skip)) (Exit.then K Q) ⟨arr, []⟩ w := by
  rw [c40b]
  obtain ⟨n1, n2⟩ := ne
  refine wp_block ?_
  refine wp_loop (fun a w' => ∃ (arr' : Array Value) (k : Nat), a = ⟨arr', []⟩ ∧ Fx arr' v0 v1 v2 v3 v4 v5 v6 v7 v8 v9 v10 v11 v12 v13 v14 v15 v16 v17 v18 v19 v20 v21 v22 v23 v24 (.pointer (some ⟨T, 0, none⟩)) (.slice (some ⟨gc, 0, none⟩) np np) v27 v28 v29 v30 v31 v32 v33 v34 v35 v36 v37 v38 v39 v40 v41 v42 v43 v44 (.int .i64 p) (.int .i64 (k : Int)) ∧ (k : Int) ≤ c ∧ RowF w' gup 5 np (byteF (updI h p (c - k))) ∧ Chg w w' (fun j => j = gup)) (fun a _ => (c - intOf (a.tmps.getD 46 undef)).toNat) ?_ ?_
  · refine ⟨arr, 0, rfl, hs, hc0.1, hg.congr (fun i _ => ?_), Chg.refl _ _⟩
    show Value.int .u8 (h i) = .int .u8 (updI h p (c - (0 : Nat)) i)
    by_cases e : i = p
    · subst e; rw [updI_same, hpc]; simp
    · rw [updI_ne _ _ _ _ e]
  · rintro a w' ⟨arr', k, rfl, f', hk, hg', hchg⟩
    have hmu : intOf (arr'.getD 46 undef) = (k : Int) := by obtain ⟨_, h⟩ := f'; simp only [h]; simp [intOf]
    refine wp_seq (s40t2 np gc p k c arr' w' _ _ _ _ _ _ _ _ _ _ _ _ _ _ _ _ _ _ _ _ _ _ _ _ _ _ _ _ _ _ _ _ _ _ _ _ _ _ _ _ _ _ _ _ _ _ hp ((hchg.cell hgc (fun e => n2 e)).trans hc) hk f' (fun arr2 f2 hlt => ?_) (fun arr2 f2 hkn => ?_))
    · refine wp_seq (wp_block ?_)
      have q := hg'.cell hp
      simp only [byteF, updI_same] at q
      refine wp_last (s40b T gup np capu p (c - k) f arr2 w' _ _ _ _ _ _ _ _ _ _ _ _ _ _ _ _ _ _ _ _ _ _ _ _ _ _ _ _ _ _ _ _ _ _ _ _ _ _ _ _ _ _ _ _ _ _ _ hp (by omega) hf (ht.chg hchg (fun e => n1 e)) q (hg'.free p) f2 (fun arr4 f4 => ?_))
      have hg4 := hg'.set p (.int .u8 (c - k - 1))
      rw [upd_byteF'] at hg4
      refine s40p2 k arr4 _ _ _ _ _ _ _ _ _ _ _ _ _ _ _ _ _ _ _ _ _ _ _ _ _ _ _ _ _ _ _ _ _ _ _ _ _ _ _ _ _ _ _ _ _ _ _ _ _ (by omega) f4 (fun arr5 f5 => ?_)
      refine ⟨⟨arr5, k + 1, rfl, f5, by omega, hg4.congr (fun i _ => ?_), hchg.setCell (.inl rfl) _⟩, ?_⟩
      · show Value.int .u8 (updI (updI h p (c - k)) p (c - k - 1) i) = .int .u8 (updI h p (c - (k + 1 : Nat)) i)
        by_cases e : i = p
        · subst e; rw [updI_same, updI_same]; congr 1; omega
        · rw [updI_ne _ _ _ _ e, updI_ne _ _ _ _ e, updI_ne _ _ _ _ e]
      · have hmu5 : intOf (arr5.getD 46 undef) = ((k + 1 : Nat) : Int) := by obtain ⟨_, h⟩ := f5; simp only [h]; simp [intOf]
        show (c - intOf (arr5.getD 46 undef)).toNat < _
        rw [hmu, hmu5]; omega
    · rw [hkn, Int.sub_self] at hg'
      exact HQ arr2 w' _ f2 hg' hchg

set_option maxHeartbeats 1000000 in
/-- The whole loop. -/
theorem l40 (T gup gc np capu : Nat) (f : Nat → Value) (h : Nat → Int) (arr : Array Value) (w : World) (K : Act → World → Prop) (R : Ending → World → Prop) (v0 v1 v2 v3 v4 v5 v6 v7 v8 v9 v10 v11 v13 v14 v15 v16 v17 v18 v19 v20 v21 v22 v23 v24 v27 v28 v29 v30 v31 v32 v33 v34 v35 v36 v37 v38 v39 v40 v41 v42 v43 v44 v45 v46 : Value)
    (hp8 : np ≤ 8) (hc0 : ∀ p, p < np → 0 ≤ h p ∧ h p ≤ 4) (hf : f 13 = .slice (some ⟨gup, 0, none⟩) np capu) (ht : RowF w T 79 140 f) (hg : RowF w gup 5 np (byteF h)) (hc : RowF w gc 3 np (fun j => .int .i64 (h j))) (ne : ¬ T = gup ∧ ¬ gc = gup)
    (hs : Fx arr v0 v1 v2 v3 v4 v5 v6 v7 v8 v9 v10 v11 (.int .i64 np) v13 v14 v15 v16 v17 v18 v19 v20 v21 v22 v23 v24 (.pointer (some ⟨T, 0, none⟩)) (.slice (some ⟨gc, 0, none⟩) np np) v27 v28 v29 v30 v31 v32 v33 v34 v35 v36 v37 v38 v39 v40 v41 v42 v43 v44 v45 v46)
    (HQ : ∀ arr' w' u45 u46, Fx arr' v0 v1 v2 v3 v4 v5 v6 v7 v8 v9 v10 v11 (.int .i64 np) v13 v14 v15 v16 v17 v18 v19 v20 v21 v22 v23 v24 (.pointer (some ⟨T, 0, none⟩)) (.slice (some ⟨gc, 0, none⟩) np np) v27 v28 v29 v30 v31 v32 v33 v34 v35 v36 v37 v38 v39 v40 v41 v42 v43 v44 (u45) (u46) → Chg w w' (fun j => j = gup) → K ⟨arr', []⟩ w') :
    Code.wp Yba.prog (nav [1, 1, 1, 1, 1, 1, 1, 1, 1, 1, 1, 1, 1, 1, 1, 1, 1, 1, 1, 1, 1, 1, 1, 1, 1, 1, 1, 1, 1, 1, 1, 1, 1, 1, 1, 1, 1, 1, 1, 1, 0] (Yba.f4.body.getD .skip)) (Exit.then K (bodyPost Yba.prog Yba.f4 R)) ⟨arr, []⟩ w := by
  rw [c40]
  obtain ⟨n1, n2⟩ := ne
  refine wp_seq (s40i  arr w _ _ _ _ _ _ _ _ _ _ _ _ _ _ _ _ _ _ _ _ _ _ _ _ _ _ _ _ _ _ _ _ _ _ _ _ _ _ _ _ _ _ _ _ _ _ _ _ _ hs (fun arr1 f1 => ?_))
  refine wp_block ?_
  refine wp_loop (fun a w' => ∃ (arr' : Array Value) (p : Nat) (u46 : Value), a = ⟨arr', []⟩ ∧ Fx arr' v0 v1 v2 v3 v4 v5 v6 v7 v8 v9 v10 v11 (.int .i64 np) v13 v14 v15 v16 v17 v18 v19 v20 v21 v22 v23 v24 (.pointer (some ⟨T, 0, none⟩)) (.slice (some ⟨gc, 0, none⟩) np np) v27 v28 v29 v30 v31 v32 v33 v34 v35 v36 v37 v38 v39 v40 v41 v42 v43 v44 (.int .i64 (p : Int)) (u46) ∧ p ≤ np ∧ RowF w' gup 5 np (byteF (fun j => if j < p then 0 else h j)) ∧ Chg w w' (fun j => j = gup)) (fun a _ => ((np : Int) - intOf (a.tmps.getD 45 undef)).toNat) ?_ ?_
  · exact ⟨arr1, 0, _, rfl, f1, Nat.zero_le _, hg.congr (fun i _ => by simp [byteF]), Chg.refl _ _⟩
  · rintro a w' ⟨arr', p, u46, rfl, f', hk, hg', hchg⟩
    have hmu : intOf (arr'.getD 45 undef) = (p : Int) := by obtain ⟨_, h⟩ := f'; simp only [h]; simp [intOf]
    refine wp_seq (s40t np p arr' w' _ _ _ _ _ _ _ _ _ _ _ _ _ _ _ _ _ _ _ _ _ _ _ _ _ _ _ _ _ _ _ _ _ _ _ _ _ _ _ _ _ _ _ _ _ _ _ (by omega) f' (fun arr2 f2 hlt => ?_) (fun arr2 f2 hkn => ?_))
    · refine wp_seq (wp_block ?_)
      refine wp_seq (wp_seq (s40i2  arr2 w' _ _ _ _ _ _ _ _ _ _ _ _ _ _ _ _ _ _ _ _ _ _ _ _ _ _ _ _ _ _ _ _ _ _ _ _ _ _ _ _ _ _ _ _ _ _ _ _ _ f2 (fun arr3 f3 => ?_)))
      have hc' := hc.chg hchg (fun e => n2 e)
      refine wp_last (l40b T gup gc np capu p (h p) f _ arr3 w' _ _ _ _ _ _ _ _ _ _ _ _ _ _ _ _ _ _ _ _ _ _ _ _ _ _ _ _ _ _ _ _ _ _ _ _ _ _ _ _ _ _ _ _ _ hlt (hc0 p hlt) (by simp) hf (ht.chg hchg (fun e => n1 e)) hg' (hc'.cell hlt) hc'.lt ⟨n1, n2⟩ f3 (fun arr4 w4 u46' f4 r4 g4 => ?_))
      have g4' := hchg.trans g4
      have q := r4.cell hlt
      simp only [byteF, updI_same] at q
      refine wp_last (s40c T gup np capu p f arr4 w4 _ _ _ _ _ _ _ _ _ _ _ _ _ _ _ _ _ _ _ _ _ _ _ _ _ _ _ _ _ _ _ _ _ _ _ _ _ _ _ _ _ _ _ _ _ _ _ hlt hf (ht.chg g4' (fun e => n1 e)) q f4 (fun arr5 f5 => ?_))
      refine s40p p arr5 w4 _ _ _ _ _ _ _ _ _ _ _ _ _ _ _ _ _ _ _ _ _ _ _ _ _ _ _ _ _ _ _ _ _ _ _ _ _ _ _ _ _ _ _ _ _ _ _ _ (by omega) f5 (fun arr6 f6 => ?_)
      refine ⟨⟨arr6, p + 1, _, rfl, f6, by omega, r4.congr (fun i _ => ?_), g4'⟩, ?_⟩
      · show Value.int .u8 (updI (fun j => if j < p then 0 else h j) p 0 i) = .int .u8 (if i < p + 1 then 0 else h i)
        by_cases e : i = p
        · subst e; rw [updI_same, if_pos (by omega)]
        · rw [updI_ne _ _ _ _ e]
          by_cases h1 : i < p
          · rw [if_pos h1, if_pos (by omega)]
          · rw [if_neg h1, if_neg (by omega)]
      · have hmu5 : intOf (arr6.getD 45 undef) = ((p + 1 : Nat) : Int) := by obtain ⟨_, h⟩ := f6; simp only [h]; simp [intOf]
        show ((np : Int) - intOf (arr6.getD 45 undef)).toNat < _
        rw [hmu, hmu5]; omega
    · exact HQ arr2 w' _ _ f2 hchg
end Go.Proofs.Ybulkdgxk
