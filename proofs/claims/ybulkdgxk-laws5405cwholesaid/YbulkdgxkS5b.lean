/-
  LawS5405CWhole, its statement 21, the loops.
-/
import Derived.Test.YbulkdgxkS5
namespace Go.Proofs.Ybulkdgxk
open Go.RowKit C
set_option linter.unusedVariables false
set_option linter.unusedSimpArgs false

theorem bts_get (l : List Int) (y : Int) : (bts (l ++ [y]))[l.length]? = some (.int .u8 y) := by simp [bts]
theorem bts_set (l : List Int) (y z : Int) : (bts (l ++ [y])).set l.length (.int .u8 z) = bts (l ++ [z]) := by simp [bts]

theorem c21f : nav [1, 1, 1, 1, 1, 1, 1, 1, 1, 1, 1, 1, 1, 1, 1, 1, 1, 1, 1, 1, 1, 0, 1, 2, 2, 1, 0, 2, 1, 1, 1, 1, 1] (Yba.f4.body.getD .skip) = .block 10 (.loop (.seq (nav [1, 1, 1, 1, 1, 1, 1, 1, 1, 1, 1, 1, 1, 1, 1, 1, 1, 1, 1, 1, 1, 0, 1, 2, 2, 1, 0, 2, 1, 1, 1, 1, 1, 2, 2, 0] (Yba.f4.body.getD .skip)) (.seq (.block 11 (nav [1, 1, 1, 1, 1, 1, 1, 1, 1, 1, 1, 1, 1, 1, 1, 1, 1, 1, 1, 1, 1, 0, 1, 2, 2, 1, 0, 2, 1, 1, 1, 1, 1, 2, 2, 1, 0, 2] (Yba.f4.body.getD .skip))) (nav [1, 1, 1, 1, 1, 1, 1, 1, 1, 1, 1, 1, 1, 1, 1, 1, 1, 1, 1, 1, 1, 0, 1, 2, 2, 1, 0, 2, 1, 1, 1, 1, 1, 2, 2, 1, 1] (Yba.f4.body.getD .skip))))) := by kernel_rfl
set_option maxHeartbeats 1000000 in
/-- for k := 0; k < c; k++ { t.upLeft[p]++ } -/
theorem s21f (T p gup cap B : Nat) (c : Int) (l : List Int) (f : Nat → Value) (arr : Array Value) (w : World) (K : Act → World → Prop) (Q : Exit → Act → World → Prop) (v0 v1 v2 v3 v4 v5 v6 v7 v8 v9 v10 v11 v12 v13 v14 v15 v16 v17 v18 v19 v20 v21 v22 v23 v24 v26 v30 v31 v32 v33 v34 v35 v36 v37 v38 v39 v40 v41 v42 v43 v44 v45 v46 : Value)
    (hp : p ≤ 8) (hc : 0 ≤ c ∧ c ≤ 3) (hl : l.length = p) (hf : f 13 = .slice (some ⟨gup, 0, none⟩) (p + 1) cap) (ht : RowF w T 79 140 f) (hT : ¬ T = gup)
    (hown : w.ownsRow B 5 1 (.slice (some ⟨gup, 0, none⟩) (p + 1) cap) (p + 1) (bts (l ++ [0])))
    (hs : Fx arr v0 v1 v2 v3 v4 v5 v6 v7 v8 v9 v10 v11 v12 v13 v14 v15 v16 v17 v18 v19 v20 v21 v22 v23 v24 (.pointer (some ⟨T, 0, none⟩)) v26 (.int .i64 p) (.int .i64 c) (.int .i64 ((0 : Nat) : Int)) v30 v31 v32 v33 v34 v35 v36 v37 v38 v39 v40 v41 v42 v43 v44 v45 v46)
    (HQ : ∀ arr' w' u29, Fx arr' v0 v1 v2 v3 v4 v5 v6 v7 v8 v9 v10 v11 v12 v13 v14 v15 v16 v17 v18 v19 v20 v21 v22 v23 v24 (.pointer (some ⟨T, 0, none⟩)) v26 (.int .i64 p) (.int .i64 c) (u29) v30 v31 v32 v33 v34 v35 v36 v37 v38 v39 v40 v41 v42 v43 v44 v45 v46 → w'.ownsRow B 5 1 (.slice (some ⟨gup, 0, none⟩) (p + 1) cap) (p + 1) (bts (l ++ [c])) → Chg w w' (fun j => j = gup) → K ⟨arr', []⟩ w') :
    Code.wp Yba.prog (nav [1, 1, 1, 1, 1, 1, 1, 1, 1, 1, 1, 1, 1, 1, 1, 1, 1, 1, 1, 1, 1, 0, 1, 2, 2, 1, 0, 2, 1, 1, 1, 1, 1] (Yba.f4.body.getD .skip)) (Exit.then K Q) ⟨arr, []⟩ w := by
  rw [c21f]
  refine wp_block ?_
  refine wp_loop (fun a w' => ∃ (arr' : Array Value) (k : Nat), a = ⟨arr', []⟩ ∧ Fx arr' v0 v1 v2 v3 v4 v5 v6 v7 v8 v9 v10 v11 v12 v13 v14 v15 v16 v17 v18 v19 v20 v21 v22 v23 v24 (.pointer (some ⟨T, 0, none⟩)) v26 (.int .i64 p) (.int .i64 c) (.int .i64 (k : Int)) v30 v31 v32 v33 v34 v35 v36 v37 v38 v39 v40 v41 v42 v43 v44 v45 v46 ∧ (k : Int) ≤ c ∧ w'.ownsRow B 5 1 (.slice (some ⟨gup, 0, none⟩) (p + 1) cap) (p + 1) (bts (l ++ [(k : Int)])) ∧ Chg w w' (fun j => j = gup)) (fun a _ => (c - intOf (a.tmps.getD 29 undef)).toNat) ?_ ?_
  · exact ⟨arr, 0, rfl, hs, hc.1, hown, Chg.refl _ _⟩
  · rintro a w' ⟨arr', k, rfl, g, hk, ho, hchg⟩
    have hmu : intOf (arr'.getD 29 undef) = k := by obtain ⟨_, h⟩ := g; simp only [h]; simp [intOf]
    refine wp_seq (s21ft c k arr' w' _ _ _ _ _ _ _ _ _ _ _ _ _ _ _ _ _ _ _ _ _ _ _ _ _ _ _ _ _ _ _ _ _ _ _ _ _ _ _ _ _ _ _ _ _ _ _ hk hc.2 g (fun arr2 f2 hlt => ?_) (fun arr2 f2 hkc => ?_))
    · refine wp_seq (wp_block ?_)
      have hcell := ho.cellAt p (by omega)
      have hg := bts_get l (k : Int)
      rw [hl] at hg
      rw [hg] at hcell
      have hst := (ho.stored p (.int .u8 ((k : Int) + 1))).1
      have hb := bts_set l (k : Int) ((k : Int) + 1)
      rw [hl] at hb
      rw [hb] at hst
      refine wp_last (s21fb T p gup cap k arr2 w' _ _ _ _ _ _ _ _ _ _ _ _ _ _ _ _ _ _ _ _ _ _ _ _ _ _ _ _ _ _ _ _ _ _ _ _ _ _ _ _ _ _ _ _ _ _ _ f hp ⟨by omega, by omega⟩ hf (ht.chg hchg hT) hcell (ho.frozenAt p) f2 (fun arr3 f3 => ?_))
      refine s21fp k arr3 _ _ _ _ _ _ _ _ _ _ _ _ _ _ _ _ _ _ _ _ _ _ _ _ _ _ _ _ _ _ _ _ _ _ _ _ _ _ _ _ _ _ _ _ _ _ _ _ _ (by omega) f3 (fun arr4 f4 => ?_)
      refine ⟨⟨arr4, k + 1, rfl, f4, by omega, by simpa using hst, hchg.setCell (.inl rfl) _⟩, ?_⟩
      have hmu4 : intOf (arr4.getD 29 undef) = (k + 1 : Nat) := by obtain ⟨_, h⟩ := f4; simp only [h]; simp [intOf]
      show (c - intOf (arr4.getD 29 undef)).toNat < _
      rw [hmu, hmu4]; omega
    · rw [hkc] at ho
      exact HQ arr2 w' _ f2 ho hchg

theorem c21 : nav [1, 1, 1, 1, 1, 1, 1, 1, 1, 1, 1, 1, 1, 1, 1, 1, 1, 1, 1, 1, 1, 0] (Yba.f4.body.getD .skip) = .seq (nav [1, 1, 1, 1, 1, 1, 1, 1, 1, 1, 1, 1, 1, 1, 1, 1, 1, 1, 1, 1, 1, 0, 0] (Yba.f4.body.getD .skip)) (.block 8 (.loop (.seq (nav [1, 1, 1, 1, 1, 1, 1, 1, 1, 1, 1, 1, 1, 1, 1, 1, 1, 1, 1, 1, 1, 0, 1, 2, 2, 0] (Yba.f4.body.getD .skip)) (.seq (.block 9 (.seq (nav [1, 1, 1, 1, 1, 1, 1, 1, 1, 1, 1, 1, 1, 1, 1, 1, 1, 1, 1, 1, 1, 0, 1, 2, 2, 1, 0, 2, 0] (Yba.f4.body.getD .skip)) (.seq (nav [1, 1, 1, 1, 1, 1, 1, 1, 1, 1, 1, 1, 1, 1, 1, 1, 1, 1, 1, 1, 1, 0, 1, 2, 2, 1, 0, 2, 1, 0] (Yba.f4.body.getD .skip)) (.seq (nav [1, 1, 1, 1, 1, 1, 1, 1, 1, 1, 1, 1, 1, 1, 1, 1, 1, 1, 1, 1, 1, 0, 1, 2, 2, 1, 0, 2, 1, 1, 0] (Yba.f4.body.getD .skip)) (.seq (nav [1, 1, 1, 1, 1, 1, 1, 1, 1, 1, 1, 1, 1, 1, 1, 1, 1, 1, 1, 1, 1, 0, 1, 2, 2, 1, 0, 2, 1, 1, 1, 0] (Yba.f4.body.getD .skip)) (.seq (nav [1, 1, 1, 1, 1, 1, 1, 1, 1, 1, 1, 1, 1, 1, 1, 1, 1, 1, 1, 1, 1, 0, 1, 2, 2, 1, 0, 2, 1, 1, 1, 1, 0] (Yba.f4.body.getD .skip)) (nav [1, 1, 1, 1, 1, 1, 1, 1, 1, 1, 1, 1, 1, 1, 1, 1, 1, 1, 1, 1, 1, 0, 1, 2, 2, 1, 0, 2, 1, 1, 1, 1, 1] (Yba.f4.body.getD .skip)))))))) (nav [1, 1, 1, 1, 1, 1, 1, 1, 1, 1, 1, 1, 1, 1, 1, 1, 1, 1, 1, 1, 1, 0, 1, 2, 2, 1, 1] (Yba.f4.body.getD .skip)))))) := by kernel_rfl

theorem cnt_step (np p nl : Nat) (lf : Nat → Int) (w : World) (gc : Nat) (h : RowF w gc 3 np (upd (fun j => .int .i64 (if j < p then cntF nl lf j else 0)) p (.int .i64 (cntF nl lf p)))) :
    RowF w gc 3 np (fun j => .int .i64 (if j < p + 1 then cntF nl lf j else 0)) := by
  refine h.congr (fun j hj => ?_)
  unfold upd
  by_cases e : j = p
  · subst e; simp
  · rw [if_neg e]; by_cases h1 : j < p
    · rw [if_pos (show j < p + 1 by omega)]; simp only; rw [if_pos h1]
    · rw [if_neg (show ¬ j < p + 1 by omega)]; simp only; rw [if_neg h1]
theorem cnt_bd {w : World} {B nl : Nat} {al : Option Addr} {lf : Nat → Int} (h : Lf w B al nl lf) (p : Nat) : 0 ≤ cntF nl lf p ∧ cntF nl lf p ≤ 3 := by
  unfold cntF
  split
  · omega
  · omega

set_option maxHeartbeats 1000000 in
/-- The whole loop. -/
theorem s21 (np T gc nl cl B B0 : Nat) (al : Option Addr) (lf : Nat → Int) (f : Nat → Value) (arr : Array Value) (w : World) (K : Act → World → Prop) (Q : Exit → Act → World → Prop) (v0 v1 v2 v3 v5 v6 v7 v8 v9 v10 v11 v13 v14 v15 v16 v17 v18 v19 v20 v21 v22 v23 v24 v27 v28 v29 v30 v31 v32 v33 v34 v35 v36 v37 v38 v39 v40 v41 v42 v43 v44 v45 v46 : Value)
    (hp1 : 1 ≤ np) (hp8 : np ≤ 8) (hB : B = w.heap.size) (hLf : Lf w B0 al nl lf) (hB0 : B0 ≤ T ∧ B0 ≤ gc) (hf : f 13 = .slice none 0 0) (ht : RowF w T 79 140 f) (hcr : RowF w gc 3 np (fun _ => .int .i64 0)) (hTc : ¬ T = gc)
    (hs : Fx arr v0 v1 v2 v3 (.slice al nl cl) v5 v6 v7 v8 v9 v10 v11 (.int .i64 np) v13 v14 v15 v16 v17 v18 v19 v20 v21 v22 v23 v24 (.pointer (some ⟨T, 0, none⟩)) (.slice (some ⟨gc, 0, none⟩) np np) v27 v28 v29 v30 v31 v32 v33 v34 v35 v36 v37 v38 v39 v40 v41 v42 v43 v44 v45 v46)
    (HQ : ∀ arr' w' u27 u28 u29 gup cap, Fx arr' v0 v1 v2 v3 (.slice al nl cl) v5 v6 v7 v8 v9 v10 v11 (.int .i64 np) v13 v14 v15 v16 v17 v18 v19 v20 v21 v22 v23 v24 (.pointer (some ⟨T, 0, none⟩)) (.slice (some ⟨gc, 0, none⟩) np np) (u27) (u28) (u29) v30 v31 v32 v33 v34 v35 v36 v37 v38 v39 v40 v41 v42 v43 v44 v45 v46 → B ≤ gup → RowF w' T 79 140 (upd f 13 (.slice (some ⟨gup, 0, none⟩) np cap)) → RowF w' gup 5 np (byteF (cntF nl lf)) → RowF w' gc 3 np (fun j => .int .i64 (cntF nl lf j)) → Chg w w' (fun j => j = T ∨ j = gc) → K ⟨arr', []⟩ w') :
    Code.wp Yba.prog (nav [1, 1, 1, 1, 1, 1, 1, 1, 1, 1, 1, 1, 1, 1, 1, 1, 1, 1, 1, 1, 1, 0] (Yba.f4.body.getD .skip)) (Exit.then K Q) ⟨arr, []⟩ w := by
  rw [c21]
  have lT := ht.lt
  have lc := hcr.lt
  refine wp_seq (s21i arr w _ _ _ _ _ _ _ _ _ _ _ _ _ _ _ _ _ _ _ _ _ _ _ _ _ _ _ _ _ _ _ _ _ _ _ _ _ _ _ _ _ _ _ _ _ _ _ _ _ hs (fun arr1 f1 => ?_))
  refine wp_block ?_
  refine wp_loop (fun a w' => ∃ (arr' : Array Value) (p : Nat) (u28 u29 v : Value), a = ⟨arr', []⟩ ∧ Fx arr' v0 v1 v2 v3 (.slice al nl cl) v5 v6 v7 v8 v9 v10 v11 (.int .i64 np) v13 v14 v15 v16 v17 v18 v19 v20 v21 v22 v23 v24 (.pointer (some ⟨T, 0, none⟩)) (.slice (some ⟨gc, 0, none⟩) np np) (.int .i64 (p : Int)) (u28) (u29) v30 v31 v32 v33 v34 v35 v36 v37 v38 v39 v40 v41 v42 v43 v44 v45 v46 ∧ p ≤ np ∧ RowF w' T 79 140 (upd f 13 v) ∧ w'.ownsRow B 5 1 v p (bts ((List.range p).map (cntF nl lf))) ∧ RowF w' gc 3 np (fun j => .int .i64 (if j < p then cntF nl lf j else 0)) ∧ Chg w w' (fun j => j = T ∨ j = gc ∨ B ≤ j)) (fun a _ => np - (intOf (a.tmps.getD 27 undef)).toNat) ?_ ?_
  · refine ⟨arr1, 0, _, _, .slice none 0 0, rfl, f1, Nat.zero_le _, ht.congr (fun i _ => by unfold upd; by_cases h : i = 13 <;> simp [h, hf]), World.ownsRow_nil _ _ _ _, hcr.congr (fun i _ => by simp), Chg.refl _ _⟩
  · rintro a w' ⟨arr', p, u28, u29, v, rfl, g, hk, ht', hown, hcr', hchg⟩
    have hmu : (intOf (arr'.getD 27 undef)).toNat = p := by obtain ⟨_, h⟩ := g; simp only [h]; simp [intOf]
    have lf' := hLf.chg hchg (fun k hk => by omega)
    have sz := hchg.size
    have hll : ((List.range p).map (cntF nl lf)).length = p := by simp
    refine wp_seq (s21t np p arr' w' _ _ _ _ _ _ _ _ _ _ _ _ _ _ _ _ _ _ _ _ _ _ _ _ _ _ _ _ _ _ _ _ _ _ _ _ _ _ _ _ _ _ _ _ _ _ _ (by omega) g (fun arr2 f2 hlt => ?_) (fun arr2 f2 hkn => ?_))
    · refine wp_seq (wp_block ?_)
      refine wp_seq (s21a T arr2 w' _ _ _ _ _ _ _ _ _ _ _ _ _ _ _ _ _ _ _ _ _ _ _ _ _ _ _ _ _ _ _ _ _ _ _ _ _ _ _ _ _ _ _ _ _ _ _ _ v ((List.range p).map (cntF nl lf)) B _ (by simp [upd]) ht' (by rw [hll]; exact hown) (by rw [hll]; omega) (by omega) (by omega) f2 (fun arr3 w3 gup cap f3 hg3 t3 o3 g3 => ?_))
      rw [hll] at t3 o3
      refine wp_seq (s21b arr3 w3 _ _ _ _ _ _ _ _ _ _ _ _ _ _ _ _ _ _ _ _ _ _ _ _ _ _ _ _ _ _ _ _ _ _ _ _ _ _ _ _ _ _ _ _ _ _ _ _ _ f3 (fun arr4 f4 => ?_))
      refine wp_seq (s21c B0 p nl cl al lf arr4 w3 _ _ _ _ _ _ _ _ _ _ _ _ _ _ _ _ _ _ _ _ _ _ _ _ _ _ _ _ _ _ _ _ _ _ _ _ _ _ _ _ _ _ _ _ _ _ (lf'.chg g3 (fun k hk => by omega)) f4 (fun arr5 f5 => ?_))
      refine wp_seq (s21d np p gc _ arr5 w3 _ _ _ _ _ _ _ _ _ _ _ _ _ _ _ _ _ _ _ _ _ _ _ _ _ _ _ _ _ _ _ _ _ _ _ _ _ _ _ _ _ _ _ _ _ _ _ hlt (hcr'.chg g3 (by omega)) f5 (fun arr6 w6 f6 r6 g6 => ?_))
      refine wp_seq (s21e arr6 w6 _ _ _ _ _ _ _ _ _ _ _ _ _ _ _ _ _ _ _ _ _ _ _ _ _ _ _ _ _ _ _ _ _ _ _ _ _ _ _ _ _ _ _ _ _ _ _ _ _ f6 (fun arr7 f7 => ?_))
      have o6 := ownsB_chg o3 g6 (fun j hj e => by omega)
      have t6 := t3.chg g6 hTc
      refine wp_last (s21f T p gup cap B _ ((List.range p).map (cntF nl lf)) _ arr7 w6 _ _ _ _ _ _ _ _ _ _ _ _ _ _ _ _ _ _ _ _ _ _ _ _ _ _ _ _ _ _ _ _ _ _ _ _ _ _ _ _ _ _ _ _ _ (by omega) (cnt_bd lf' p) hll (by simp [upd]) t6 (by omega) o6 f7 (fun arr8 w8 u29' f8 o8 g8 => ?_))
      refine s21p p arr8 w8 _ _ _ _ _ _ _ _ _ _ _ _ _ _ _ _ _ _ _ _ _ _ _ _ _ _ _ _ _ _ _ _ _ _ _ _ _ _ _ _ _ _ _ _ _ _ _ _ (by omega) f8 (fun arr9 f9 => ?_)
      have e1 : (List.range (p + 1)).map (cntF nl lf) = (List.range p).map (cntF nl lf) ++ [cntF nl lf p] := by rw [List.range_succ, List.map_append]; rfl
      refine ⟨⟨arr9, p + 1, _, _, .slice (some ⟨gup, 0, none⟩) (p + 1) cap, rfl, f9, by omega, ?_, by rw [e1]; exact o8, cnt_step np p nl lf w8 gc (r6.chg g8 (by omega)), ?_⟩, ?_⟩
      · refine (t6.chg g8 (by omega)).congr (fun i _ => ?_)
        unfold upd; split <;> rfl
      · exact ⟨g8.os.trans (g6.os.trans (g3.os.trans hchg.os)), g8.tape.trans (g6.tape.trans (g3.tape.trans hchg.tape)), g8.output.trans (g6.output.trans (g3.output.trans hchg.output)), by have := g3.size; have := g6.size; have := g8.size; omega,
          fun j hj hn => (g8.block j (by have := g3.size; have := g6.size; omega) (by omega)).trans ((g6.block j (by have := g3.size; omega) (by omega)).trans ((g3.block j (by omega) (by omega)).trans (hchg.block j hj hn)))⟩
      · have hmu9 : (intOf (arr9.getD 27 undef)).toNat = p + 1 := by obtain ⟨_, h⟩ := f9; simp only [h]; simp [intOf]
        show np - (intOf (arr9.getD 27 undef)).toNat < _
        rw [hmu, hmu9]; omega
    · subst hkn
      obtain ⟨_, h2⟩ := id hown
      rcases h2 with ⟨_, h0⟩ | ⟨gup, cap, cur, rfl, hg, hh, h3, h4, h5, h6⟩
      · omega
      refine HQ arr2 w' _ _ _ gup cap f2 hg ht' ?_ (hcr'.congr (fun i hi => by rw [if_pos hi])) (hchg.mono (fun j hj e => by omega))
      refine ⟨cur, hh, by omega, fun i hi => ?_⟩
      have := hown.cellAt i (by omega)
      rw [cell_of_row w' gup i cur 5 (0, 0) hh] at this
      rw [this]
      simp [bts, byteF, hi]
end Go.Proofs.Ybulkdgxk
