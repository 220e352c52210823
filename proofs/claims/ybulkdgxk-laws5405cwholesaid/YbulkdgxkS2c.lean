/-
  LawS5405CWhole, its statement 12, the loop.
-/
import Derived.Test.YbulkdgxkS2b
namespace Go.Proofs.Ybulkdgxk
open Go.RowKit C
set_option linter.unusedVariables false
set_option linter.unusedSimpArgs false


set_option maxRecDepth 100000 in
set_option maxHeartbeats 400000 in
/-- i := 0 -/
theorem s12i  (arr : Array Value) (w : World) (K : Act → World → Prop) (Q : Exit → Act → World → Prop) (v0 v1 v2 v3 v4 v5 v6 v7 v8 v9 v10 v11 v12 v13 v14 v15 v16 v17 v18 v19 v20 v21 v22 v23 v24 v25 v26 v27 v28 v29 v30 v31 v32 v33 v34 v35 v36 v37 v38 v39 v40 v41 v42 v43 v44 v45 v46 : Value)
    
    (hs : Fx arr v0 v1 v2 v3 v4 v5 v6 v7 v8 v9 v10 v11 v12 v13 v14 v15 v16 v17 v18 v19 v20 v21 v22 v23 v24 v25 v26 v27 v28 v29 v30 v31 v32 v33 v34 v35 v36 v37 v38 v39 v40 v41 v42 v43 v44 v45 v46)
    (HQ : Hid (∀ arr', Fx arr' v0 v1 v2 v3 v4 v5 v6 v7 v8 v9 v10 v11 v12 v13 v14 v15 v16 v17 v18 v19 (.int .i64 ((0 : Nat) : Int)) v21 v22 v23 v24 v25 v26 v27 v28 v29 v30 v31 v32 v33 v34 v35 v36 v37 v38 v39 v40 v41 v42 v43 v44 v45 v46 → K ⟨arr', []⟩ w)) :
    Code.wp Yba.prog (nav [1, 1, 1, 1, 1, 1, 1, 1, 1, 1, 1, 1, 0, 0] (Yba.f4.body.getD .skip)) (Exit.then K Q) ⟨arr, []⟩ w := by
  refine hs.open (fun t => ?_)
  clear hs
  conv => arg 2; whnf
  go_wp2
  refine HQ.out _ ?_
  exact (Fx.mk rfl rfl rfl rfl rfl rfl rfl rfl rfl rfl rfl rfl rfl rfl rfl rfl rfl rfl rfl rfl rfl rfl rfl rfl rfl rfl rfl rfl rfl rfl rfl rfl rfl rfl rfl rfl rfl rfl rfl rfl rfl rfl rfl rfl rfl rfl rfl rfl)

set_option maxRecDepth 100000 in
set_option maxHeartbeats 400000 in
/-- pending: nothing -/
theorem s12ct (b0 o0 n c0 np g gu gl k : Nat) (U : Nat → Up) (arr : Array Value) (w : World) (K : Act → World → Prop) (Q : Exit → Act → World → Prop) (v1 v2 v3 v4 v5 v6 v7 v8 v9 v10 v13 v15 v18 v19 v21 v22 v23 v24 v25 v26 v27 v28 v29 v30 v31 v32 v33 v34 v35 v36 v37 v38 v39 v40 v41 v42 v43 v44 v45 v46 : Value)
    (hlt : k < n) (hn : n ≤ 65536) (hU : Ups w b0 o0 n U) (hpd : (U k).pend = true)
    (hs : Fx arr (.slice (some ⟨b0, o0, none⟩) n c0) v1 v2 v3 v4 v5 v6 v7 v8 v9 v10 (.int .i64 n) (.int .i64 np) v13 (.slice (some ⟨g, 0, none⟩) n n) v15 (.slice (some ⟨gu, 0, none⟩) n n) (.slice (some ⟨gl, 0, none⟩) np np) v18 v19 (.int .i64 k) v21 v22 v23 v24 v25 v26 v27 v28 v29 v30 v31 v32 v33 v34 v35 v36 v37 v38 v39 v40 v41 v42 v43 v44 v45 v46)
    (HQ : Hid (∀ arr', Fx arr' (.slice (some ⟨b0, o0, none⟩) n c0) v1 v2 v3 v4 v5 v6 v7 v8 v9 v10 (.int .i64 n) (.int .i64 np) v13 (.slice (some ⟨g, 0, none⟩) n n) v15 (.slice (some ⟨gu, 0, none⟩) n n) (.slice (some ⟨gl, 0, none⟩) np np) v18 v19 (.int .i64 k) v21 v22 v23 v24 v25 v26 v27 v28 v29 v30 v31 v32 v33 v34 v35 v36 v37 v38 v39 v40 v41 v42 v43 v44 v45 v46 → K ⟨arr', []⟩ w)) :
    Code.wp Yba.prog (nav [1, 1, 1, 1, 1, 1, 1, 1, 1, 1, 1, 1, 0, 1, 2, 2, 1, 0, 2, 1] (Yba.f4.body.getD .skip)) (Exit.then K Q) ⟨arr, []⟩ w := by
  refine hs.open (fun t => ?_)
  clear hs
  conv => arg 2; whnf
  have c5 := hU.pend k hlt
  rw [hpd] at c5
  clear hU hpd
  go_wp2
  refine HQ.out _ ?_
  exact (Fx.mk rfl rfl rfl rfl rfl rfl rfl rfl rfl rfl rfl rfl rfl rfl rfl rfl rfl rfl rfl rfl rfl rfl rfl rfl rfl rfl rfl rfl rfl rfl rfl rfl rfl rfl rfl rfl rfl rfl rfl rfl rfl rfl rfl rfl rfl rfl rfl rfl)

set_option maxRecDepth 100000 in
set_option maxHeartbeats 400000 in
/-- not pending -/
theorem s12cf (b0 o0 n c0 np g gu gl k : Nat) (U : Nat → Up) (arr : Array Value) (w : World) (K : Act → World → Prop) (Q : Exit → Act → World → Prop) (v1 v2 v3 v4 v5 v6 v7 v8 v9 v10 v13 v15 v18 v21 v22 v23 v24 v25 v26 v27 v28 v29 v30 v31 v32 v33 v34 v35 v36 v37 v38 v39 v40 v41 v42 v43 v44 v45 v46 : Value)
    (v : Value) (s : S) (l : List Nat) (B : Nat) (hn : n ≤ 65536) (hp : 1 ≤ np) (hp8 : np ≤ 8) (hlt : k < n) (hU : Ups w b0 o0 n U) (hpd : (U k).pend = false) (ho : RowF w g 21 n (ownF U np)) (hu : RowF w gu 32 (n * 6) (usK U np (k + 1) s.1)) (hl : RowF w gl 21 np (intF s.2))
    (hown : w.ownsRow B 21 1 v l.length (vals l)) (hlen : l.length ≤ 65536) (hB : B ≤ w.heap.size) (hBu : gu < B) (hBl : gl < B) (ne : ¬ g = gu ∧ ¬ g = gl ∧ ¬ gu = gl)
    (hs : Fx arr (.slice (some ⟨b0, o0, none⟩) n c0) v1 v2 v3 v4 v5 v6 v7 v8 v9 v10 (.int .i64 n) (.int .i64 np) v13 (.slice (some ⟨g, 0, none⟩) n n) v15 (.slice (some ⟨gu, 0, none⟩) n n) (.slice (some ⟨gl, 0, none⟩) np np) v18 (v) (.int .i64 k) v21 v22 v23 v24 v25 v26 v27 v28 v29 v30 v31 v32 v33 v34 v35 v36 v37 v38 v39 v40 v41 v42 v43 v44 v45 v46)
    (HQ : Hid (∀ arr' w' v', Fx arr' (.slice (some ⟨b0, o0, none⟩) n c0) v1 v2 v3 v4 v5 v6 v7 v8 v9 v10 (.int .i64 n) (.int .i64 np) v13 (.slice (some ⟨g, 0, none⟩) n n) v15 (.slice (some ⟨gu, 0, none⟩) n n) (.slice (some ⟨gl, 0, none⟩) np np) v18 (v') (.int .i64 k) v21 v22 v23 v24 v25 v26 v27 v28 v29 v30 v31 v32 v33 v34 v35 v36 v37 v38 v39 v40 v41 v42 v43 v44 v45 v46 → RowF w' gu 32 (n * 6) (usK U np (k + 1) (linkS (own U np) s k).1) → RowF w' gl 21 np (intF (linkS (own U np) s k).2) → w'.ownsRow B 21 1 v' (l ++ [k]).length (vals (l ++ [k])) → Chg w w' (fun j => j = gu ∨ j = gl ∨ B ≤ j) → K ⟨arr', []⟩ w')) :
    Code.wp Yba.prog (nav [1, 1, 1, 1, 1, 1, 1, 1, 1, 1, 1, 1, 0, 1, 2, 2, 1, 0, 2, 1] (Yba.f4.body.getD .skip)) (Exit.then K Q) ⟨arr, []⟩ w := by
  refine hs.open (fun t => ?_)
  clear hs
  conv => arg 2; whnf
  have c5 := hU.pend k hlt
  rw [hpd] at c5
  have A1 : Hid (RowF w g 21 n (ownF U np)) := ho
  have A2 : Hid (RowF w gu 32 (n * 6) (usK U np (k + 1) s.1)) := hu
  have A3 : Hid (RowF w gl 21 np (intF s.2)) := hl
  have A4 : Hid (w.ownsRow B 21 1 v l.length (vals l)) := hown
  clear hU hpd ho hu hl hown
  apply wp_seq_k; intro K1 hK1
  have HK1 : Hid (∀ a w, _ → K1 a w) := hK1
  clear hK1
  go_wp2
  refine HK1.out _ _ ?_
  refine wp_cond_true rfl ?_
  refine s12b b0 o0 n c0 np g gu gl k U _ w K Q _ _ _ _ _ _ _ _ _ _ _ _ _ _ _ _ _ _ _ _ _ _ _ _ _ _ _ _ _ _ _ _ _ _ _ _ _ _ _ v s l B hn hp hp8 hlt A1.out A2.out A3.out A4.out hlen hB hBu hBl ne ?_ HQ
  exact (Fx.mk rfl rfl rfl rfl rfl rfl rfl rfl rfl rfl rfl rfl rfl rfl rfl rfl rfl rfl rfl rfl rfl rfl rfl rfl rfl rfl rfl rfl rfl rfl rfl rfl rfl rfl rfl rfl rfl rfl rfl rfl rfl rfl rfl rfl rfl rfl rfl rfl)

theorem c12 : nav [1, 1, 1, 1, 1, 1, 1, 1, 1, 1, 1, 1, 0] (Yba.f4.body.getD .skip) = .seq (nav [1, 1, 1, 1, 1, 1, 1, 1, 1, 1, 1, 1, 0, 0] (Yba.f4.body.getD .skip)) (.block 4 (.loop (.seq (nav [1, 1, 1, 1, 1, 1, 1, 1, 1, 1, 1, 1, 0, 1, 2, 2, 0] (Yba.f4.body.getD .skip)) (.seq (.block 5 (.seq (nav [1, 1, 1, 1, 1, 1, 1, 1, 1, 1, 1, 1, 0, 1, 2, 2, 1, 0, 2, 0] (Yba.f4.body.getD .skip)) (nav [1, 1, 1, 1, 1, 1, 1, 1, 1, 1, 1, 1, 0, 1, 2, 2, 1, 0, 2, 1] (Yba.f4.body.getD .skip)))) (nav [1, 1, 1, 1, 1, 1, 1, 1, 1, 1, 1, 1, 0, 1, 2, 2, 1, 1] (Yba.f4.body.getD .skip)))))) := by kernel_rfl

set_option maxHeartbeats 1000000 in
/-- The whole loop. -/
theorem s12 (b0 o0 n c0 np g gu gl : Nat) (U : Nat → Up) (arr : Array Value) (w : World) (K : Act → World → Prop) (R : Ending → World → Prop) (v1 v2 v3 v4 v5 v6 v7 v8 v9 v10 v13 v15 v18 v20 v21 v22 v23 v24 v25 v26 v27 v28 v29 v30 v31 v32 v33 v34 v35 v36 v37 v38 v39 v40 v41 v42 v43 v44 v45 v46 : Value)
    (hn : n ≤ 65536) (hp : 1 ≤ np) (hp8 : np ≤ 8) (hU : Ups w b0 o0 n U) (ho : RowF w g 21 n (ownF U np)) (hu : RowF w gu 32 (n * 6) (fun _ => .int .i32 0)) (hl : RowF w gl 21 np (intF (fun _ => -1)))
    (ne : ¬ b0 = gu ∧ ¬ b0 = gl ∧ ¬ g = gu ∧ ¬ g = gl ∧ ¬ gu = gl)
    (hs : Fx arr (.slice (some ⟨b0, o0, none⟩) n c0) v1 v2 v3 v4 v5 v6 v7 v8 v9 v10 (.int .i64 n) (.int .i64 np) v13 (.slice (some ⟨g, 0, none⟩) n n) v15 (.slice (some ⟨gu, 0, none⟩) n n) (.slice (some ⟨gl, 0, none⟩) np np) v18 (.slice none 0 0) v20 v21 v22 v23 v24 v25 v26 v27 v28 v29 v30 v31 v32 v33 v34 v35 v36 v37 v38 v39 v40 v41 v42 v43 v44 v45 v46)
    (HQ : ∀ arr' w' v u20, Fx arr' (.slice (some ⟨b0, o0, none⟩) n c0) v1 v2 v3 v4 v5 v6 v7 v8 v9 v10 (.int .i64 n) (.int .i64 np) v13 (.slice (some ⟨g, 0, none⟩) n n) v15 (.slice (some ⟨gu, 0, none⟩) n n) (.slice (some ⟨gl, 0, none⟩) np np) v18 (v) (u20) v21 v22 v23 v24 v25 v26 v27 v28 v29 v30 v31 v32 v33 v34 v35 v36 v37 v38 v39 v40 v41 v42 v43 v44 v45 v46 → RowF w' gu 32 (n * 6) (usF U np (lnk (own U np) (npL U n)).1) → RowF w' gl 21 np (intF (lnk (own U np) (npL U n)).2) → w'.ownsRow w.heap.size 21 1 v (npL U n).length (vals (npL U n)) →
      Chg w w' (fun j => j = gu ∨ j = gl) → K ⟨arr', []⟩ w') :
    Code.wp Yba.prog (nav [1, 1, 1, 1, 1, 1, 1, 1, 1, 1, 1, 1, 0] (Yba.f4.body.getD .skip)) (Exit.then K (bodyPost Yba.prog Yba.f4 R)) ⟨arr, []⟩ w := by
  rw [c12]
  obtain ⟨e1, e2, e3, e4, e5⟩ := ne
  have lu := hu.lt
  have ll := hl.lt
  refine wp_seq (s12i arr w _ _ _ _ _ _ _ _ _ _ _ _ _ _ _ _ _ _ _ _ _ _ _ _ _ _ _ _ _ _ _ _ _ _ _ _ _ _ _ _ _ _ _ _ _ _ _ _ _ hs (fun arr1 f1 => ?_))
  refine wp_block ?_
  refine wp_loop (fun a w' => ∃ (arr' : Array Value) (k : Nat) (v : Value), a = ⟨arr', []⟩ ∧ Fx arr' (.slice (some ⟨b0, o0, none⟩) n c0) v1 v2 v3 v4 v5 v6 v7 v8 v9 v10 (.int .i64 n) (.int .i64 np) v13 (.slice (some ⟨g, 0, none⟩) n n) v15 (.slice (some ⟨gu, 0, none⟩) n n) (.slice (some ⟨gl, 0, none⟩) np np) v18 (v) (.int .i64 (k : Int)) v21 v22 v23 v24 v25 v26 v27 v28 v29 v30 v31 v32 v33 v34 v35 v36 v37 v38 v39 v40 v41 v42 v43 v44 v45 v46 ∧ k ≤ n ∧ RowF w' gu 32 (n * 6) (usK U np k (lnk (own U np) (npL U k)).1) ∧ RowF w' gl 21 np (intF (lnk (own U np) (npL U k)).2) ∧
      w'.ownsRow w.heap.size 21 1 v (npL U k).length (vals (npL U k)) ∧ Chg w w' (fun j => j = gu ∨ j = gl)) (fun a _ => n - (intOf (a.tmps.getD 20 undef)).toNat) ?_ ?_
  · exact ⟨arr1, 0, _, rfl, f1, Nat.zero_le _, hu.congr (fun i _ => by simp [usK]), hl, (World.ownsRow_nil _ _ _ _ : w.ownsRow w.heap.size 21 1 (.slice none 0 0) 0 []), Chg.refl _ _⟩
  · rintro a w' ⟨arr', k, v, rfl, f, hk, hur, hlr, hown, hchg⟩
    have hmu : (intOf (arr'.getD 20 undef)).toNat = k := by obtain ⟨_, h⟩ := f; simp only [h]; simp [intOf]
    have hUr := hU.chg hchg (by omega)
    have hor := ho.chg hchg (by omega)
    refine wp_seq (s12t n k arr' w' _ _ _ _ _ _ _ _ _ _ _ _ _ _ _ _ _ _ _ _ _ _ _ _ _ _ _ _ _ _ _ _ _ _ _ _ _ _ _ _ _ _ _ _ _ _ _ (by omega) f (fun arr2 f2 hlt => ?_) (fun arr2 f2 hkn => ?_))
    · refine wp_seq (wp_block ?_)
      refine wp_seq (of_Qp (R := R) (fun _ _ _ h => h) (s12a b0 o0 n c0 np g gu gl k U arr2 w' _ _ R _ _ _ _ _ _ _ _ _ _ _ _ _ _ _ _ _ _ _ _ _ _ _ _ _ _ _ _ _ _ _ _ _ _ _ _ _ _ _ _ _ hn hp hp8 hlt hUr hor hur (lnk_off _ _ _ (npL_off U k)) f2 (fun arr3 w3 f3 r3 g3 => ?_)))
      have hU3 := hUr.chg g3 (by omega)
      have ho3 := hor.chg g3 (by omega)
      have hl3 := hlr.chg g3 (by omega)
      have hown3 := ownsRow_chg hown g3 (fun j hj e => by omega)
      have q3 : Chg w w3 (fun j => j = gu ∨ j = gl) := hchg.trans (g3.mono (fun j _ e => .inl e))
      have fin : ∀ arr4 w4 v4', Fx arr4 (.slice (some ⟨b0, o0, none⟩) n c0) v1 v2 v3 v4 v5 v6 v7 v8 v9 v10 (.int .i64 n) (.int .i64 np) v13 (.slice (some ⟨g, 0, none⟩) n n) v15 (.slice (some ⟨gu, 0, none⟩) n n) (.slice (some ⟨gl, 0, none⟩) np np) v18 (v4') (.int .i64 (k : Int)) v21 v22 v23 v24 v25 v26 v27 v28 v29 v30 v31 v32 v33 v34 v35 v36 v37 v38 v39 v40 v41 v42 v43 v44 v45 v46 → RowF w4 gu 32 (n * 6) (usK U np (k + 1) (lnk (own U np) (npL U (k + 1))).1) → RowF w4 gl 21 np (intF (lnk (own U np) (npL U (k + 1))).2) →
          w4.ownsRow w.heap.size 21 1 v4' (npL U (k + 1)).length (vals (npL U (k + 1))) → Chg w w4 (fun j => j = gu ∨ j = gl) →
          (nav [1, 1, 1, 1, 1, 1, 1, 1, 1, 1, 1, 1, 0, 1, 2, 2, 1, 1] (Yba.f4.body.getD .skip)).wp Yba.prog (Exit.then (fun a' w'' => (∃ (arr' : Array Value) (k : Nat) (v : Value), a' = ⟨arr', []⟩ ∧ Fx arr' (.slice (some ⟨b0, o0, none⟩) n c0) v1 v2 v3 v4 v5 v6 v7 v8 v9 v10 (.int .i64 n) (.int .i64 np) v13 (.slice (some ⟨g, 0, none⟩) n n) v15 (.slice (some ⟨gu, 0, none⟩) n n) (.slice (some ⟨gl, 0, none⟩) np np) v18 (v) (.int .i64 (k : Int)) v21 v22 v23 v24 v25 v26 v27 v28 v29 v30 v31 v32 v33 v34 v35 v36 v37 v38 v39 v40 v41 v42 v43 v44 v45 v46 ∧ k ≤ n ∧ RowF w'' gu 32 (n * 6) (usK U np k (lnk (own U np) (npL U k)).1) ∧ RowF w'' gl 21 np (intF (lnk (own U np) (npL U k)).2) ∧
            w''.ownsRow w.heap.size 21 1 v (npL U k).length (vals (npL U k)) ∧ Chg w w'' (fun j => j = gu ∨ j = gl)) ∧ n - (intOf (a'.tmps.getD 20 undef)).toNat < n - (intOf (arr'.getD 20 undef)).toNat) (Exit.inBlock 4 (Exit.then K (bodyPost Yba.prog Yba.f4 R)))) ⟨arr4, []⟩ w4 := by
        intro arr4 w4 v4' f4 r4 l4 o4 g4
        refine s12p k arr4 w4 _ _ _ _ _ _ _ _ _ _ _ _ _ _ _ _ _ _ _ _ _ _ _ _ _ _ _ _ _ _ _ _ _ _ _ _ _ _ _ _ _ _ _ _ _ _ _ _ (by omega) f4 (fun arr5 f5 => ?_)
        refine ⟨⟨arr5, k + 1, v4', rfl, f5, by omega, r4, l4, o4, g4⟩, ?_⟩
        have hmu5 : (intOf (arr5.getD 20 undef)).toNat = k + 1 := by obtain ⟨_, h⟩ := f5; simp only [h]; simp [intOf]
        show n - (intOf (arr5.getD 20 undef)).toNat < _
        rw [hmu, hmu5]; omega
      cases hpd : (U k).pend with
      | true =>
        have e : npL U (k + 1) = npL U k := by rw [npL_succ, hpd]; rfl
        refine wp_last (s12ct b0 o0 n c0 np g gu gl k U arr3 w3 _ _ _ _ _ _ _ _ _ _ _ _ _ _ _ _ _ _ _ _ _ _ _ _ _ _ _ _ _ _ _ _ _ _ _ _ _ _ _ _ _ _ hlt hn hU3 hpd f3 (fun arr4 f4 => ?_))
        exact fin arr4 w3 v f4 (by rw [e]; exact r3) (by rw [e]; exact hl3) (by rw [e]; exact hown3) q3
      | false =>
        have e : npL U (k + 1) = npL U k ++ [k] := by rw [npL_succ, hpd]; rfl
        have e' : lnk (own U np) (npL U (k + 1)) = linkS (own U np) (lnk (own U np) (npL U k)) k := by rw [e, lnk_snoc]
        refine wp_last (s12cf b0 o0 n c0 np g gu gl k U arr3 w3 _ _ _ _ _ _ _ _ _ _ _ _ _ _ _ _ _ _ _ _ _ _ _ _ _ _ _ _ _ _ _ _ _ _ _ _ _ _ _ _ _ v _ (npL U k) w.heap.size hn hp hp8 hlt hU3 hpd ho3 r3 hl3 hown3 (by have := npL_le U k; omega) q3.size lu ll ⟨e3, e4, e5⟩ f3 (fun arr4 w4 v4' f4 r4 l4 o4 g4 => ?_))
        exact fin arr4 w4 v4' f4 (by rw [e']; exact r4) (by rw [e']; exact l4) (by rw [e]; exact o4)
          ⟨g4.os.trans q3.os, g4.tape.trans q3.tape, g4.output.trans q3.output, Nat.le_trans q3.size g4.size, fun j hj hn => (g4.block j (Nat.lt_of_lt_of_le hj q3.size) (by omega)).trans (q3.block j hj hn)⟩
    · subst hkn
      exact HQ arr2 w' v _ f2 (hur.congr (fun j hj => by unfold usK; rw [if_pos hj])) hlr hown hchg
end Go.Proofs.Ybulkdgxk
