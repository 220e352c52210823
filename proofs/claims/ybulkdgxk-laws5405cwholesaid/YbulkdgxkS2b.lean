/-
  LawS5405CWhole, its statement 12, second part.
-/
import Derived.Test.YbulkdgxkS2
import Derived.Deep.DeepMust
namespace Go.Proofs.Ybulkdgxk
open Go.RowKit C
set_option linter.unusedVariables false
set_option linter.unusedSimpArgs false

set_option maxRecDepth 100000 in
set_option maxHeartbeats 400000 in
/-- us[i].next = latest[own[i]]; latest[own[i]] = int32(i); given = append(given, int32(i)) -/
theorem s12b (b0 o0 n c0 np g gu gl k : Nat) (U : Nat → Up) (arr : Array Value) (w : World) (K : Act → World → Prop) (Q : Exit → Act → World → Prop) (v1 v2 v3 v4 v5 v6 v7 v8 v9 v10 v13 v15 v18 v21 v22 v23 v24 v25 v26 v27 v28 v29 v30 v31 v32 v33 v34 v35 v36 v37 v38 v39 v40 v41 v42 v43 v44 v45 v46 : Value)
    (v : Value) (s : S) (l : List Nat) (B : Nat) (hn : n ≤ 65536) (hp : 1 ≤ np) (hp8 : np ≤ 8) (hlt : k < n) (ho : RowF w g 21 n (ownF U np)) (hu : RowF w gu 32 (n * 6) (usK U np (k + 1) s.1)) (hl : RowF w gl 21 np (intF s.2))
    (hown : w.ownsRow B 21 1 v l.length (vals l)) (hlen : l.length ≤ 65536) (hB : B ≤ w.heap.size) (hBu : gu < B) (hBl : gl < B) (ne : ¬ g = gu ∧ ¬ g = gl ∧ ¬ gu = gl)
    (hs : Fx arr (.slice (some ⟨b0, o0, none⟩) n c0) v1 v2 v3 v4 v5 v6 v7 v8 v9 v10 (.int .i64 n) (.int .i64 np) v13 (.slice (some ⟨g, 0, none⟩) n n) v15 (.slice (some ⟨gu, 0, none⟩) n n) (.slice (some ⟨gl, 0, none⟩) np np) v18 (v) (.int .i64 k) v21 v22 v23 v24 v25 v26 v27 v28 v29 v30 v31 v32 v33 v34 v35 v36 v37 v38 v39 v40 v41 v42 v43 v44 v45 v46)
    (HQ : Hid (∀ arr' w' v', Fx arr' (.slice (some ⟨b0, o0, none⟩) n c0) v1 v2 v3 v4 v5 v6 v7 v8 v9 v10 (.int .i64 n) (.int .i64 np) v13 (.slice (some ⟨g, 0, none⟩) n n) v15 (.slice (some ⟨gu, 0, none⟩) n n) (.slice (some ⟨gl, 0, none⟩) np np) v18 (v') (.int .i64 k) v21 v22 v23 v24 v25 v26 v27 v28 v29 v30 v31 v32 v33 v34 v35 v36 v37 v38 v39 v40 v41 v42 v43 v44 v45 v46 → RowF w' gu 32 (n * 6) (usK U np (k + 1) (linkS (own U np) s k).1) → RowF w' gl 21 np (intF (linkS (own U np) s k).2) → w'.ownsRow B 21 1 v' (l ++ [k]).length (vals (l ++ [k])) → Chg w w' (fun j => j = gu ∨ j = gl ∨ B ≤ j) → K ⟨arr', []⟩ w')) :
    Code.wp Yba.prog (nav [1, 1, 1, 1, 1, 1, 1, 1, 1, 1, 1, 1, 0, 1, 2, 2, 1, 0, 2, 1, 1, 3] (Yba.f4.body.getD .skip)) (Exit.then K Q) ⟨arr, []⟩ w := by
  refine hs.open (fun t => ?_)
  clear hs
  conv => arg 2; whnf
  have co := ho.cell hlt
  simp only [ownF, intF] at co
  obtain ⟨p, hp0⟩ : ∃ v, v = own U np k := ⟨_, rfl⟩
  have hpn : p < np := by rw [hp0]; exact own_lt U np k hp
  rw [← hp0] at co
  obtain ⟨e3, e4, e5⟩ := ne
  have e5' : ¬ gl = gu := fun e => e5 e.symm
  have cl := hl.cell hpn
  have fl := hl.free p
  have cu := hu.cell (i := k * 6 + 3) (by omega)
  have fu := hu.free (k * 6 + 3)
  simp only [intF] at cl
  obtain ⟨vl, hvl⟩ : ∃ v, v = s.2 p := ⟨_, rfl⟩
  obtain ⟨vu, hvu⟩ : ∃ v, v = usK U np (k + 1) s.1 (k * 6 + 3) := ⟨_, rfl⟩
  rw [← hvl] at cl; rw [← hvu] at cu
  have HV : Hid (vl = s.2 p ∧ p = own U np k) := ⟨hvl, hp0⟩
  have hw32 : wrap32 (k : Int) = (k : Int) := wrap32_of _ (by omega)
  have HO : Hid (w.ownsRow B 21 1 v l.length (vals l)) := hown
  have HU : Hid (RowF w gu 32 (n * 6) (usK U np (k + 1) s.1)) := hu
  have HL : Hid (RowF w gl 21 np (intF s.2)) := hl
  clear hvl hvu hp0 hown hu hl ho
  apply wp_seq_k; intro K1 hK1
  have HK1 : Hid (∀ a w, _ → K1 a w) := hK1
  clear hK1
  go_wp2
  refine HK1.out _ _ ?_
  apply wp_seq_k; intro K2 hK2
  have HK2 : Hid (∀ a w, _ → K2 a w) := hK2
  clear hK2 HK1
  go_wp2
  refine HK2.out _ _ ?_
  clear HK2
  go_wp2_with (at_builtin; go_must (refine wl_app rfl (.tmp 157) (.tmp 160) rfl B v l k w.heap.size rfl ?o1 rfl ?o2 ?o3 ?o4 ?_))
  case o1 => exact ownsRow_chg HO.out ((((Chg.refl w (fun j => j = gu ∨ j = gl)).setCell (.inl (.inl rfl)) _).setCell (.inl (.inr rfl)) _).alloc _) (fun j hj e => by omega)
  case o2 => go_simp
  case o3 => omega
  case o4 => simp; omega
  · intro v' w2 hown2 hchg2
    have q1 := (((HU.out.set (k * 6 + 3) (.int .i32 vl)).other (a := ⟨gl, p, none⟩) e5' (.int .i32 (k : Int))).alloc (.cells #[.int .i32 (k : Int)] 21)).chg hchg2 (by omega)
    have q2 := (((HL.out.other (a := ⟨gu, k * 6 + 3, none⟩) e5 (.int .i32 vl)).set p (.int .i32 (k : Int))).alloc (.cells #[.int .i32 (k : Int)] 21)).chg hchg2 (by omega)
    have q4 : Chg w w2 (fun j => j = gu ∨ j = gl ∨ B ≤ j) := ((((Chg.refl w (fun j => j = gu ∨ j = gl ∨ B ≤ j)).setCell (.inl (.inl rfl)) _).setCell (.inl (.inr (.inl rfl))) _).alloc _).trans (hchg2.mono (fun _ _ e => .inr (.inr e)))
    rw [upd_usK] at q1
    rw [upd_intF] at q2
    obtain ⟨z1, z2⟩ := HV.out
    rw [z1] at q1
    rw [z2] at q1 q2
    clear z1 z2 hchg2
    have G1 : Hid (RowF w2 gu 32 (n * 6) (usK U np (k + 1) (linkS (own U np) s k).1)) := q1
    have G2 : Hid (RowF w2 gl 21 np (intF (linkS (own U np) s k).2)) := q2
    have G3 : Hid (w2.ownsRow B 21 1 v' (l ++ [k]).length (vals (l ++ [k]))) := by rw [List.length_append]; exact hown2
    have G4 : Hid (Chg w w2 (fun j => j = gu ∨ j = gl ∨ B ≤ j)) := q4
    clear q1 q2 q4 hown2
    go_wp2
    refine HQ.out _ _ _ ?_ G1.out G2.out G3.out G4.out
    exact (Fx.mk rfl rfl rfl rfl rfl rfl rfl rfl rfl rfl rfl rfl rfl rfl rfl rfl rfl rfl rfl rfl rfl rfl rfl rfl rfl rfl rfl rfl rfl rfl rfl rfl rfl rfl rfl rfl rfl rfl rfl rfl rfl rfl rfl rfl rfl rfl rfl rfl)

set_option maxRecDepth 100000 in
set_option maxHeartbeats 400000 in
/-- i < n -/
theorem s12t (n k : Nat) (arr : Array Value) (w : World) (K : Act → World → Prop) (Q : Exit → Act → World → Prop) (v0 v1 v2 v3 v4 v5 v6 v7 v8 v9 v10 v12 v13 v14 v15 v16 v17 v18 v19 v21 v22 v23 v24 v25 v26 v27 v28 v29 v30 v31 v32 v33 v34 v35 v36 v37 v38 v39 v40 v41 v42 v43 v44 v45 v46 : Value)
    (hlt : k < n ∨ k = n)
    (hs : Fx arr v0 v1 v2 v3 v4 v5 v6 v7 v8 v9 v10 (.int .i64 n) v12 v13 v14 v15 v16 v17 v18 v19 (.int .i64 k) v21 v22 v23 v24 v25 v26 v27 v28 v29 v30 v31 v32 v33 v34 v35 v36 v37 v38 v39 v40 v41 v42 v43 v44 v45 v46)
    (HQ : Hid (∀ arr', Fx arr' v0 v1 v2 v3 v4 v5 v6 v7 v8 v9 v10 (.int .i64 n) v12 v13 v14 v15 v16 v17 v18 v19 (.int .i64 k) v21 v22 v23 v24 v25 v26 v27 v28 v29 v30 v31 v32 v33 v34 v35 v36 v37 v38 v39 v40 v41 v42 v43 v44 v45 v46 → k < n → K ⟨arr', []⟩ w))
    (HX : Hid (∀ arr', Fx arr' v0 v1 v2 v3 v4 v5 v6 v7 v8 v9 v10 (.int .i64 n) v12 v13 v14 v15 v16 v17 v18 v19 (.int .i64 k) v21 v22 v23 v24 v25 v26 v27 v28 v29 v30 v31 v32 v33 v34 v35 v36 v37 v38 v39 v40 v41 v42 v43 v44 v45 v46 → k = n → Q (.exit 4) ⟨arr', []⟩ w)) :
    Code.wp Yba.prog (nav [1, 1, 1, 1, 1, 1, 1, 1, 1, 1, 1, 1, 0, 1, 2, 2, 0] (Yba.f4.body.getD .skip)) (Exit.then K Q) ⟨arr, []⟩ w := by
  refine hs.open (fun t => ?_)
  clear hs
  conv => arg 2; whnf
  by_cases h : k < n
  · go_wp2
    refine HQ.out _ ?_ h
    exact (Fx.mk rfl rfl rfl rfl rfl rfl rfl rfl rfl rfl rfl rfl rfl rfl rfl rfl rfl rfl rfl rfl rfl rfl rfl rfl rfl rfl rfl rfl rfl rfl rfl rfl rfl rfl rfl rfl rfl rfl rfl rfl rfl rfl rfl rfl rfl rfl rfl rfl)
  · go_wp2
    refine HX.out _ ?_ (by omega)
    exact (Fx.mk rfl rfl rfl rfl rfl rfl rfl rfl rfl rfl rfl rfl rfl rfl rfl rfl rfl rfl rfl rfl rfl rfl rfl rfl rfl rfl rfl rfl rfl rfl rfl rfl rfl rfl rfl rfl rfl rfl rfl rfl rfl rfl rfl rfl rfl rfl rfl rfl)

set_option maxRecDepth 100000 in
set_option maxHeartbeats 400000 in
/-- i++ -/
theorem s12p (k : Nat) (arr : Array Value) (w : World) (K : Act → World → Prop) (Q : Exit → Act → World → Prop) (v0 v1 v2 v3 v4 v5 v6 v7 v8 v9 v10 v11 v12 v13 v14 v15 v16 v17 v18 v19 v21 v22 v23 v24 v25 v26 v27 v28 v29 v30 v31 v32 v33 v34 v35 v36 v37 v38 v39 v40 v41 v42 v43 v44 v45 v46 : Value)
    (hk : k ≤ 65536)
    (hs : Fx arr v0 v1 v2 v3 v4 v5 v6 v7 v8 v9 v10 v11 v12 v13 v14 v15 v16 v17 v18 v19 (.int .i64 k) v21 v22 v23 v24 v25 v26 v27 v28 v29 v30 v31 v32 v33 v34 v35 v36 v37 v38 v39 v40 v41 v42 v43 v44 v45 v46)
    (HQ : Hid (∀ arr', Fx arr' v0 v1 v2 v3 v4 v5 v6 v7 v8 v9 v10 v11 v12 v13 v14 v15 v16 v17 v18 v19 (.int .i64 ((k + 1 : Nat) : Int)) v21 v22 v23 v24 v25 v26 v27 v28 v29 v30 v31 v32 v33 v34 v35 v36 v37 v38 v39 v40 v41 v42 v43 v44 v45 v46 → K ⟨arr', []⟩ w)) :
    Code.wp Yba.prog (nav [1, 1, 1, 1, 1, 1, 1, 1, 1, 1, 1, 1, 0, 1, 2, 2, 1, 1] (Yba.f4.body.getD .skip)) (Exit.then K Q) ⟨arr, []⟩ w := by
  refine hs.open (fun t => ?_)
  clear hs
  conv => arg 2; whnf
  go_wp2
  refine HQ.out _ ?_
  exact (Fx.mk rfl rfl rfl rfl rfl rfl rfl rfl rfl rfl rfl rfl rfl rfl rfl rfl rfl rfl rfl rfl rfl (by go_num) rfl rfl rfl rfl rfl rfl rfl rfl rfl rfl rfl rfl rfl rfl rfl rfl rfl rfl rfl rfl rfl rfl rfl rfl rfl rfl)
end Go.Proofs.Ybulkdgxk
