/-
  LawS5405CWhole, its statement 25: the loops.
-/
import Derived.Test.YbulkdgxkS6
namespace Go.Proofs.Ybulkdgxk
open Go.RowKit C
set_option linter.unusedVariables false
set_option linter.unusedSimpArgs false

theorem c16 : nav [1, 1, 1, 1, 1, 1, 1, 1, 1, 1, 1, 1, 1, 1, 1, 1, 1, 1, 1, 1, 1, 1, 1, 1, 1, 0, 1, 2, 2, 1, 0, 2, 1, 0, 1, 2, 2, 1, 0, 2, 1] (Yba.f4.body.getD .skip) = .block 16 (.loop (.seq (nav [1, 1, 1, 1, 1, 1, 1, 1, 1, 1, 1, 1, 1, 1, 1, 1, 1, 1, 1, 1, 1, 1, 1, 1, 1, 0, 1, 2, 2, 1, 0, 2, 1, 0, 1, 2, 2, 1, 0, 2, 1, 2, 2, 0] (Yba.f4.body.getD .skip)) (.seq (.block 17 (nav [1, 1, 1, 1, 1, 1, 1, 1, 1, 1, 1, 1, 1, 1, 1, 1, 1, 1, 1, 1, 1, 1, 1, 1, 1, 0, 1, 2, 2, 1, 0, 2, 1, 0, 1, 2, 2, 1, 0, 2, 1, 2, 2, 1, 0, 2] (Yba.f4.body.getD .skip))) (nav [1, 1, 1, 1, 1, 1, 1, 1, 1, 1, 1, 1, 1, 1, 1, 1, 1, 1, 1, 1, 1, 1, 1, 1, 1, 0, 1, 2, 2, 1, 0, 2, 1, 0, 1, 2, 2, 1, 0, 2, 1, 2, 2, 1, 1] (Yba.f4.body.getD .skip))))) := by kernel_rfl
theorem c14b : nav [1, 1, 1, 1, 1, 1, 1, 1, 1, 1, 1, 1, 1, 1, 1, 1, 1, 1, 1, 1, 1, 1, 1, 1, 1, 0, 1, 2, 2, 1, 0, 2, 1, 0, 1] (Yba.f4.body.getD .skip) = .block 14 (.loop (.seq (nav [1, 1, 1, 1, 1, 1, 1, 1, 1, 1, 1, 1, 1, 1, 1, 1, 1, 1, 1, 1, 1, 1, 1, 1, 1, 0, 1, 2, 2, 1, 0, 2, 1, 0, 1, 2, 2, 0] (Yba.f4.body.getD .skip)) (.seq (.block 15 (.seq (nav [1, 1, 1, 1, 1, 1, 1, 1, 1, 1, 1, 1, 1, 1, 1, 1, 1, 1, 1, 1, 1, 1, 1, 1, 1, 0, 1, 2, 2, 1, 0, 2, 1, 0, 1, 2, 2, 1, 0, 2, 0] (Yba.f4.body.getD .skip)) (nav [1, 1, 1, 1, 1, 1, 1, 1, 1, 1, 1, 1, 1, 1, 1, 1, 1, 1, 1, 1, 1, 1, 1, 1, 1, 0, 1, 2, 2, 1, 0, 2, 1, 0, 1, 2, 2, 1, 0, 2, 1] (Yba.f4.body.getD .skip)))) (nav [1, 1, 1, 1, 1, 1, 1, 1, 1, 1, 1, 1, 1, 1, 1, 1, 1, 1, 1, 1, 1, 1, 1, 1, 1, 0, 1, 2, 2, 1, 0, 2, 1, 0, 1, 2, 2, 1, 1] (Yba.f4.body.getD .skip))))) := by kernel_rfl
theorem c18 : nav [1, 1, 1, 1, 1, 1, 1, 1, 1, 1, 1, 1, 1, 1, 1, 1, 1, 1, 1, 1, 1, 1, 1, 1, 1, 0, 1, 2, 2, 1, 0, 2, 1, 1, 1, 1, 1] (Yba.f4.body.getD .skip) = .block 18 (.loop (.seq (nav [1, 1, 1, 1, 1, 1, 1, 1, 1, 1, 1, 1, 1, 1, 1, 1, 1, 1, 1, 1, 1, 1, 1, 1, 1, 0, 1, 2, 2, 1, 0, 2, 1, 1, 1, 1, 1, 2, 2, 0] (Yba.f4.body.getD .skip)) (.seq (.block 19 (nav [1, 1, 1, 1, 1, 1, 1, 1, 1, 1, 1, 1, 1, 1, 1, 1, 1, 1, 1, 1, 1, 1, 1, 1, 1, 0, 1, 2, 2, 1, 0, 2, 1, 1, 1, 1, 1, 2, 2, 1, 0, 2] (Yba.f4.body.getD .skip))) (nav [1, 1, 1, 1, 1, 1, 1, 1, 1, 1, 1, 1, 1, 1, 1, 1, 1, 1, 1, 1, 1, 1, 1, 1, 1, 0, 1, 2, 2, 1, 0, 2, 1, 1, 1, 1, 1, 2, 2, 1, 1] (Yba.f4.body.getD .skip))))) := by kernel_rfl
theorem c25 : nav [1, 1, 1, 1, 1, 1, 1, 1, 1, 1, 1, 1, 1, 1, 1, 1, 1, 1, 1, 1, 1, 1, 1, 1, 1, 0] (Yba.f4.body.getD .skip) = .seq (nav [1, 1, 1, 1, 1, 1, 1, 1, 1, 1, 1, 1, 1, 1, 1, 1, 1, 1, 1, 1, 1, 1, 1, 1, 1, 0, 0] (Yba.f4.body.getD .skip)) (.block 12 (.loop (.seq (nav [1, 1, 1, 1, 1, 1, 1, 1, 1, 1, 1, 1, 1, 1, 1, 1, 1, 1, 1, 1, 1, 1, 1, 1, 1, 0, 1, 2, 2, 0] (Yba.f4.body.getD .skip)) (.seq (.block 13 (.seq (nav [1, 1, 1, 1, 1, 1, 1, 1, 1, 1, 1, 1, 1, 1, 1, 1, 1, 1, 1, 1, 1, 1, 1, 1, 1, 0, 1, 2, 2, 1, 0, 2, 0] (Yba.f4.body.getD .skip)) (.seq (.seq (nav [1, 1, 1, 1, 1, 1, 1, 1, 1, 1, 1, 1, 1, 1, 1, 1, 1, 1, 1, 1, 1, 1, 1, 1, 1, 0, 1, 2, 2, 1, 0, 2, 1, 0, 0] (Yba.f4.body.getD .skip)) (nav [1, 1, 1, 1, 1, 1, 1, 1, 1, 1, 1, 1, 1, 1, 1, 1, 1, 1, 1, 1, 1, 1, 1, 1, 1, 0, 1, 2, 2, 1, 0, 2, 1, 0, 1] (Yba.f4.body.getD .skip))) (.seq (nav [1, 1, 1, 1, 1, 1, 1, 1, 1, 1, 1, 1, 1, 1, 1, 1, 1, 1, 1, 1, 1, 1, 1, 1, 1, 0, 1, 2, 2, 1, 0, 2, 1, 1, 0] (Yba.f4.body.getD .skip)) (.seq (nav [1, 1, 1, 1, 1, 1, 1, 1, 1, 1, 1, 1, 1, 1, 1, 1, 1, 1, 1, 1, 1, 1, 1, 1, 1, 0, 1, 2, 2, 1, 0, 2, 1, 1, 1, 0] (Yba.f4.body.getD .skip)) (.seq (nav [1, 1, 1, 1, 1, 1, 1, 1, 1, 1, 1, 1, 1, 1, 1, 1, 1, 1, 1, 1, 1, 1, 1, 1, 1, 0, 1, 2, 2, 1, 0, 2, 1, 1, 1, 1, 0] (Yba.f4.body.getD .skip)) (nav [1, 1, 1, 1, 1, 1, 1, 1, 1, 1, 1, 1, 1, 1, 1, 1, 1, 1, 1, 1, 1, 1, 1, 1, 1, 0, 1, 2, 2, 1, 0, 2, 1, 1, 1, 1, 1] (Yba.f4.body.getD .skip)))))))) (nav [1, 1, 1, 1, 1, 1, 1, 1, 1, 1, 1, 1, 1, 1, 1, 1, 1, 1, 1, 1, 1, 1, 1, 1, 1, 0, 1, 2, 2, 1, 1] (Yba.f4.body.getD .skip)))))) := by kernel_rfl

/-- One step of the gathering. -/
theorem s16b (b0 o0 n c0 g np x p pass i : Nat) (U : Nat → Up) (arr : Array Value) (w : World) (K : Act → World → Prop) (Q : Exit → Act → World → Prop) (v1 v2 v3 v4 v5 v6 v7 v8 v9 v10 v11 v12 v15 v16 v17 v18 v19 v20 v21 v22 v23 v24 v25 v26 v27 v28 v29 v30 v31 v32 v37 v38 v39 v40 v41 v42 v43 v44 v45 v46 : Value)
    (b : Bool) (hb : Hid (((pass : Int) == 0) = b)) (hn : n ≤ 65536) (hp : p ≤ 8) (hi : i < n) (hU : Ups w b0 o0 n U) (ho : RowF w g 21 n (ownF U np)) (v : Value) (l : List Nat) (B : Nat) (hown : w.ownsRow B 21 1 v l.length (vals l)) (hlen : l.length ≤ 140000) (hB : B ≤ w.heap.size)
    (hs : Fx arr (.slice (some ⟨b0, o0, none⟩) n c0) v1 v2 v3 v4 v5 v6 v7 v8 v9 v10 v11 v12 (.int .i64 x) (.slice (some ⟨g, 0, none⟩) n n) v15 v16 v17 v18 v19 v20 v21 v22 v23 v24 v25 v26 v27 v28 v29 v30 v31 v32 (.int .i64 p) (v) (.int .i64 pass) (.int .i64 i) v37 v38 v39 v40 v41 v42 v43 v44 v45 v46)
    (HQ : ∀ arr' w' v', Fx arr' (.slice (some ⟨b0, o0, none⟩) n c0) v1 v2 v3 v4 v5 v6 v7 v8 v9 v10 v11 v12 (.int .i64 x) (.slice (some ⟨g, 0, none⟩) n n) v15 v16 v17 v18 v19 v20 v21 v22 v23 v24 v25 v26 v27 v28 v29 v30 v31 v32 (.int .i64 p) (v') (.int .i64 pass) (.int .i64 i) v37 v38 v39 v40 v41 v42 v43 v44 v45 v46 → w'.ownsRow B 21 1 v' (if cnd U np p x b i then l ++ [i] else l).length (vals (if cnd U np p x b i then l ++ [i] else l)) → Chg w w' (fun j => B ≤ j) → K ⟨arr', []⟩ w') :
    Code.wp Yba.prog (nav [1, 1, 1, 1, 1, 1, 1, 1, 1, 1, 1, 1, 1, 1, 1, 1, 1, 1, 1, 1, 1, 1, 1, 1, 1, 0, 1, 2, 2, 1, 0, 2, 1, 0, 1, 2, 2, 1, 0, 2, 1, 2, 2, 1, 0, 2] (Yba.f4.body.getD .skip)) (Exit.then K Q) ⟨arr, []⟩ w := by
  cases hc : cnd U np p x b i with
  | true =>
    refine s16y b0 o0 n c0 g np x p pass i U arr w _ _ _ _ _ _ _ _ _ _ _ _ _ _ _ _ _ _ _ _ _ _ _ _ _ _ _ _ _ _ _ _ _ _ _ _ _ _ _ _ _ _ b hb hn hp hi hU ho hc v l B hown hlen hB hs (fun arr' w' v' f o ch => ?_)
    exact HQ arr' w' v' f (by rw [hc, if_pos rfl]; exact o) ch
  | false =>
    refine s16n b0 o0 n c0 g np x p pass i U arr w _ _ _ _ _ _ _ _ _ _ _ _ _ _ _ _ _ _ _ _ _ _ _ _ _ _ _ _ _ _ _ _ _ _ _ _ _ _ _ _ _ _ _ b hb hn hp hi hU ho hc hs (fun arr' f => ?_)
    exact HQ arr' w v f (by rw [hc]; exact hown) (Chg.refl _ _)

set_option maxHeartbeats 1000000 in
/-- for i := n - 1; i >= 0; i-- -/
theorem l16 (b0 o0 n c0 g np x p pass : Nat) (U : Nat → Up) (b : Bool) (v : Value) (l : List Nat) (B : Nat) (arr : Array Value) (w : World) (K : Act → World → Prop) (Q : Exit → Act → World → Prop) (v1 v2 v3 v4 v5 v6 v7 v8 v9 v10 v11 v12 v15 v16 v17 v18 v19 v20 v21 v22 v23 v24 v25 v26 v27 v28 v29 v30 v31 v32 v37 v38 v39 v40 v41 v42 v43 v44 v45 v46 : Value)
    (hb : ((pass : Int) == 0) = b) (hn : n ≤ 65536) (hp : p ≤ 8) (hU : Ups w b0 o0 n U) (ho : RowF w g 21 n (ownF U np)) (hl : l.length + n ≤ 140000) (hB : B ≤ w.heap.size) (hbB : b0 < B) (hgB : g < B)
    (hown : w.ownsRow B 21 1 v l.length (vals l))
    (hs : Fx arr (.slice (some ⟨b0, o0, none⟩) n c0) v1 v2 v3 v4 v5 v6 v7 v8 v9 v10 v11 v12 (.int .i64 x) (.slice (some ⟨g, 0, none⟩) n n) v15 v16 v17 v18 v19 v20 v21 v22 v23 v24 v25 v26 v27 v28 v29 v30 v31 v32 (.int .i64 p) (v) (.int .i64 pass) (.int .i64 ((n : Int) - 1 - ((0 : Nat) : Int))) v37 v38 v39 v40 v41 v42 v43 v44 v45 v46)
    (HQ : ∀ arr' w' v' u36, Fx arr' (.slice (some ⟨b0, o0, none⟩) n c0) v1 v2 v3 v4 v5 v6 v7 v8 v9 v10 v11 v12 (.int .i64 x) (.slice (some ⟨g, 0, none⟩) n n) v15 v16 v17 v18 v19 v20 v21 v22 v23 v24 v25 v26 v27 v28 v29 v30 v31 v32 (.int .i64 p) (v') (.int .i64 pass) (u36) v37 v38 v39 v40 v41 v42 v43 v44 v45 v46 → w'.ownsRow B 21 1 v' (l ++ dnL (cnd U np p x b) n n).length (vals (l ++ dnL (cnd U np p x b) n n)) → Chg w w' (fun j => B ≤ j) → K ⟨arr', []⟩ w') :
    Code.wp Yba.prog (nav [1, 1, 1, 1, 1, 1, 1, 1, 1, 1, 1, 1, 1, 1, 1, 1, 1, 1, 1, 1, 1, 1, 1, 1, 1, 0, 1, 2, 2, 1, 0, 2, 1, 0, 1, 2, 2, 1, 0, 2, 1] (Yba.f4.body.getD .skip)) (Exit.then K Q) ⟨arr, []⟩ w := by
  rw [c16]
  refine wp_block ?_
  refine wp_loop (fun a w' => ∃ (arr' : Array Value) (k : Nat) (v' : Value), a = ⟨arr', []⟩ ∧ Fx arr' (.slice (some ⟨b0, o0, none⟩) n c0) v1 v2 v3 v4 v5 v6 v7 v8 v9 v10 v11 v12 (.int .i64 x) (.slice (some ⟨g, 0, none⟩) n n) v15 v16 v17 v18 v19 v20 v21 v22 v23 v24 v25 v26 v27 v28 v29 v30 v31 v32 (.int .i64 p) (v') (.int .i64 pass) (.int .i64 ((n : Int) - 1 - (k : Int))) v37 v38 v39 v40 v41 v42 v43 v44 v45 v46 ∧ k ≤ n ∧ w'.ownsRow B 21 1 v' (l ++ dnL (cnd U np p x b) n k).length (vals (l ++ dnL (cnd U np p x b) n k)) ∧ Chg w w' (fun j => B ≤ j)) (fun a _ => (intOf (a.tmps.getD 36 undef) + 1).toNat) ?_ ?_
  · exact ⟨arr, 0, v, rfl, hs, Nat.zero_le _, by simpa [dnL] using hown, Chg.refl _ _⟩
  · rintro a w' ⟨arr', k, v', rfl, f, hk, ho', hchg⟩
    have hmu : intOf (arr'.getD 36 undef) = (n : Int) - 1 - (k : Int) := by obtain ⟨_, h⟩ := f; simp only [h]; simp [intOf]
    have hle := dnL_le (cnd U np p x b) n k
    have sz := hchg.size
    refine wp_seq (s16t n k arr' w' _ _ _ _ _ _ _ _ _ _ _ _ _ _ _ _ _ _ _ _ _ _ _ _ _ _ _ _ _ _ _ _ _ _ _ _ _ _ _ _ _ _ _ _ _ _ _ _ hk hn f (fun arr2 f2 hlt => ?_) (fun arr2 f2 hkn => ?_))
    · have ei : ((n : Int) - 1 - (k : Int)) = ((n - 1 - k : Nat) : Int) := by omega
      rw [ei] at f2
      refine wp_seq (wp_block ?_)
      refine wp_last (s16b b0 o0 n c0 g np x p pass (n - 1 - k) U arr2 w' _ _ _ _ _ _ _ _ _ _ _ _ _ _ _ _ _ _ _ _ _ _ _ _ _ _ _ _ _ _ _ _ _ _ _ _ _ _ _ _ _ _ b hb hn hp (by omega) (hU.chg hchg (by omega)) (ho.chg hchg (by omega)) v' (l ++ dnL (cnd U np p x b) n k) B ho' (by rw [List.length_append]; omega) (by omega) f2 (fun arr3 w3 v3 f3 o3 g3 => ?_))
      rw [← ei] at f3
      refine s16p n k arr3 w3 _ _ _ _ _ _ _ _ _ _ _ _ _ _ _ _ _ _ _ _ _ _ _ _ _ _ _ _ _ _ _ _ _ _ _ _ _ _ _ _ _ _ _ _ _ _ _ _ hlt hn f3 (fun arr4 f4 => ?_)
      have e1 : (if cnd U np p x b (n - 1 - k) then l ++ dnL (cnd U np p x b) n k ++ [n - 1 - k] else l ++ dnL (cnd U np p x b) n k) = l ++ dnL (cnd U np p x b) n (k + 1) := by
        rw [dnL_succ]; split <;> simp
      rw [e1] at o3
      refine ⟨⟨arr4, k + 1, v3, rfl, f4, by omega, o3, hchg.trans g3⟩, ?_⟩
      have hmu4 : intOf (arr4.getD 36 undef) = (n : Int) - 1 - ((k + 1 : Nat) : Int) := by obtain ⟨_, h⟩ := f4; simp only [h]; simp [intOf]
      show (intOf (arr4.getD 36 undef) + 1).toNat < _
      rw [hmu, hmu4]; omega
    · subst hkn
      exact HQ arr2 w' v' _ f2 ho' hchg

/-- What k passes gather. -/
def gath (U : Nat → Up) (np n x p : Nat) : Nat → List Nat
  | 0 => []
  | k + 1 => gath U np n x p k ++ dnL (cnd U np p x ((k : Int) == 0)) n n
theorem gath_len (U : Nat → Up) (np n x p : Nat) : ∀ k, (gath U np n x p k).length ≤ k * n
  | 0 => by simp [gath]
  | k + 1 => by have h1 := gath_len U np n x p k; have h2 := dnL_le (cnd U np p x ((k : Int) == 0)) n n; simp only [gath, List.length_append]; rw [Nat.add_mul]; omega
theorem gath_two (U : Nat → Up) (np n x p : Nat) : gath U np n x p 2 = seqL (own U np) (fun i => (U i).pend) n x p := by
  rw [← seq_parts]; simp [gath]

set_option maxHeartbeats 1000000 in
/-- The two passes. -/
theorem l14 (b0 o0 n c0 g np x p : Nat) (U : Nat → Up) (B : Nat) (arr : Array Value) (w : World) (K : Act → World → Prop) (Q : Exit → Act → World → Prop) (v1 v2 v3 v4 v5 v6 v7 v8 v9 v10 v12 v15 v16 v17 v18 v19 v20 v21 v22 v23 v24 v25 v26 v27 v28 v29 v30 v31 v32 v36 v37 v38 v39 v40 v41 v42 v43 v44 v45 v46 : Value)
    (hn1 : 1 ≤ n) (hn : n ≤ 65536) (hp : p ≤ 8) (hU : Ups w b0 o0 n U) (ho : RowF w g 21 n (ownF U np)) (hB : B ≤ w.heap.size) (hbB : b0 < B) (hgB : g < B)
    (hs : Fx arr (.slice (some ⟨b0, o0, none⟩) n c0) v1 v2 v3 v4 v5 v6 v7 v8 v9 v10 (.int .i64 n) v12 (.int .i64 x) (.slice (some ⟨g, 0, none⟩) n n) v15 v16 v17 v18 v19 v20 v21 v22 v23 v24 v25 v26 v27 v28 v29 v30 v31 v32 (.int .i64 p) (.slice none 0 0) (.int .i64 ((0 : Nat) : Int)) v36 v37 v38 v39 v40 v41 v42 v43 v44 v45 v46)
    (HQ : ∀ arr' w' v' u35 u36, Fx arr' (.slice (some ⟨b0, o0, none⟩) n c0) v1 v2 v3 v4 v5 v6 v7 v8 v9 v10 (.int .i64 n) v12 (.int .i64 x) (.slice (some ⟨g, 0, none⟩) n n) v15 v16 v17 v18 v19 v20 v21 v22 v23 v24 v25 v26 v27 v28 v29 v30 v31 v32 (.int .i64 p) (v') (u35) (u36) v37 v38 v39 v40 v41 v42 v43 v44 v45 v46 → w'.ownsRow B 21 1 v' (seqL (own U np) (fun i => (U i).pend) n x p).length (vals (seqL (own U np) (fun i => (U i).pend) n x p)) → Chg w w' (fun j => B ≤ j) → K ⟨arr', []⟩ w') :
    Code.wp Yba.prog (nav [1, 1, 1, 1, 1, 1, 1, 1, 1, 1, 1, 1, 1, 1, 1, 1, 1, 1, 1, 1, 1, 1, 1, 1, 1, 0, 1, 2, 2, 1, 0, 2, 1, 0, 1] (Yba.f4.body.getD .skip)) (Exit.then K Q) ⟨arr, []⟩ w := by
  rw [c14b]
  refine wp_block ?_
  refine wp_loop (fun a w' => ∃ (arr' : Array Value) (k : Nat) (v' u36 : Value), a = ⟨arr', []⟩ ∧ Fx arr' (.slice (some ⟨b0, o0, none⟩) n c0) v1 v2 v3 v4 v5 v6 v7 v8 v9 v10 (.int .i64 n) v12 (.int .i64 x) (.slice (some ⟨g, 0, none⟩) n n) v15 v16 v17 v18 v19 v20 v21 v22 v23 v24 v25 v26 v27 v28 v29 v30 v31 v32 (.int .i64 p) (v') (.int .i64 (k : Int)) (u36) v37 v38 v39 v40 v41 v42 v43 v44 v45 v46 ∧ k ≤ 2 ∧ w'.ownsRow B 21 1 v' (gath U np n x p k).length (vals (gath U np n x p k)) ∧ Chg w w' (fun j => B ≤ j)) (fun a _ => (2 - intOf (a.tmps.getD 35 undef)).toNat) ?_ ?_
  · exact ⟨arr, 0, _, _, rfl, hs, by omega, World.ownsRow_nil _ _ _ _, Chg.refl _ _⟩
  · rintro a w' ⟨arr', k, v', u36, rfl, f, hk, ho', hchg⟩
    have hmu : intOf (arr'.getD 35 undef) = (k : Int) := by obtain ⟨_, h⟩ := f; simp only [h]; simp [intOf]
    have hle := gath_len U np n x p k
    have hle2 : k * n ≤ 2 * n := Nat.mul_le_mul_right n hk
    have sz := hchg.size
    refine wp_seq (s14t2 k arr' w' _ _ _ _ _ _ _ _ _ _ _ _ _ _ _ _ _ _ _ _ _ _ _ _ _ _ _ _ _ _ _ _ _ _ _ _ _ _ _ _ _ _ _ _ _ _ _ _ hk f (fun arr2 f2 hlt => ?_) (fun arr2 f2 hkn => ?_))
    · refine wp_seq (wp_block ?_)
      refine wp_seq (s14i2 n arr2 w' _ _ _ _ _ _ _ _ _ _ _ _ _ _ _ _ _ _ _ _ _ _ _ _ _ _ _ _ _ _ _ _ _ _ _ _ _ _ _ _ _ _ _ _ _ _ _ _ hn1 hn f2 (fun arr3 f3 => ?_))
      have hle3 : k * n ≤ 1 * n := Nat.mul_le_mul_right n (by omega)
      refine wp_last (l16 b0 o0 n c0 g np x p k U ((k : Int) == 0) v' (gath U np n x p k) B arr3 w' _ _ _ _ _ _ _ _ _ _ _ _ _ _ _ _ _ _ _ _ _ _ _ _ _ _ _ _ _ _ _ _ _ _ _ _ _ _ _ _ _ _ rfl hn hp (hU.chg hchg (by omega)) (ho.chg hchg (by omega)) (by omega) (by omega) hbB hgB ho' f3 (fun arr4 w4 v4 u36' f4 o4 g4 => ?_))
      refine s14p2 k arr4 w4 _ _ _ _ _ _ _ _ _ _ _ _ _ _ _ _ _ _ _ _ _ _ _ _ _ _ _ _ _ _ _ _ _ _ _ _ _ _ _ _ _ _ _ _ _ _ _ _ (by omega) f4 (fun arr5 f5 => ?_)
      refine ⟨⟨arr5, k + 1, v4, u36', rfl, f5, by omega, o4, hchg.trans g4⟩, ?_⟩
      have hmu4 : intOf (arr5.getD 35 undef) = ((k + 1 : Nat) : Int) := by obtain ⟨_, h⟩ := f5; simp only [h]; simp [intOf]
      show (2 - intOf (arr5.getD 35 undef)).toNat < _
      rw [hmu, hmu4]; omega
    · subst hkn
      rw [gath_two] at ho'
      exact HQ arr2 w' v' _ _ f2 ho' hchg

theorem after_get (l : List Nat) (k : Nat) : after l k = (match l[k + 1]? with | some j => (j : Int) | none => -1) := by
  unfold after
  cases h : l.drop (k + 1) with
  | nil =>
    have : l.length ≤ k + 1 := by simpa using h
    rw [List.getElem?_eq_none this]; rfl
  | cons a t =>
    have : l[k + 1]? = some a := by
      have h2 : (l.drop (k + 1))[0]? = some a := by rw [h]; rfl
      simpa using h2
    rw [this]; rfl

set_option maxHeartbeats 1000000 in
/-- for k := 0; k < len(seq); k++ writes expNext. -/
theorem l18 (n ge m cp : Nat) (ao : Option Addr) (l : List Nat) (e : Nat → Int) (arr : Array Value) (w : World) (K : Act → World → Prop) (Q : Exit → Act → World → Prop) (v0 v1 v2 v3 v4 v5 v6 v7 v8 v9 v10 v11 v12 v13 v14 v15 v16 v17 v18 v19 v20 v21 v22 v23 v24 v25 v26 v27 v28 v29 v30 v32 v33 v35 v36 v38 v39 v40 v41 v42 v43 v44 v45 v46 : Value)
    (hn : n ≤ 65536) (hm : m ≤ 140000) (hlm : l.length = m) (hnd : l.Nodup) (hln : ∀ i ∈ l, i < n) (hr : RowF w ge 21 n (intF e))
    (hao : 0 < m → ∃ gs, ao = some ⟨gs, 0, none⟩ ∧ ¬ gs = ge ∧ gs < w.heap.size ∧ ∀ j i, l[j]? = some i → w.cell? ⟨gs, j, none⟩ = some (.int .i32 ((i : Nat) : Int)))
    (hs : Fx arr v0 v1 v2 v3 v4 v5 v6 v7 v8 v9 v10 v11 v12 v13 v14 v15 v16 v17 v18 v19 v20 v21 v22 v23 v24 v25 v26 v27 v28 v29 v30 (.slice (some ⟨ge, 0, none⟩) n n) v32 v33 (.slice ao m cp) v35 v36 (.int .i64 ((0 : Nat) : Int)) v38 v39 v40 v41 v42 v43 v44 v45 v46)
    (HQ : ∀ arr' w' u37 u38 e', Fx arr' v0 v1 v2 v3 v4 v5 v6 v7 v8 v9 v10 v11 v12 v13 v14 v15 v16 v17 v18 v19 v20 v21 v22 v23 v24 v25 v26 v27 v28 v29 v30 (.slice (some ⟨ge, 0, none⟩) n n) v32 v33 (.slice ao m cp) v35 v36 (u37) (u38) v39 v40 v41 v42 v43 v44 v45 v46 → RowF w' ge 21 n (intF e') → (∀ j i, l[j]? = some i → e' i = after l j) → (∀ i, i ∉ l → e' i = e i) → Chg w w' (fun j => j = ge) → K ⟨arr', []⟩ w') :
    Code.wp Yba.prog (nav [1, 1, 1, 1, 1, 1, 1, 1, 1, 1, 1, 1, 1, 1, 1, 1, 1, 1, 1, 1, 1, 1, 1, 1, 1, 0, 1, 2, 2, 1, 0, 2, 1, 1, 1, 1, 1] (Yba.f4.body.getD .skip)) (Exit.then K Q) ⟨arr, []⟩ w := by
  rw [c18]
  refine wp_block ?_
  refine wp_loop (fun a w' => ∃ (arr' : Array Value) (k : Nat) (u38 : Value) (e' : Nat → Int), a = ⟨arr', []⟩ ∧ Fx arr' v0 v1 v2 v3 v4 v5 v6 v7 v8 v9 v10 v11 v12 v13 v14 v15 v16 v17 v18 v19 v20 v21 v22 v23 v24 v25 v26 v27 v28 v29 v30 (.slice (some ⟨ge, 0, none⟩) n n) v32 v33 (.slice ao m cp) v35 v36 (.int .i64 (k : Int)) (u38) v39 v40 v41 v42 v43 v44 v45 v46 ∧ k ≤ m ∧ RowF w' ge 21 n (intF e') ∧ (∀ j i, j < k → l[j]? = some i → e' i = after l j) ∧ (∀ i, i ∉ l → e' i = e i) ∧ Chg w w' (fun j => j = ge)) (fun a _ => ((m : Int) - intOf (a.tmps.getD 37 undef)).toNat) ?_ ?_
  · exact ⟨arr, 0, _, e, rfl, hs, Nat.zero_le _, hr, fun j i h => by omega, fun _ _ => rfl, Chg.refl _ _⟩
  · rintro a w' ⟨arr', k, u38, e', rfl, f, hk, hr', ha, hb, hchg⟩
    have hmu : intOf (arr'.getD 37 undef) = (k : Int) := by obtain ⟨_, h⟩ := f; simp only [h]; simp [intOf]
    refine wp_seq (s18t ao m cp k arr' w' _ _ _ _ _ _ _ _ _ _ _ _ _ _ _ _ _ _ _ _ _ _ _ _ _ _ _ _ _ _ _ _ _ _ _ _ _ _ _ _ _ _ _ _ _ _ _ hk f (fun arr2 f2 hlt => ?_) (fun arr2 f2 hkn => ?_))
    · obtain ⟨gs, rfl, hg1, hg2, hcs⟩ := hao (by omega)
      obtain ⟨i, hi⟩ : ∃ i, l[k]? = some i := ⟨l[k]'(by omega), List.getElem?_eq_getElem (by omega)⟩
      have him : i ∈ l := List.mem_of_getElem? hi
      have hc : ∀ j i, l[j]? = some i → w'.cell? ⟨gs, j, none⟩ = some (.int .i32 ((i : Nat) : Int)) := fun j i h => (hchg.cell hg2 (fun e => hg1 e)).trans (hcs j i h)
      refine wp_seq (wp_block ?_)
      refine wp_last (s18b n ge gs m cp k i (after l k) arr2 w' _ _ _ _ _ _ _ _ _ _ _ _ _ _ _ _ _ _ _ _ _ _ _ _ _ _ _ _ _ _ _ _ _ _ _ _ _ _ _ _ _ _ _ _ _ _ e' hn hm hlt (hln i him) hr' (hc k i hi) ⟨?_, ?_⟩ f2 (fun arr3 w3 u38' f3 r3 g3 => ?_))
      · intro h1
        have h2 : l[k + 1]? = some (l[k + 1]'(by omega)) := List.getElem?_eq_getElem (by omega)
        rw [hc _ _ h2, after_get, h2]
      · intro h1
        rw [after_get, List.getElem?_eq_none (by omega)]
      refine s18p k arr3 w3 _ _ _ _ _ _ _ _ _ _ _ _ _ _ _ _ _ _ _ _ _ _ _ _ _ _ _ _ _ _ _ _ _ _ _ _ _ _ _ _ _ _ _ _ _ _ _ _ (by omega) f3 (fun arr4 f4 => ?_)
      refine ⟨⟨arr4, k + 1, u38', _, rfl, f4, by omega, r3, ?_, ?_, hchg.trans g3⟩, ?_⟩
      · intro j i2 hj hi2
        by_cases hjk : j = k
        · subst hjk
          rw [hi] at hi2
          obtain rfl := Option.some.inj hi2
          exact updI_same _ _ _
        · have hne : i2 ≠ i := by
            rintro rfl
            exact hjk ((List.getElem?_inj (by omega) hnd).1 (hi2.trans hi.symm))
          rw [updI_ne _ _ _ _ hne]
          exact ha j i2 (by omega) hi2
      · intro i2 hi2
        rw [updI_ne _ _ _ _ (fun e => hi2 (by rw [e]; exact him))]
        exact hb i2 hi2
      · have hmu4 : intOf (arr4.getD 37 undef) = ((k + 1 : Nat) : Int) := by obtain ⟨_, h⟩ := f4; simp only [h]; simp [intOf]
        show ((m : Int) - intOf (arr4.getD 37 undef)).toNat < _
        rw [hmu, hmu4]; omega
    · subst hkn
      refine HQ arr2 w' _ _ e' f2 hr' (fun j i h => ha j i ?_ h) hb hchg
      obtain ⟨h1, _⟩ := List.getElem?_eq_some_iff.1 h
      omega

theorem own_open {w : World} {B : Nat} {v : Value} {l : List Nat} (h : w.ownsRow B 21 1 v l.length (vals l)) :
    ∃ ao cp, v = .slice ao l.length cp ∧ (0 < l.length → ∃ gs, ao = some ⟨gs, 0, none⟩ ∧ B ≤ gs ∧ gs < w.heap.size ∧ ∀ j i, l[j]? = some i → w.cell? ⟨gs, j, none⟩ = some (.int .i32 ((i : Nat) : Int))) := by
  obtain ⟨_, h2⟩ := id h
  rcases h2 with ⟨hv, h0⟩ | ⟨gs, cap, cur, rfl, hg, hh, h3, h4, h5, h6⟩
  · exact ⟨none, 0, by rw [hv, h0], fun hp => by omega⟩
  · refine ⟨_, cap, rfl, fun _ => ⟨gs, rfl, hg, ?_, fun j i hj => ?_⟩⟩
    · have := (Array.getElem?_eq_some_iff.1 hh).1; exact this
    · have hjl := (List.getElem?_eq_some_iff.1 hj).1
      rw [h.cellAt j (by omega)]; simp [vals, hj]

theorem seqL_nodup (on : Nat → Nat) (pend : Nat → Bool) (n x p : Nat) : (seqL on pend n x p).Nodup := by
  rw [seqL_eq]; exact List.Pairwise.filter _ (chainL_nodup on (given_nodup pend n) p)
theorem seqL_mem (on : Nat → Nat) (pend : Nat → Bool) (n x p i : Nat) : i ∈ seqL on pend n x p → i < n ∧ on i = p ∧ i ≠ x := by
  rw [seqL_eq, List.mem_filter, chainL_mem, given_mem]
  rintro ⟨⟨h1, h2⟩, h3⟩
  exact ⟨h1, h2, by simpa using h3⟩
theorem seqL_len (on : Nat → Nat) (pend : Nat → Bool) (n x p : Nat) : (seqL on pend n x p).length ≤ 2 * n := by
  unfold seqL
  have h1 := List.length_filter_le (fun i => on i == p && pend i && i != x) (List.range n).reverse
  have h2 := List.length_filter_le (fun i => on i == p && !pend i && i != x) (List.range n).reverse
  simp only [List.length_append, List.length_reverse, List.length_range] at h1 h2 ⊢
  omega

set_option maxHeartbeats 2000000 in
/-- What is looked for. -/
theorem s25 (b0 o0 n c0 g np x ge gel : Nat) (U : Nat → Up) (B : Nat) (e0 el0 : Nat → Int) (arr : Array Value) (w : World) (K : Act → World → Prop) (Q : Exit → Act → World → Prop) (v1 v2 v3 v4 v5 v6 v7 v8 v9 v10 v15 v16 v17 v18 v19 v20 v21 v22 v23 v24 v25 v26 v27 v28 v29 v30 v33 v34 v35 v36 v37 v38 v39 v40 v41 v42 v43 v44 v45 v46 : Value)
    (hn1 : 1 ≤ n) (hn : n ≤ 65536) (hp : np ≤ 8) (hU : Ups w b0 o0 n U) (ho : RowF w g 21 n (ownF U np)) (hB : B = w.heap.size) (hre : RowF w ge 21 n (intF e0)) (hrl : RowF w gel 21 np (intF el0))
    (hne : ¬ b0 = ge ∧ ¬ b0 = gel ∧ ¬ g = ge ∧ ¬ g = gel ∧ ¬ ge = gel)
    (hs : Fx arr (.slice (some ⟨b0, o0, none⟩) n c0) v1 v2 v3 v4 v5 v6 v7 v8 v9 v10 (.int .i64 n) (.int .i64 np) (.int .i64 x) (.slice (some ⟨g, 0, none⟩) n n) v15 v16 v17 v18 v19 v20 v21 v22 v23 v24 v25 v26 v27 v28 v29 v30 (.slice (some ⟨ge, 0, none⟩) n n) (.slice (some ⟨gel, 0, none⟩) np np) v33 v34 v35 v36 v37 v38 v39 v40 v41 v42 v43 v44 v45 v46)
    (HQ : ∀ arr' w' u33 u34 u35 u36 u37 u38 e el, Fx arr' (.slice (some ⟨b0, o0, none⟩) n c0) v1 v2 v3 v4 v5 v6 v7 v8 v9 v10 (.int .i64 n) (.int .i64 np) (.int .i64 x) (.slice (some ⟨g, 0, none⟩) n n) v15 v16 v17 v18 v19 v20 v21 v22 v23 v24 v25 v26 v27 v28 v29 v30 (.slice (some ⟨ge, 0, none⟩) n n) (.slice (some ⟨gel, 0, none⟩) np np) (u33) (u34) (u35) (u36) (u37) (u38) v39 v40 v41 v42 v43 v44 v45 v46 → RowF w' ge 21 n (intF e) → RowF w' gel 21 np (intF el) → (∀ q, q < np → (∀ j i, (seqL (own U np) (fun i => (U i).pend) n x q)[j]? = some i → e i = after (seqL (own U np) (fun i => (U i).pend) n x q) j) ∧ el q = headOr (seqL (own U np) (fun i => (U i).pend) n x q)) → Chg w w' (fun j => j = ge ∨ j = gel) → K ⟨arr', []⟩ w') :
    Code.wp Yba.prog (nav [1, 1, 1, 1, 1, 1, 1, 1, 1, 1, 1, 1, 1, 1, 1, 1, 1, 1, 1, 1, 1, 1, 1, 1, 1, 0] (Yba.f4.body.getD .skip)) (Exit.then K Q) ⟨arr, []⟩ w := by
  rw [c25]
  have lb := hU.lt
  have lg := ho.lt
  have lge := hre.lt
  have lgl := hrl.lt
  obtain ⟨n1, n2, n3, n4, n5⟩ := hne
  refine wp_seq (s25i  arr w _ _ _ _ _ _ _ _ _ _ _ _ _ _ _ _ _ _ _ _ _ _ _ _ _ _ _ _ _ _ _ _ _ _ _ _ _ _ _ _ _ _ _ _ _ _ _ _ _ hs (fun arr1 f1 => ?_))
  refine wp_block ?_
  refine wp_loop (fun a w' => ∃ (arr' : Array Value) (p : Nat) (u34 u35 u36 u37 u38 : Value) (e el : Nat → Int), a = ⟨arr', []⟩ ∧ Fx arr' (.slice (some ⟨b0, o0, none⟩) n c0) v1 v2 v3 v4 v5 v6 v7 v8 v9 v10 (.int .i64 n) (.int .i64 np) (.int .i64 x) (.slice (some ⟨g, 0, none⟩) n n) v15 v16 v17 v18 v19 v20 v21 v22 v23 v24 v25 v26 v27 v28 v29 v30 (.slice (some ⟨ge, 0, none⟩) n n) (.slice (some ⟨gel, 0, none⟩) np np) (.int .i64 (p : Int)) (u34) (u35) (u36) (u37) (u38) v39 v40 v41 v42 v43 v44 v45 v46 ∧ p ≤ np ∧ RowF w' ge 21 n (intF e) ∧ RowF w' gel 21 np (intF el) ∧ (∀ q, q < p → (∀ j i, (seqL (own U np) (fun i => (U i).pend) n x q)[j]? = some i → e i = after (seqL (own U np) (fun i => (U i).pend) n x q) j) ∧ el q = headOr (seqL (own U np) (fun i => (U i).pend) n x q)) ∧ Chg w w' (fun j => j = ge ∨ j = gel ∨ B ≤ j)) (fun a _ => ((np : Int) - intOf (a.tmps.getD 33 undef)).toNat) ?_ ?_
  · exact ⟨arr1, 0, _, _, _, _, _, e0, el0, rfl, f1, Nat.zero_le _, hre, hrl, fun q hq => by omega, Chg.refl _ _⟩
  · rintro a w' ⟨arr', p, u34, u35, u36, u37, u38, e, el, rfl, f, hk, hr, hl, hf, hchg⟩
    have hmu : intOf (arr'.getD 33 undef) = (p : Int) := by obtain ⟨_, h⟩ := f; simp only [h]; simp [intOf]
    have sz := hchg.size
    refine wp_seq (s25t np p arr' w' _ _ _ _ _ _ _ _ _ _ _ _ _ _ _ _ _ _ _ _ _ _ _ _ _ _ _ _ _ _ _ _ _ _ _ _ _ _ _ _ _ _ _ _ _ _ _ (by omega) f (fun arr2 f2 hlt => ?_) (fun arr2 f2 hkn => ?_))
    · refine wp_seq (wp_block ?_)
      refine wp_seq (s25a  arr2 w' _ _ _ _ _ _ _ _ _ _ _ _ _ _ _ _ _ _ _ _ _ _ _ _ _ _ _ _ _ _ _ _ _ _ _ _ _ _ _ _ _ _ _ _ _ _ _ _ _ f2 (fun arr3 f3 => ?_))
      refine wp_seq (wp_seq (s25b  arr3 w' _ _ _ _ _ _ _ _ _ _ _ _ _ _ _ _ _ _ _ _ _ _ _ _ _ _ _ _ _ _ _ _ _ _ _ _ _ _ _ _ _ _ _ _ _ _ _ _ _ f3 (fun arr4 f4 => ?_)))
      refine wp_last (l14 b0 o0 n c0 g np x p U B arr4 w' _ _ _ _ _ _ _ _ _ _ _ _ _ _ _ _ _ _ _ _ _ _ _ _ _ _ _ _ _ _ _ _ _ _ _ _ _ _ _ _ _ _ hn1 hn (by omega) (hU.chg hchg (by omega)) (ho.chg hchg (by omega)) (by omega) (by omega) (by omega) f4 (fun arr5 w5 v5 u35' u36' f5 o5 g5 => ?_))
      have sz5 := g5.size
      refine wp_seq (s25c np p gel arr5 w5 _ _ _ _ _ _ _ _ _ _ _ _ _ _ _ _ _ _ _ _ _ _ _ _ _ _ _ _ _ _ _ _ _ _ _ _ _ _ _ _ _ _ _ _ _ _ _ el hlt (hl.chg g5 (by omega)) f5 (fun arr6 w6 f6 r6 g6 => ?_))
      have sz6 := g6.size
      have o6 := ownsRow_chg o5 g6 (fun j hj e => by omega)
      have hr6 := (hr.chg g5 (by omega)).chg g6 (by omega)
      have hmem := seqL_mem (own U np) (fun i => (U i).pend) n x p
      have hlen := seqL_len (own U np) (fun i => (U i).pend) n x p
      have hnd := seqL_nodup (own U np) (fun i => (U i).pend) n x p
      obtain ⟨ao, cp, rfl, hao⟩ := own_open o6
      have hd : ∀ (K2 : Act → World → Prop) (Q2 : Exit → Act → World → Prop), (∀ arr7 w7 el7, Fx arr7 (.slice (some ⟨b0, o0, none⟩) n c0) v1 v2 v3 v4 v5 v6 v7 v8 v9 v10 (.int .i64 n) (.int .i64 np) (.int .i64 x) (.slice (some ⟨g, 0, none⟩) n n) v15 v16 v17 v18 v19 v20 v21 v22 v23 v24 v25 v26 v27 v28 v29 v30 (.slice (some ⟨ge, 0, none⟩) n n) (.slice (some ⟨gel, 0, none⟩) np np) (.int .i64 (p : Int)) (.slice ao (seqL (own U np) (fun i => (U i).pend) n x p).length cp) (u35') (u36') (u37) (u38) v39 v40 v41 v42 v43 v44 v45 v46 → RowF w7 gel 21 np (intF el7) → el7 p = headOr (seqL (own U np) (fun i => (U i).pend) n x p) → (∀ q, q ≠ p → el7 q = el q) → Chg w6 w7 (fun j => j = gel) → K2 ⟨arr7, []⟩ w7) → Code.wp Yba.prog (nav [1, 1, 1, 1, 1, 1, 1, 1, 1, 1, 1, 1, 1, 1, 1, 1, 1, 1, 1, 1, 1, 1, 1, 1, 1, 0, 1, 2, 2, 1, 0, 2, 1, 1, 1, 0] (Yba.f4.body.getD .skip)) (Exit.then K2 Q2) ⟨arr6, []⟩ w6 := by
        intro K2 Q2 hk2
        by_cases h0 : (seqL (own U np) (fun i => (U i).pend) n x p).length = 0
        · have f6' := f6
          have e7 : Value.slice ao 0 cp = .slice ao (seqL (own U np) (fun i => (U i).pend) n x p).length cp := by rw [h0]
          rw [← e7] at f6'
          refine s25d0 ao cp arr6 w6 _ _ _ _ _ _ _ _ _ _ _ _ _ _ _ _ _ _ _ _ _ _ _ _ _ _ _ _ _ _ _ _ _ _ _ _ _ _ _ _ _ _ _ _ _ _ _ _ f6' (fun arr7 f7 => ?_)
          rw [e7] at f7
          refine hk2 arr7 w6 _ f7 r6 ?_ (fun q hq => updI_ne _ _ _ _ hq) (Chg.refl _ _)
          rw [updI_same, List.eq_nil_of_length_eq_zero h0]; rfl
        · obtain ⟨gs, rfl, hg1, hg2, hcs⟩ := hao (by omega)
          obtain ⟨y, t, hyt⟩ : ∃ y t, (seqL (own U np) (fun i => (U i).pend) n x p) = y :: t := by
            cases hh : (seqL (own U np) (fun i => (U i).pend) n x p) with
            | nil => rw [hh] at h0; exact absurd rfl h0
            | cons y t => exact ⟨y, t, rfl⟩
          refine s25d1 np p gel gs (seqL (own U np) (fun i => (U i).pend) n x p).length cp (y : Int) arr6 w6 _ _ _ _ _ _ _ _ _ _ _ _ _ _ _ _ _ _ _ _ _ _ _ _ _ _ _ _ _ _ _ _ _ _ _ _ _ _ _ _ _ _ _ _ _ _ _ (by omega) hlt r6 (hcs 0 y (by rw [hyt]; rfl)) f6 (fun arr7 w7 f7 r7 g7 => ?_)
          refine hk2 arr7 w7 _ f7 r7 ?_ (fun q hq => ?_) g7
          · rw [updI_same, hyt]; rfl
          · rw [updI_ne _ _ _ _ hq, updI_ne _ _ _ _ hq]
      refine wp_seq (hd _ _ (fun arr7 w7 el7 f7 r7 hel1 hel2 g7 => ?_))
      have sz7 := g7.size
      refine wp_seq (s25e  arr7 w7 _ _ _ _ _ _ _ _ _ _ _ _ _ _ _ _ _ _ _ _ _ _ _ _ _ _ _ _ _ _ _ _ _ _ _ _ _ _ _ _ _ _ _ _ _ _ _ _ _ f7 (fun arr8 f8 => ?_))
      refine wp_last (l18 n ge (seqL (own U np) (fun i => (U i).pend) n x p).length cp ao (seqL (own U np) (fun i => (U i).pend) n x p) e arr8 w7 _ _ _ _ _ _ _ _ _ _ _ _ _ _ _ _ _ _ _ _ _ _ _ _ _ _ _ _ _ _ _ _ _ _ _ _ _ _ _ _ _ _ _ _ _ _ hn (by omega) rfl hnd (fun i hi => (hmem i hi).1) (hr6.chg g7 (by omega)) (fun h => ?_) f8 (fun arr9 w9 u37' u38' e9 f9 r9 he1 he2 g9 => ?_))
      · obtain ⟨gs, h1, h2, h3, h4⟩ := hao h
        exact ⟨gs, h1, by omega, by omega, fun j i hji => (g7.cell h3 (by omega)).trans (h4 j i hji)⟩
      refine s25p p arr9 w9 _ _ _ _ _ _ _ _ _ _ _ _ _ _ _ _ _ _ _ _ _ _ _ _ _ _ _ _ _ _ _ _ _ _ _ _ _ _ _ _ _ _ _ _ _ _ _ _ (by omega) f9 (fun arr10 f10 => ?_)
      refine ⟨⟨arr10, p + 1, _, _, _, _, _, e9, el7, rfl, f10, by omega, r9, r7.chg g9 (by omega), ?_, ?_⟩, ?_⟩
      · intro q hq
        by_cases hqp : q = p
        · subst hqp; exact ⟨he1, hel1⟩
        · obtain ⟨h1, h2⟩ := hf q (by omega)
          refine ⟨fun j i hji => ?_, by rw [hel2 q hqp]; exact h2⟩
          rw [he2 i (fun hi => ?_)]
          · exact h1 j i hji
          · have a1 := (hmem i hi).2.1
            have a2 := (seqL_mem (own U np) (fun i => (U i).pend) n x q i (List.mem_of_getElem? hji)).2.1
            omega
      · exact ⟨g9.os.trans (g7.os.trans (g6.os.trans (g5.os.trans hchg.os))), g9.tape.trans (g7.tape.trans (g6.tape.trans (g5.tape.trans hchg.tape))), g9.output.trans (g7.output.trans (g6.output.trans (g5.output.trans hchg.output))), by have := g9.size; omega,
          fun j hj hn => (g9.block j (by omega) (by omega)).trans ((g7.block j (by omega) (by omega)).trans ((g6.block j (by omega) (by omega)).trans ((g5.block j (by omega) (by omega)).trans (hchg.block j hj hn))))⟩
      · have hmu4 : intOf (arr10.getD 33 undef) = ((p + 1 : Nat) : Int) := by obtain ⟨_, h⟩ := f10; simp only [h]; simp [intOf]
        show ((np : Int) - intOf (arr10.getD 33 undef)).toNat < _
        rw [hmu, hmu4]; omega
    · subst hkn
      exact HQ arr2 w' _ _ _ _ _ _ e el f2 hr hl hf (hchg.mono (fun j hj e => by omega))
end Go.Proofs.Ybulkdgxk
