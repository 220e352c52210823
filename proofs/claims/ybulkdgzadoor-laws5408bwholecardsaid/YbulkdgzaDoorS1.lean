/-
  LawS5408BWhole, its statements 0 to 7.
-/
import Derived.Test.YbulkdgzaDoorFr
namespace Go.Proofs.YbulkdgzaDoor
open Go.RowKit B
set_option linter.unusedVariables false
set_option linter.unusedSimpArgs false

theorem zero49 : Ybad.zeroCells49 = #[Value.int .i64 0] ++ Array.replicate 11 (.int .u64 0) ++ Array.replicate 704 (.pointer none) := by kernel_rfl
theorem RowF.newA (w : World) (E : TypeId) (c : Array Value) (n : Nat) (f : Nat → Value) (hn : c.size = n) (hf : ∀ i, i < n → c[i]? = some (f i)) : RowF (w.alloc (.cells c E)) w.heap.size E n f :=
  ⟨c, by show (w.heap.push _)[w.heap.size]? = _; simp, by omega, hf⟩
theorem slots_new (w : World) (c : Nat) (tb : Nat → Nat) : RowF (w.alloc (.cells (Ybad.zeroCells49.setIfInBounds 0 (Value.int .i64 (c : Int))) 49)) w.heap.size 49 716 (slF tb c (fun _ => 0) (fun _ _ => [])) := by
  refine RowF.newA w 49 _ 716 _ ?_ ?_
  · rw [Array.size_setIfInBounds, zero49]
    simp only [Array.size_append, Array.size_replicate]; rfl
  intro i hi
  rw [Array.getElem?_setIfInBounds, zero49]
  unfold slF
  by_cases h0 : 0 = i
  · subst h0; rw [if_pos rfl, if_pos (by simp only [Array.size_append, Array.size_replicate]; omega)]; rfl
  · rw [if_neg h0, if_neg (fun e => h0 e.symm)]
    have s1 : (#[Value.int .i64 0] ++ Array.replicate 11 (Value.int .u64 0)).size = 12 := by simp only [Array.size_append, Array.size_replicate]; rfl
    by_cases h1 : i < 12
    · rw [if_pos h1, Array.getElem?_append_left (by rw [s1]; omega), Array.getElem?_append_right (by show 1 ≤ i; omega), Array.getElem?_replicate, if_pos (by show i - 1 < 11; omega)]
      rfl
    · rw [if_neg h1, Array.getElem?_append_right (by rw [s1]; omega), Array.getElem?_replicate, if_pos (by rw [s1]; omega)]
      rfl
/-- The cursor without its sign. -/
theorem cur_eq (z : Int) (h1 : -9223372036854775808 ≤ z) (h2 : z < 9223372036854775808) : wrap64 (bits .andNot .u64 (IntKind.u64.wrap z) 9223372036854775808) = (((z % 9223372036854775808).toNat : Nat) : Int) := by
  obtain ⟨a, ha⟩ : ∃ a : Nat, IntKind.u64.wrap z = (a : Int) ∧ a < 18446744073709551616 := ⟨(IntKind.u64.wrap z).toNat, by rw [IntKind.wrap_u64]; omega, by rw [IntKind.wrap_u64]; omega⟩
  have e := u64_andNot_nat a 9223372036854775808 ha.2 (by omega)
  have e2 : a &&& (18446744073709551615 - 9223372036854775808) = a % 9223372036854775808 := by
    have := Nat.and_two_pow_sub_one_eq_mod a 63
    simpa using this
  rw [ha.1]
  rw [show ((9223372036854775808 : Nat) : Int) = (9223372036854775808 : Int) from rfl] at e
  rw [e, e2]
  have h3 := ha.1
  rw [IntKind.wrap_u64] at h3
  rw [wrap64_nat _ (by omega)]
  omega

set_option maxRecDepth 100000 in
set_option maxHeartbeats 400000 in
/-- the result -/
theorem st0  (arr : Array Value) (w : World) (K : Act → World → Prop) (Q : Exit → Act → World → Prop) (R : Ending → World → Prop) (v0 v1 v2 v3 v4 v5 v6 v7 v8 v9 v10 v11 v12 v13 v14 v15 v16 v17 v18 v19 v20 v21 v22 v23 v24 v25 v26 v27 v28 v29 v30 v31 v32 v33 v34 v35 v36 v37 v38 : Value)
    
    (hs : Fx arr v0 v1 v2 v3 v4 v5 v6 v7 v8 v9 v10 v11 v12 v13 v14 v15 v16 v17 v18 v19 v20 v21 v22 v23 v24 v25 v26 v27 v28 v29 v30 v31 v32 v33 v34 v35 v36 v37 v38)
    (HQ : Hid (∀ arr', Fx arr' v0 v1 v2 v3 v4 v5 v6 v7 (.bool false) v9 v10 v11 v12 v13 v14 v15 v16 v17 v18 v19 v20 v21 v22 v23 v24 v25 v26 v27 v28 v29 v30 v31 v32 v33 v34 v35 v36 v37 v38 → K ⟨arr', []⟩ w)) :
    Code.wp Ybad.prog (nav [0] (Ybad.f4.body.getD .skip)) (Exit.then K (Qp Q R)) ⟨arr, []⟩ w := by
  refine hs.open (fun t => ?_)
  clear hs
  conv => arg 2; whnf
  go_wp2
  refine HQ.out _ ?_
  exact (Fx.mk rfl rfl rfl rfl rfl rfl rfl rfl rfl rfl rfl rfl rfl rfl rfl rfl rfl rfl rfl rfl rfl rfl rfl rfl rfl rfl rfl rfl rfl rfl rfl rfl rfl rfl rfl rfl rfl rfl rfl rfl)

set_option maxRecDepth 100000 in
set_option maxHeartbeats 400000 in
/-- len(offs) > 4096: no -/
theorem st1 (ao : Option Addr) (n cp : Nat) (arr : Array Value) (w : World) (K : Act → World → Prop) (Q : Exit → Act → World → Prop) (R : Ending → World → Prop) (v0 v2 v3 v4 v5 v6 v7 v8 v9 v10 v11 v12 v13 v14 v15 v16 v17 v18 v19 v20 v21 v22 v23 v24 v25 v26 v27 v28 v29 v30 v31 v32 v33 v34 v35 v36 v37 v38 : Value)
    (hn : n ≤ 4096)
    (hs : Fx arr v0 (.slice ao n cp) v2 v3 v4 v5 v6 v7 v8 v9 v10 v11 v12 v13 v14 v15 v16 v17 v18 v19 v20 v21 v22 v23 v24 v25 v26 v27 v28 v29 v30 v31 v32 v33 v34 v35 v36 v37 v38)
    (HQ : Hid (∀ arr', Fx arr' v0 (.slice ao n cp) v2 v3 v4 v5 v6 v7 v8 v9 v10 v11 v12 v13 v14 v15 v16 v17 v18 v19 v20 v21 v22 v23 v24 v25 v26 v27 v28 v29 v30 v31 v32 v33 v34 v35 v36 v37 v38 → K ⟨arr', []⟩ w)) :
    Code.wp Ybad.prog (nav [1, 0] (Ybad.f4.body.getD .skip)) (Exit.then K (Qp Q R)) ⟨arr, []⟩ w := by
  refine hs.open (fun t => ?_)
  clear hs
  conv => arg 2; whnf
  have h : ¬ (4096 : Int) < (n : Int) := by omega
  go_wp2
  refine HQ.out _ ?_
  exact (Fx.mk rfl rfl rfl rfl rfl rfl rfl rfl rfl rfl rfl rfl rfl rfl rfl rfl rfl rfl rfl rfl rfl rfl rfl rfl rfl rfl rfl rfl rfl rfl rfl rfl rfl rfl rfl rfl rfl rfl rfl rfl)

set_option maxRecDepth 100000 in
set_option maxHeartbeats 400000 in
/-- c := cursor without its sign -/
theorem st2 (cursor : Int) (c : Nat) (arr : Array Value) (w : World) (K : Act → World → Prop) (Q : Exit → Act → World → Prop) (R : Ending → World → Prop) (v1 v2 v3 v4 v5 v6 v7 v8 v9 v10 v11 v12 v13 v14 v15 v16 v17 v18 v19 v20 v21 v22 v23 v24 v25 v26 v27 v28 v29 v30 v31 v32 v33 v34 v35 v36 v37 v38 : Value)
    (hc : wrap64 (bits .andNot .u64 (IntKind.u64.wrap cursor) 9223372036854775808) = (c : Int))
    (hs : Fx arr (.int .i64 cursor) v1 v2 v3 v4 v5 v6 v7 v8 v9 v10 v11 v12 v13 v14 v15 v16 v17 v18 v19 v20 v21 v22 v23 v24 v25 v26 v27 v28 v29 v30 v31 v32 v33 v34 v35 v36 v37 v38)
    (HQ : Hid (∀ arr', Fx arr' (.int .i64 cursor) v1 v2 v3 v4 v5 v6 v7 v8 (.int .i64 c) v10 v11 v12 v13 v14 v15 v16 v17 v18 v19 v20 v21 v22 v23 v24 v25 v26 v27 v28 v29 v30 v31 v32 v33 v34 v35 v36 v37 v38 → K ⟨arr', []⟩ w)) :
    Code.wp Ybad.prog (nav [1, 1, 0] (Ybad.f4.body.getD .skip)) (Exit.then K (Qp Q R)) ⟨arr, []⟩ w := by
  refine hs.open (fun t => ?_)
  clear hs
  conv => arg 2; whnf
  go_wp2
  refine HQ.out _ ?_
  exact (Fx.mk rfl rfl rfl rfl rfl rfl rfl rfl rfl rfl (congrArg (Value.int .i64) hc) rfl rfl rfl rfl rfl rfl rfl rfl rfl rfl rfl rfl rfl rfl rfl rfl rfl rfl rfl rfl rfl rfl rfl rfl rfl rfl rfl rfl rfl)

set_option maxRecDepth 100000 in
set_option maxHeartbeats 400000 in
/-- m -/
theorem st3 (k : Nat) (arr : Array Value) (w : World) (K : Act → World → Prop) (Q : Exit → Act → World → Prop) (R : Ending → World → Prop) (v0 v1 v3 v4 v5 v6 v7 v8 v9 v10 v11 v12 v13 v14 v15 v16 v17 v18 v19 v20 v21 v22 v23 v24 v25 v26 v27 v28 v29 v30 v31 v32 v33 v34 v35 v36 v37 v38 : Value)
    (hk : k < 256)
    (hs : Fx arr v0 v1 (.int .u8 k) v3 v4 v5 v6 v7 v8 v9 v10 v11 v12 v13 v14 v15 v16 v17 v18 v19 v20 v21 v22 v23 v24 v25 v26 v27 v28 v29 v30 v31 v32 v33 v34 v35 v36 v37 v38)
    (HQ : Hid (∀ arr', Fx arr' v0 v1 (.int .u8 k) v3 v4 v5 v6 v7 v8 v9 (.int .u64 (mulV k)) v11 v12 v13 v14 v15 v16 v17 v18 v19 v20 v21 v22 v23 v24 v25 v26 v27 v28 v29 v30 v31 v32 v33 v34 v35 v36 v37 v38 → K ⟨arr', []⟩ w)) :
    Code.wp Ybad.prog (nav [1, 1, 1, 0] (Ybad.f4.body.getD .skip)) (Exit.then K (Qp Q R)) ⟨arr, []⟩ w := by
  refine hs.open (fun t => ?_)
  clear hs
  conv => arg 2; whnf
  have H : Hid (k < 256) := hk
  clear hk
  generalize hm : mulV k = m at *
  go_wp2_with (first | (go_at_call 10; refine (mul_any k H.out w).mono ?_; rintro e w' ⟨rfl, rfl⟩; rw [hm]))
  refine HQ.out _ ?_
  exact (Fx.mk rfl rfl rfl rfl rfl rfl rfl rfl rfl rfl rfl rfl rfl rfl rfl rfl rfl rfl rfl rfl rfl rfl rfl rfl rfl rfl rfl rfl rfl rfl rfl rfl rfl rfl rfl rfl rfl rfl rfl rfl)

set_option maxRecDepth 100000 in
set_option maxHeartbeats 400000 in
/-- n -/
theorem st4 (ao : Option Addr) (n cp : Nat) (arr : Array Value) (w : World) (K : Act → World → Prop) (Q : Exit → Act → World → Prop) (R : Ending → World → Prop) (v0 v2 v3 v4 v5 v6 v7 v8 v9 v10 v11 v12 v13 v14 v15 v16 v17 v18 v19 v20 v21 v22 v23 v24 v25 v26 v27 v28 v29 v30 v31 v32 v33 v34 v35 v36 v37 v38 : Value)
    
    (hs : Fx arr v0 (.slice ao n cp) v2 v3 v4 v5 v6 v7 v8 v9 v10 v11 v12 v13 v14 v15 v16 v17 v18 v19 v20 v21 v22 v23 v24 v25 v26 v27 v28 v29 v30 v31 v32 v33 v34 v35 v36 v37 v38)
    (HQ : Hid (∀ arr', Fx arr' v0 (.slice ao n cp) v2 v3 v4 v5 v6 v7 v8 v9 v10 (.int .i64 n) v12 v13 v14 v15 v16 v17 v18 v19 v20 v21 v22 v23 v24 v25 v26 v27 v28 v29 v30 v31 v32 v33 v34 v35 v36 v37 v38 → K ⟨arr', []⟩ w)) :
    Code.wp Ybad.prog (nav [1, 1, 1, 1, 0] (Ybad.f4.body.getD .skip)) (Exit.then K (Qp Q R)) ⟨arr, []⟩ w := by
  refine hs.open (fun t => ?_)
  clear hs
  conv => arg 2; whnf
  go_wp2
  refine HQ.out _ ?_
  exact (Fx.mk rfl rfl rfl rfl rfl rfl rfl rfl rfl rfl rfl rfl rfl rfl rfl rfl rfl rfl rfl rfl rfl rfl rfl rfl rfl rfl rfl rfl rfl rfl rfl rfl rfl rfl rfl rfl rfl rfl rfl rfl)

set_option maxRecDepth 100000 in
set_option maxHeartbeats 400000 in
/-- ts -/
theorem st5 (n : Nat) (arr : Array Value) (w : World) (K : Act → World → Prop) (Q : Exit → Act → World → Prop) (R : Ending → World → Prop) (v0 v1 v2 v3 v4 v5 v6 v7 v8 v9 v10 v12 v13 v14 v15 v16 v17 v18 v19 v20 v21 v22 v23 v24 v25 v26 v27 v28 v29 v30 v31 v32 v33 v34 v35 v36 v37 v38 : Value)
    (hn : n ≤ 4096)
    (hs : Fx arr v0 v1 v2 v3 v4 v5 v6 v7 v8 v9 v10 (.int .i64 n) v12 v13 v14 v15 v16 v17 v18 v19 v20 v21 v22 v23 v24 v25 v26 v27 v28 v29 v30 v31 v32 v33 v34 v35 v36 v37 v38)
    (HQ : Hid (∀ arr', Fx arr' v0 v1 v2 v3 v4 v5 v6 v7 v8 v9 v10 (.int .i64 n) (.slice (some ⟨w.heap.size, 0, none⟩) n n) v13 v14 v15 v16 v17 v18 v19 v20 v21 v22 v23 v24 v25 v26 v27 v28 v29 v30 v31 v32 v33 v34 v35 v36 v37 v38 → K ⟨arr', []⟩ (w.alloc (.cells (Array.replicate n (Value.pointer none)) 45)))) :
    Code.wp Ybad.prog (nav [1, 1, 1, 1, 1, 0] (Ybad.f4.body.getD .skip)) (Exit.then K (Qp Q R)) ⟨arr, []⟩ w := by
  refine hs.open (fun t => ?_)
  clear hs
  conv => arg 2; whnf
  have hmk := mk50 n hn
  go_wp2
  refine HQ.out _ ?_
  exact (Fx.mk rfl rfl rfl rfl rfl rfl rfl rfl rfl rfl rfl rfl rfl rfl rfl rfl rfl rfl rfl rfl rfl rfl rfl rfl rfl rfl rfl rfl rfl rfl rfl rfl rfl rfl rfl rfl rfl rfl rfl rfl)

set_option maxRecDepth 100000 in
set_option maxHeartbeats 400000 in
/-- ticks -/
theorem st6 (n : Nat) (arr : Array Value) (w : World) (K : Act → World → Prop) (Q : Exit → Act → World → Prop) (R : Ending → World → Prop) (v0 v1 v2 v3 v4 v5 v6 v7 v8 v9 v10 v12 v13 v14 v15 v16 v17 v18 v19 v20 v21 v22 v23 v24 v25 v26 v27 v28 v29 v30 v31 v32 v33 v34 v35 v36 v37 v38 : Value)
    (hn : n ≤ 4096)
    (hs : Fx arr v0 v1 v2 v3 v4 v5 v6 v7 v8 v9 v10 (.int .i64 n) v12 v13 v14 v15 v16 v17 v18 v19 v20 v21 v22 v23 v24 v25 v26 v27 v28 v29 v30 v31 v32 v33 v34 v35 v36 v37 v38)
    (HQ : Hid (∀ arr', Fx arr' v0 v1 v2 v3 v4 v5 v6 v7 v8 v9 v10 (.int .i64 n) v12 (.slice (some ⟨w.heap.size, 0, none⟩) n n) v14 v15 v16 v17 v18 v19 v20 v21 v22 v23 v24 v25 v26 v27 v28 v29 v30 v31 v32 v33 v34 v35 v36 v37 v38 → K ⟨arr', []⟩ (w.alloc (.cells (Array.replicate n (Value.int .i64 0)) 2)))) :
    Code.wp Ybad.prog (nav [1, 1, 1, 1, 1, 1, 0] (Ybad.f4.body.getD .skip)) (Exit.then K (Qp Q R)) ⟨arr, []⟩ w := by
  refine hs.open (fun t => ?_)
  clear hs
  conv => arg 2; whnf
  have hmk := mk23 n hn
  go_wp2
  refine HQ.out _ ?_
  exact (Fx.mk rfl rfl rfl rfl rfl rfl rfl rfl rfl rfl rfl rfl rfl rfl rfl rfl rfl rfl rfl rfl rfl rfl rfl rfl rfl rfl rfl rfl rfl rfl rfl rfl rfl rfl rfl rfl rfl rfl rfl rfl)

set_option maxRecDepth 100000 in
set_option maxHeartbeats 400000 in
/-- s -/
theorem st7 (c : Nat) (tb : Nat → Nat) (arr : Array Value) (w : World) (K : Act → World → Prop) (Q : Exit → Act → World → Prop) (R : Ending → World → Prop) (v0 v1 v2 v3 v4 v5 v6 v7 v8 v10 v11 v12 v13 v14 v15 v16 v17 v18 v19 v20 v21 v22 v23 v24 v25 v26 v27 v28 v29 v30 v31 v32 v33 v34 v35 v36 v37 v38 : Value)
    
    (hs : Fx arr v0 v1 v2 v3 v4 v5 v6 v7 v8 (.int .i64 c) v10 v11 v12 v13 v14 v15 v16 v17 v18 v19 v20 v21 v22 v23 v24 v25 v26 v27 v28 v29 v30 v31 v32 v33 v34 v35 v36 v37 v38)
    (HQ : Hid (∀ arr' w', Fx arr' v0 v1 v2 v3 v4 v5 v6 v7 v8 (.int .i64 c) v10 v11 v12 v13 (.pointer (some ⟨w.heap.size, 0, none⟩)) v15 v16 v17 v18 v19 v20 v21 v22 v23 v24 v25 v26 v27 v28 v29 v30 v31 v32 v33 v34 v35 v36 v37 v38 → RowF w' w.heap.size 49 716 (slF tb c (fun _ => 0) (fun _ _ => [])) → Chg w w' (fun _ => False) → w'.heap.size = w.heap.size + 1 → K ⟨arr', []⟩ w')) :
    Code.wp Ybad.prog (nav [1, 1, 1, 1, 1, 1, 1, 0] (Ybad.f4.body.getD .skip)) (Exit.then K (Qp Q R)) ⟨arr, []⟩ w := by
  refine hs.open (fun t => ?_)
  clear hs
  conv => arg 2; whnf
  have H := slots_new w c tb
  go_wp2
  refine HQ.out _ _ ?_ H ((Chg.refl _ _).alloc _) (by simp)
  exact (Fx.mk rfl rfl rfl rfl rfl rfl rfl rfl rfl rfl rfl rfl rfl rfl rfl rfl rfl rfl rfl rfl rfl rfl rfl rfl rfl rfl rfl rfl rfl rfl rfl rfl rfl rfl rfl rfl rfl rfl rfl rfl)

end Go.Proofs.YbulkdgzaDoor
