/-
  LawS5409AWhole: the pieces.
-/
import Derived.Test.YbulkdgzoS1
namespace Go.Proofs.Ybulkdgzo
open Go.RowKit
set_option linter.unusedVariables false
set_option linter.unusedSimpArgs false

theorem info49 : (Yba.prog.info? 49).map (fun i => (i.zero, i.size, i.bytes)) = some (some (.agg #[.pointer none, .pointer none]), 2, 16) := by kernel_rfl
theorem mk27 (n : Nat) (hn : n ≤ 1048576) (w : World) : (Instr.makeSlice 27 (.int .i64 0) (.int .i64 (n : Int))).run Yba.prog w = .ok (.slice (some ⟨w.heap.size, 0, none⟩) 0 n) (w.alloc (.cells (madeCells #[.pointer none, .pointer none] (n * 2)) 49)) := by
  obtain ⟨i0, hi, hz0, hz1, hz2⟩ := info_parts' info49
  have := run_make (P := Yba.prog) w 27 49 i0 (.agg #[.pointer none, .pointer none]) Yba.underlying27 hi hz0 .i64 .i64 0 (n : Int) (by omega) (by omega) (by rw [hz2]; omega) (by omega)
  rw [this, hz1]; simp [Value.cells]
theorem made_size (n : Nat) : (madeCells #[.pointer none, .pointer none] (n * 2)).size = n * 2 := by
  simp [madeCells]

set_option maxRecDepth 100000 in
set_option maxHeartbeats 400000 in
/-- the result -/
theorem st0  (arr : Array Value) (w : World) (K : Act → World → Prop) (Q : Exit → Act → World → Prop) (R : Ending → World → Prop) (v0 v1 v2 v3 v4 v5 v6 v7 v8 v9 v10 v11 : Value)
    
    (hs : Fx arr v0 v1 v2 v3 v4 v5 v6 v7 v8 v9 v10 v11)
    (HQ : Hid (∀ arr', Fx arr' v0 v1 (.bool false) v3 v4 v5 v6 v7 v8 v9 v10 v11 → K ⟨arr', []⟩ w)) :
    Code.wp Yba.prog (nav [0] (Yba.f3.body.getD .skip)) (Exit.then K (Qp Q R)) ⟨arr, []⟩ w := by
  refine hs.open (fun t => ?_)
  clear hs
  conv => arg 2; whnf
  go_wp2
  refine HQ.out _ ?_
  exact (Fx.mk rfl rfl rfl rfl rfl rfl rfl rfl rfl rfl rfl rfl rfl)

set_option maxRecDepth 100000 in
set_option maxHeartbeats 400000 in
/-- total := 0 -/
theorem st1  (arr : Array Value) (w : World) (K : Act → World → Prop) (Q : Exit → Act → World → Prop) (R : Ending → World → Prop) (v0 v1 v2 v3 v4 v5 v6 v7 v8 v9 v10 v11 : Value)
    
    (hs : Fx arr v0 v1 v2 v3 v4 v5 v6 v7 v8 v9 v10 v11)
    (HQ : Hid (∀ arr', Fx arr' v0 v1 v2 (.int .i64 ((0 : Nat) : Int)) v4 v5 v6 v7 v8 v9 v10 v11 → K ⟨arr', []⟩ w)) :
    Code.wp Yba.prog (nav [1, 0] (Yba.f3.body.getD .skip)) (Exit.then K (Qp Q R)) ⟨arr, []⟩ w := by
  refine hs.open (fun t => ?_)
  clear hs
  conv => arg 2; whnf
  go_wp2
  refine HQ.out _ ?_
  exact (Fx.mk rfl rfl rfl rfl rfl rfl rfl rfl rfl rfl rfl rfl rfl)

set_option maxRecDepth 100000 in
set_option maxHeartbeats 400000 in
/-- i := 0 -/
theorem r2i  (arr : Array Value) (w : World) (K : Act → World → Prop) (Q : Exit → Act → World → Prop) (R : Ending → World → Prop) (v0 v1 v2 v3 v4 v5 v6 v7 v8 v9 v10 v11 : Value)
    
    (hs : Fx arr v0 v1 v2 v3 v4 v5 v6 v7 v8 v9 v10 v11)
    (HQ : Hid (∀ arr', Fx arr' v0 v1 v2 v3 (.int .i64 ((0 : Nat) : Int)) v5 v6 v7 v8 v9 v10 v11 → K ⟨arr', []⟩ w)) :
    Code.wp Yba.prog (nav [1, 1, 0, 0] (Yba.f3.body.getD .skip)) (Exit.then K (Qp Q R)) ⟨arr, []⟩ w := by
  refine hs.open (fun t => ?_)
  clear hs
  conv => arg 2; whnf
  go_wp2
  refine HQ.out _ ?_
  exact (Fx.mk rfl rfl rfl rfl rfl rfl rfl rfl rfl rfl rfl rfl rfl)

set_option maxRecDepth 100000 in
set_option maxHeartbeats 400000 in
/-- one length -/
theorem r2s (b o n cp k tot ni ci : Nat) (a : Option Addr) (arr : Array Value) (w : World) (K : Act → World → Prop) (Q : Exit → Act → World → Prop) (R : Ending → World → Prop) (v1 v2 v5 v6 v7 v8 v9 v10 v11 : Value)
    (hn : n ≤ 1048576) (hk : k < n) (ht : tot + ni ≤ 1048576) (c2 : w.cell? ⟨b, o + k * 3 + 2, none⟩ = some (.slice a ni ci))
    (hs : Fx arr (.slice (some ⟨b, o, none⟩) n cp) v1 v2 (.int .i64 tot) (.int .i64 k) v5 v6 v7 v8 v9 v10 v11)
    (HQ : Hid (∀ arr', Fx arr' (.slice (some ⟨b, o, none⟩) n cp) v1 v2 (.int .i64 ((tot + ni : Nat) : Int)) (.int .i64 ((k + 1 : Nat) : Int)) v5 v6 v7 v8 v9 v10 v11 → K ⟨arr', []⟩ w)) :
    Code.wp Yba.prog (nav [1, 1, 0, 1, 2, 2] (Yba.f3.body.getD .skip)) (Exit.then K (Qp Q R)) ⟨arr, []⟩ w := by
  refine hs.open (fun t => ?_)
  clear hs
  conv => arg 2; whnf
  have hk' : (k : Int) < (n : Int) := by omega
  have ht' : (tot : Int) + (ni : Int) ≤ 1048576 := by omega
  go_wp2
  refine HQ.out _ ?_
  exact (Fx.mk rfl rfl rfl rfl (by go_num) (by go_num) rfl rfl rfl rfl rfl rfl rfl)

set_option maxRecDepth 100000 in
set_option maxHeartbeats 400000 in
/-- the test: no -/
theorem r2x (ao : Option Addr) (n cp : Nat) (arr : Array Value) (w : World) (K : Act → World → Prop) (Q : Exit → Act → World → Prop) (R : Ending → World → Prop) (v1 v2 v3 v5 v6 v7 v8 v9 v10 v11 : Value)
    
    (hs : Fx arr (.slice ao n cp) v1 v2 v3 (.int .i64 n) v5 v6 v7 v8 v9 v10 v11)
    (HX : Hid (∀ arr', Fx arr' (.slice ao n cp) v1 v2 v3 (.int .i64 n) v5 v6 v7 v8 v9 v10 v11 → Q (.exit 0) ⟨arr', []⟩ w)) :
    Code.wp Yba.prog (nav [1, 1, 0, 1, 2, 2] (Yba.f3.body.getD .skip)) (Exit.then K (Qp Q R)) ⟨arr, []⟩ w := by
  refine hs.open (fun t => ?_)
  clear hs
  conv => arg 2; whnf
  go_wp2
  refine HX.out _ ?_
  exact (Fx.mk rfl rfl rfl rfl rfl rfl rfl rfl rfl rfl rfl rfl rfl)

set_option maxRecDepth 100000 in
set_option maxHeartbeats 400000 in
/-- len(levels) > 1<<20: no -/
theorem st3 (ao : Option Addr) (n cp : Nat) (arr : Array Value) (w : World) (K : Act → World → Prop) (Q : Exit → Act → World → Prop) (R : Ending → World → Prop) (v1 v2 v3 v4 v5 v6 v7 v8 v9 v10 v11 : Value)
    (hn : n ≤ 1048576)
    (hs : Fx arr (.slice ao n cp) v1 v2 v3 v4 v5 v6 v7 v8 v9 v10 v11)
    (HQ : Hid (∀ arr', Fx arr' (.slice ao n cp) v1 v2 v3 v4 v5 v6 v7 v8 v9 v10 v11 → K ⟨arr', []⟩ w)) :
    Code.wp Yba.prog (nav [1, 1, 1, 0] (Yba.f3.body.getD .skip)) (Exit.then K (Qp Q R)) ⟨arr, []⟩ w := by
  refine hs.open (fun t => ?_)
  clear hs
  conv => arg 2; whnf
  have h : ¬ (1048576 : Int) < (n : Int) := by omega
  go_wp2
  refine HQ.out _ ?_
  exact (Fx.mk rfl rfl rfl rfl rfl rfl rfl rfl rfl rfl rfl rfl rfl)

set_option maxRecDepth 100000 in
set_option maxHeartbeats 400000 in
/-- v := make(..) -/
theorem st4 (ao : Option Addr) (n cp : Nat) (arr : Array Value) (w : World) (K : Act → World → Prop) (Q : Exit → Act → World → Prop) (R : Ending → World → Prop) (v1 v2 v3 v4 v5 v6 v7 v8 v9 v10 v11 : Value)
    (hn : n ≤ 1048576)
    (hs : Fx arr (.slice ao n cp) v1 v2 v3 v4 v5 v6 v7 v8 v9 v10 v11)
    (HQ : Hid (∀ arr', Fx arr' (.slice ao n cp) v1 v2 v3 v4 (.slice (some ⟨w.heap.size, 0, none⟩) 0 n) v6 v7 v8 v9 v10 v11 → K ⟨arr', []⟩ (w.alloc (.cells (madeCells #[.pointer none, .pointer none] (n * 2)) 49)))) :
    Code.wp Yba.prog (nav [1, 1, 1, 1, 0] (Yba.f3.body.getD .skip)) (Exit.then K (Qp Q R)) ⟨arr, []⟩ w := by
  refine hs.open (fun t => ?_)
  clear hs
  conv => arg 2; whnf
  have hmk := mk27 n hn
  generalize madeCells #[Value.pointer none, .pointer none] (n * 2) = MC at *
  go_wp2
  refine HQ.out _ ?_
  exact (Fx.mk rfl rfl rfl rfl rfl rfl rfl rfl rfl rfl rfl rfl rfl)

set_option maxRecDepth 100000 in
set_option maxHeartbeats 400000 in
/-- i := 0 -/
theorem r5i  (arr : Array Value) (w : World) (K : Act → World → Prop) (Q : Exit → Act → World → Prop) (R : Ending → World → Prop) (v0 v1 v2 v3 v4 v5 v6 v7 v8 v9 v10 v11 : Value)
    
    (hs : Fx arr v0 v1 v2 v3 v4 v5 v6 v7 v8 v9 v10 v11)
    (HQ : Hid (∀ arr', Fx arr' v0 v1 v2 v3 v4 v5 (.int .i64 ((0 : Nat) : Int)) v7 v8 v9 v10 v11 → K ⟨arr', []⟩ w)) :
    Code.wp Yba.prog (nav [1, 1, 1, 1, 1, 0, 0] (Yba.f3.body.getD .skip)) (Exit.then K (Qp Q R)) ⟨arr, []⟩ w := by
  refine hs.open (fun t => ?_)
  clear hs
  conv => arg 2; whnf
  go_wp2
  refine HQ.out _ ?_
  exact (Fx.mk rfl rfl rfl rfl rfl rfl rfl rfl rfl rfl rfl rfl rfl)

set_option maxRecDepth 100000 in
set_option maxHeartbeats 400000 in
/-- i < len(levels) -/
theorem t5 (ao : Option Addr) (n cp k : Nat) (arr : Array Value) (w : World) (K : Act → World → Prop) (Q : Exit → Act → World → Prop) (R : Ending → World → Prop) (v1 v2 v3 v4 v5 v7 v8 v9 v10 v11 : Value)
    (hk : k < n)
    (hs : Fx arr (.slice ao n cp) v1 v2 v3 v4 v5 (.int .i64 k) v7 v8 v9 v10 v11)
    (HQ : Hid (∀ arr', Fx arr' (.slice ao n cp) v1 v2 v3 v4 v5 (.int .i64 k) v7 v8 v9 v10 v11 → K ⟨arr', []⟩ w)) :
    Code.wp Yba.prog (nav [1, 1, 1, 1, 1, 0, 1, 2, 2, 0] (Yba.f3.body.getD .skip)) (Exit.then K (Qp Q R)) ⟨arr, []⟩ w := by
  refine hs.open (fun t => ?_)
  clear hs
  conv => arg 2; whnf
  have hk' : (k : Int) < (n : Int) := by omega
  go_wp2
  refine HQ.out _ ?_
  exact (Fx.mk rfl rfl rfl rfl rfl rfl rfl rfl rfl rfl rfl rfl rfl)

set_option maxRecDepth 100000 in
set_option maxHeartbeats 400000 in
/-- the test: no -/
theorem t5x (ao : Option Addr) (n cp : Nat) (arr : Array Value) (w : World) (K : Act → World → Prop) (Q : Exit → Act → World → Prop) (R : Ending → World → Prop) (v1 v2 v3 v4 v5 v7 v8 v9 v10 v11 : Value)
    
    (hs : Fx arr (.slice ao n cp) v1 v2 v3 v4 v5 (.int .i64 n) v7 v8 v9 v10 v11)
    (HX : Hid (∀ arr', Fx arr' (.slice ao n cp) v1 v2 v3 v4 v5 (.int .i64 n) v7 v8 v9 v10 v11 → Q (.exit 2) ⟨arr', []⟩ w)) :
    Code.wp Yba.prog (nav [1, 1, 1, 1, 1, 0, 1, 2, 2, 0] (Yba.f3.body.getD .skip)) (Exit.then K (Qp Q R)) ⟨arr, []⟩ w := by
  refine hs.open (fun t => ?_)
  clear hs
  conv => arg 2; whnf
  go_wp2
  refine HX.out _ ?_
  exact (Fx.mk rfl rfl rfl rfl rfl rfl rfl rfl rfl rfl rfl rfl rfl)

set_option maxRecDepth 100000 in
set_option maxHeartbeats 400000 in
/-- tx := nil -/
theorem r14  (arr : Array Value) (w : World) (K : Act → World → Prop) (Q : Exit → Act → World → Prop) (R : Ending → World → Prop) (v0 v1 v2 v3 v4 v5 v6 v7 v8 v9 v10 v11 : Value)
    
    (hs : Fx arr v0 v1 v2 v3 v4 v5 v6 v7 v8 v9 v10 v11)
    (HQ : Hid (∀ arr', Fx arr' v0 v1 v2 v3 v4 v5 v6 (.pointer none) v8 v9 v10 v11 → K ⟨arr', []⟩ w)) :
    Code.wp Yba.prog (nav [1, 1, 1, 1, 1, 0, 1, 2, 2, 1, 0, 2, 0] (Yba.f3.body.getD .skip)) (Exit.then K (Qp Q R)) ⟨arr, []⟩ w := by
  refine hs.open (fun t => ?_)
  clear hs
  conv => arg 2; whnf
  go_wp2
  refine HQ.out _ ?_
  exact (Fx.mk rfl rfl rfl rfl rfl rfl rfl rfl rfl rfl rfl rfl rfl)

set_option maxRecDepth 100000 in
set_option maxHeartbeats 400000 in
/-- no tx -/
theorem r15f (b o n cp k : Nat) (arr : Array Value) (w : World) (K : Act → World → Prop) (Q : Exit → Act → World → Prop) (R : Ending → World → Prop) (v1 v2 v3 v4 v5 v7 v8 v9 v10 v11 : Value)
    (hk : k < n) (c0 : w.cell? ⟨b, o + k * 3, none⟩ = some (.bool false))
    (hs : Fx arr (.slice (some ⟨b, o, none⟩) n cp) v1 v2 v3 v4 v5 (.int .i64 k) v7 v8 v9 v10 v11)
    (HQ : Hid (∀ arr', Fx arr' (.slice (some ⟨b, o, none⟩) n cp) v1 v2 v3 v4 v5 (.int .i64 k) v7 v8 v9 v10 v11 → K ⟨arr', []⟩ w)) :
    Code.wp Yba.prog (nav [1, 1, 1, 1, 1, 0, 1, 2, 2, 1, 0, 2, 1, 0] (Yba.f3.body.getD .skip)) (Exit.then K (Qp Q R)) ⟨arr, []⟩ w := by
  refine hs.open (fun t => ?_)
  clear hs
  conv => arg 2; whnf
  have hk' : (k : Int) < (n : Int) := by omega
  go_wp2
  refine HQ.out _ ?_
  exact (Fx.mk rfl rfl rfl rfl rfl rfl rfl rfl rfl rfl rfl rfl rfl)

set_option maxRecDepth 100000 in
set_option maxHeartbeats 400000 in
/-- a tx -/
theorem r15t (b o n cp k : Nat) (arr : Array Value) (w : World) (K : Act → World → Prop) (Q : Exit → Act → World → Prop) (R : Ending → World → Prop) (v1 v2 v3 v4 v5 v7 v8 v9 v10 v11 : Value)
    (hk : k < n) (c0 : w.cell? ⟨b, o + k * 3, none⟩ = some (.bool true))
    (hs : Fx arr (.slice (some ⟨b, o, none⟩) n cp) v1 v2 v3 v4 v5 (.int .i64 k) v7 v8 v9 v10 v11)
    (HQ : Hid (∀ arr' w', Fx arr' (.slice (some ⟨b, o, none⟩) n cp) v1 v2 v3 v4 v5 (.int .i64 k) (.pointer (some ⟨w.heap.size, 0, none⟩)) v8 v9 v10 v11 → (∃ ob, w' = w.alloc ob) → K ⟨arr', []⟩ w')) :
    Code.wp Yba.prog (nav [1, 1, 1, 1, 1, 0, 1, 2, 2, 1, 0, 2, 1, 0] (Yba.f3.body.getD .skip)) (Exit.then K (Qp Q R)) ⟨arr, []⟩ w := by
  refine hs.open (fun t => ?_)
  clear hs
  conv => arg 2; whnf
  have hk' : (k : Int) < (n : Int) := by omega
  go_wp2
  refine HQ.out _ _ ?_ ⟨_, rfl⟩
  exact (Fx.mk rfl rfl rfl rfl rfl rfl rfl rfl rfl rfl rfl rfl rfl)

set_option maxRecDepth 100000 in
set_option maxHeartbeats 400000 in
/-- i++ -/
theorem p5 (k : Nat) (arr : Array Value) (w : World) (K : Act → World → Prop) (Q : Exit → Act → World → Prop) (R : Ending → World → Prop) (v0 v1 v2 v3 v4 v5 v7 v8 v9 v10 v11 : Value)
    (hk : k ≤ 1048576)
    (hs : Fx arr v0 v1 v2 v3 v4 v5 (.int .i64 k) v7 v8 v9 v10 v11)
    (HQ : Hid (∀ arr', Fx arr' v0 v1 v2 v3 v4 v5 (.int .i64 ((k + 1 : Nat) : Int)) v7 v8 v9 v10 v11 → K ⟨arr', []⟩ w)) :
    Code.wp Yba.prog (nav [1, 1, 1, 1, 1, 0, 1, 2, 2, 1, 1] (Yba.f3.body.getD .skip)) (Exit.then K (Qp Q R)) ⟨arr, []⟩ w := by
  refine hs.open (fun t => ?_)
  clear hs
  conv => arg 2; whnf
  go_wp2
  refine HQ.out _ ?_
  exact (Fx.mk rfl rfl rfl rfl rfl rfl rfl (by go_num) rfl rfl rfl rfl rfl)

set_option maxRecDepth 100000 in
set_option maxHeartbeats 400000 in
/-- want := 0 -/
theorem st6  (arr : Array Value) (w : World) (K : Act → World → Prop) (Q : Exit → Act → World → Prop) (R : Ending → World → Prop) (v0 v1 v2 v3 v4 v5 v6 v7 v8 v9 v10 v11 : Value)
    
    (hs : Fx arr v0 v1 v2 v3 v4 v5 v6 v7 v8 v9 v10 v11)
    (HQ : Hid (∀ arr', Fx arr' v0 v1 v2 v3 v4 v5 v6 v7 (.int .i64 ((0 : Nat) : Int)) v9 v10 v11 → K ⟨arr', []⟩ w)) :
    Code.wp Yba.prog (nav [1, 1, 1, 1, 1, 1, 0] (Yba.f3.body.getD .skip)) (Exit.then K (Qp Q R)) ⟨arr, []⟩ w := by
  refine hs.open (fun t => ?_)
  clear hs
  conv => arg 2; whnf
  go_wp2
  refine HQ.out _ ?_
  exact (Fx.mk rfl rfl rfl rfl rfl rfl rfl rfl rfl rfl rfl rfl rfl)

set_option maxRecDepth 100000 in
set_option maxHeartbeats 400000 in
/-- i := len(levels) - 1 -/
theorem r7i (ao : Option Addr) (n cp : Nat) (arr : Array Value) (w : World) (K : Act → World → Prop) (Q : Exit → Act → World → Prop) (R : Ending → World → Prop) (v1 v2 v3 v4 v5 v6 v7 v8 v9 v10 v11 : Value)
    (hn : n ≤ 1048576)
    (hs : Fx arr (.slice ao n cp) v1 v2 v3 v4 v5 v6 v7 v8 v9 v10 v11)
    (HQ : Hid (∀ arr', Fx arr' (.slice ao n cp) v1 v2 v3 v4 v5 v6 v7 v8 (.int .i64 ((n : Int) - 1)) v10 v11 → K ⟨arr', []⟩ w)) :
    Code.wp Yba.prog (nav [1, 1, 1, 1, 1, 1, 1, 0, 0] (Yba.f3.body.getD .skip)) (Exit.then K (Qp Q R)) ⟨arr, []⟩ w := by
  refine hs.open (fun t => ?_)
  clear hs
  conv => arg 2; whnf
  go_wp2
  refine HQ.out _ ?_
  exact (Fx.mk rfl rfl rfl rfl rfl rfl rfl rfl rfl rfl rfl rfl rfl)

set_option maxRecDepth 100000 in
set_option maxHeartbeats 400000 in
/-- one count -/
theorem r7s (b o n cp j : Nat) (s dq s2 : Int) (arr : Array Value) (w : World) (K : Act → World → Prop) (Q : Exit → Act → World → Prop) (R : Ending → World → Prop) (v1 v2 v3 v4 v5 v6 v7 v10 v11 : Value)
    (hn : n ≤ 1048576) (hj : j < n) (c1 : w.cell? ⟨b, o + j * 3 + 1, none⟩ = some (.int .i64 dq)) (e : wrap64 (s + dq) = s2)
    (hs : Fx arr (.slice (some ⟨b, o, none⟩) n cp) v1 v2 v3 v4 v5 v6 v7 (.int .i64 s) (.int .i64 (j : Int)) v10 v11)
    (HQ : Hid (∀ arr', Fx arr' (.slice (some ⟨b, o, none⟩) n cp) v1 v2 v3 v4 v5 v6 v7 (.int .i64 s2) (.int .i64 ((j : Int) - 1)) v10 v11 → K ⟨arr', []⟩ w)) :
    Code.wp Yba.prog (nav [1, 1, 1, 1, 1, 1, 1, 0, 1, 2, 2] (Yba.f3.body.getD .skip)) (Exit.then K (Qp Q R)) ⟨arr, []⟩ w := by
  refine hs.open (fun t => ?_)
  clear hs
  conv => arg 2; whnf
  have hj' : (j : Int) < (n : Int) := by omega
  go_wp2
  refine HQ.out _ ?_
  exact (Fx.mk rfl rfl rfl rfl rfl rfl rfl rfl rfl (congrArg (Value.int .i64) e) rfl rfl rfl)

set_option maxRecDepth 100000 in
set_option maxHeartbeats 400000 in
/-- i >= 0: no -/
theorem r7x  (arr : Array Value) (w : World) (K : Act → World → Prop) (Q : Exit → Act → World → Prop) (R : Ending → World → Prop) (v0 v1 v2 v3 v4 v5 v6 v7 v8 v10 v11 : Value)
    
    (hs : Fx arr v0 v1 v2 v3 v4 v5 v6 v7 v8 (.int .i64 (-1)) v10 v11)
    (HX : Hid (∀ arr', Fx arr' v0 v1 v2 v3 v4 v5 v6 v7 v8 (.int .i64 (-1)) v10 v11 → Q (.exit 4) ⟨arr', []⟩ w)) :
    Code.wp Yba.prog (nav [1, 1, 1, 1, 1, 1, 1, 0, 1, 2, 2] (Yba.f3.body.getD .skip)) (Exit.then K (Qp Q R)) ⟨arr, []⟩ w := by
  refine hs.open (fun t => ?_)
  clear hs
  conv => arg 2; whnf
  go_wp2
  refine HX.out _ ?_
  exact (Fx.mk rfl rfl rfl rfl rfl rfl rfl rfl rfl rfl rfl rfl rfl)

set_option maxRecDepth 100000 in
set_option maxHeartbeats 400000 in
/-- got := v.dequeued() -/
theorem st8 (vb n cap : Nat) (s : Int) (G : World → Prop) (arr : Array Value) (w : World) (K : Act → World → Prop) (Q : Exit → Act → World → Prop) (R : Ending → World → Prop) (v0 v1 v2 v3 v4 v6 v7 v8 v9 v10 v11 : Value)
    (HA : Hid (Calls Yba.prog 6 #[.slice (some ⟨vb, 0, none⟩) n cap] w (fun e w' => e = .returned (.int .i64 s) ∧ G w')))
    (hs : Fx arr v0 v1 v2 v3 v4 (.slice (some ⟨vb, 0, none⟩) n cap) v6 v7 v8 v9 v10 v11)
    (HQ : Hid (∀ arr' w', Fx arr' v0 v1 v2 v3 v4 (.slice (some ⟨vb, 0, none⟩) n cap) v6 v7 v8 v9 (.int .i64 s) v11 → G w' → K ⟨arr', []⟩ w')) :
    Code.wp Yba.prog (nav [1, 1, 1, 1, 1, 1, 1, 1, 0] (Yba.f3.body.getD .skip)) (Exit.then K (Qp Q R)) ⟨arr, []⟩ w := by
  refine hs.open (fun t => ?_)
  clear hs
  conv => arg 2; whnf
  go_wp2_with fail
  refine Calls.mono HA.out ?_
  rintro e w2 ⟨rfl, hG⟩
  have HG : Hid (G w2) := hG
  clear hG HA
  go_wp2
  exact HQ.out _ _ (Fx.mk rfl rfl rfl rfl rfl rfl rfl rfl rfl rfl rfl rfl rfl) HG.out

set_option maxRecDepth 100000 in
set_option maxHeartbeats 400000 in
/-- got != want: no -/
theorem st9 (s : Int) (arr : Array Value) (w : World) (K : Act → World → Prop) (Q : Exit → Act → World → Prop) (R : Ending → World → Prop) (v0 v1 v2 v3 v4 v5 v6 v7 v9 v11 : Value)
    
    (hs : Fx arr v0 v1 v2 v3 v4 v5 v6 v7 (.int .i64 s) v9 (.int .i64 s) v11)
    (HQ : Hid (∀ arr', Fx arr' v0 v1 v2 v3 v4 v5 v6 v7 (.int .i64 s) v9 (.int .i64 s) v11 → K ⟨arr', []⟩ w)) :
    Code.wp Yba.prog (nav [1, 1, 1, 1, 1, 1, 1, 1, 1, 0] (Yba.f3.body.getD .skip)) (Exit.then K (Qp Q R)) ⟨arr, []⟩ w := by
  refine hs.open (fun t => ?_)
  clear hs
  conv => arg 2; whnf
  go_wp2
  refine HQ.out _ ?_
  exact (Fx.mk rfl rfl rfl rfl rfl rfl rfl rfl rfl rfl rfl rfl rfl)

set_option maxRecDepth 100000 in
set_option maxHeartbeats 400000 in
/-- len(v) != len(levels): no -/
theorem st10 (ao av : Option Addr) (n cp cv : Nat) (arr : Array Value) (w : World) (K : Act → World → Prop) (Q : Exit → Act → World → Prop) (R : Ending → World → Prop) (v1 v2 v3 v4 v6 v7 v8 v9 v10 v11 : Value)
    
    (hs : Fx arr (.slice ao n cp) v1 v2 v3 v4 (.slice av n cv) v6 v7 v8 v9 v10 v11)
    (HQ : Hid (∀ arr', Fx arr' (.slice ao n cp) v1 v2 v3 v4 (.slice av n cv) v6 v7 v8 v9 v10 v11 → K ⟨arr', []⟩ w)) :
    Code.wp Yba.prog (nav [1, 1, 1, 1, 1, 1, 1, 1, 1, 1, 0] (Yba.f3.body.getD .skip)) (Exit.then K (Qp Q R)) ⟨arr, []⟩ w := by
  refine hs.open (fun t => ?_)
  clear hs
  conv => arg 2; whnf
  go_wp2
  refine HQ.out _ ?_
  exact (Fx.mk rfl rfl rfl rfl rfl rfl rfl rfl rfl rfl rfl rfl rfl)

set_option maxRecDepth 100000 in
set_option maxHeartbeats 400000 in
/-- i := 0 -/
theorem r11i  (arr : Array Value) (w : World) (K : Act → World → Prop) (Q : Exit → Act → World → Prop) (R : Ending → World → Prop) (v0 v1 v2 v3 v4 v5 v6 v7 v8 v9 v10 v11 : Value)
    
    (hs : Fx arr v0 v1 v2 v3 v4 v5 v6 v7 v8 v9 v10 v11)
    (HQ : Hid (∀ arr', Fx arr' v0 v1 v2 v3 v4 v5 v6 v7 v8 v9 v10 (.int .i64 ((0 : Nat) : Int)) → K ⟨arr', []⟩ w)) :
    Code.wp Yba.prog (nav [1, 1, 1, 1, 1, 1, 1, 1, 1, 1, 1, 0, 0] (Yba.f3.body.getD .skip)) (Exit.then K (Qp Q R)) ⟨arr, []⟩ w := by
  refine hs.open (fun t => ?_)
  clear hs
  conv => arg 2; whnf
  go_wp2
  refine HQ.out _ ?_
  exact (Fx.mk rfl rfl rfl rfl rfl rfl rfl rfl rfl rfl rfl rfl rfl)

set_option maxRecDepth 100000 in
set_option maxHeartbeats 400000 in
/-- i < len(levels) -/
theorem t11 (ao : Option Addr) (n cp k : Nat) (arr : Array Value) (w : World) (K : Act → World → Prop) (Q : Exit → Act → World → Prop) (R : Ending → World → Prop) (v1 v2 v3 v4 v5 v6 v7 v8 v9 v10 : Value)
    (hk : k < n)
    (hs : Fx arr (.slice ao n cp) v1 v2 v3 v4 v5 v6 v7 v8 v9 v10 (.int .i64 k))
    (HQ : Hid (∀ arr', Fx arr' (.slice ao n cp) v1 v2 v3 v4 v5 v6 v7 v8 v9 v10 (.int .i64 k) → K ⟨arr', []⟩ w)) :
    Code.wp Yba.prog (nav [1, 1, 1, 1, 1, 1, 1, 1, 1, 1, 1, 0, 1, 2, 2, 0] (Yba.f3.body.getD .skip)) (Exit.then K (Qp Q R)) ⟨arr, []⟩ w := by
  refine hs.open (fun t => ?_)
  clear hs
  conv => arg 2; whnf
  have hk' : (k : Int) < (n : Int) := by omega
  go_wp2
  refine HQ.out _ ?_
  exact (Fx.mk rfl rfl rfl rfl rfl rfl rfl rfl rfl rfl rfl rfl rfl)

set_option maxRecDepth 100000 in
set_option maxHeartbeats 400000 in
/-- the test: no -/
theorem t11x (ao : Option Addr) (n cp : Nat) (arr : Array Value) (w : World) (K : Act → World → Prop) (Q : Exit → Act → World → Prop) (R : Ending → World → Prop) (v1 v2 v3 v4 v5 v6 v7 v8 v9 v10 : Value)
    
    (hs : Fx arr (.slice ao n cp) v1 v2 v3 v4 v5 v6 v7 v8 v9 v10 (.int .i64 n))
    (HX : Hid (∀ arr', Fx arr' (.slice ao n cp) v1 v2 v3 v4 v5 v6 v7 v8 v9 v10 (.int .i64 n) → Q (.exit 6) ⟨arr', []⟩ w)) :
    Code.wp Yba.prog (nav [1, 1, 1, 1, 1, 1, 1, 1, 1, 1, 1, 0, 1, 2, 2, 0] (Yba.f3.body.getD .skip)) (Exit.then K (Qp Q R)) ⟨arr, []⟩ w := by
  refine hs.open (fun t => ?_)
  clear hs
  conv => arg 2; whnf
  go_wp2
  refine HX.out _ ?_
  exact (Fx.mk rfl rfl rfl rfl rfl rfl rfl rfl rfl rfl rfl rfl rfl)

set_option maxRecDepth 100000 in
set_option maxHeartbeats 400000 in
/-- the counts -/
theorem x31 (b o n cp vb cv k q : Nat) (dq : Int) (arr : Array Value) (w : World) (K : Act → World → Prop) (Q : Exit → Act → World → Prop) (R : Ending → World → Prop) (v1 v2 v3 v4 v6 v7 v8 v9 v10 : Value)
    (hk : k < n) (d1 : w.cell? ⟨vb, k * 2 + 1, none⟩ = some (.pointer (some ⟨q, 0, none⟩))) (d2 : w.cell? ⟨q, 1, none⟩ = some (.int .i64 dq)) (c1 : w.cell? ⟨b, o + k * 3 + 1, none⟩ = some (.int .i64 dq))
    (hs : Fx arr (.slice (some ⟨b, o, none⟩) n cp) v1 v2 v3 v4 (.slice (some ⟨vb, 0, none⟩) n cv) v6 v7 v8 v9 v10 (.int .i64 k))
    (HQ : Hid (∀ arr' w', Fx arr' (.slice (some ⟨b, o, none⟩) n cp) v1 v2 v3 v4 (.slice (some ⟨vb, 0, none⟩) n cv) v6 v7 v8 v9 v10 (.int .i64 k) → (∃ q, w' = w.drewN q) → K ⟨arr', []⟩ w')) :
    Code.wp Yba.prog (nav [1, 1, 1, 1, 1, 1, 1, 1, 1, 1, 1, 0, 1, 2, 2, 1, 0, 2, 0] (Yba.f3.body.getD .skip)) (Exit.then K (Qp Q R)) ⟨arr, []⟩ w := by
  refine hs.open (fun t => ?_)
  clear hs
  conv => arg 2; whnf
  have hk' : (k : Int) < (n : Int) := by omega
  go_wp2
  go_quiet (fail)
  go_wp2
  exact HQ.out _ _ (Fx.mk rfl rfl rfl rfl rfl rfl rfl rfl rfl rfl rfl rfl rfl) ⟨nq, rfl⟩

set_option maxRecDepth 100000 in
set_option maxHeartbeats 400000 in
/-- the items -/
theorem x33 (b o n cp vb cv k q ni gc ci : Nat) (ga a : Option Addr) (arr : Array Value) (w : World) (K : Act → World → Prop) (Q : Exit → Act → World → Prop) (R : Ending → World → Prop) (v1 v2 v3 v4 v6 v7 v8 v9 v10 : Value)
    (hk : k < n) (d1 : w.cell? ⟨vb, k * 2 + 1, none⟩ = some (.pointer (some ⟨q, 0, none⟩))) (d2 : w.cell? ⟨q, 0, none⟩ = some (.slice ga ni gc)) (c2 : w.cell? ⟨b, o + k * 3 + 2, none⟩ = some (.slice a ni ci))
    (HA : Hid (∀ j, Calls Yba.prog 7 #[.slice ga ni gc, .slice a ni ci] (w.drewN j) (fun e w' => e = .returned (.bool true) ∧ ∃ m, w' = (w.drewN j).drewN m)))
    (hs : Fx arr (.slice (some ⟨b, o, none⟩) n cp) v1 v2 v3 v4 (.slice (some ⟨vb, 0, none⟩) n cv) v6 v7 v8 v9 v10 (.int .i64 k))
    (HQ : Hid (∀ arr' w', Fx arr' (.slice (some ⟨b, o, none⟩) n cp) v1 v2 v3 v4 (.slice (some ⟨vb, 0, none⟩) n cv) v6 v7 v8 v9 v10 (.int .i64 k) → (∃ q, w' = w.drewN q) → K ⟨arr', []⟩ w')) :
    Code.wp Yba.prog (nav [1, 1, 1, 1, 1, 1, 1, 1, 1, 1, 1, 0, 1, 2, 2, 1, 0, 2, 1, 0] (Yba.f3.body.getD .skip)) (Exit.then K (Qp Q R)) ⟨arr, []⟩ w := by
  refine hs.open (fun t => ?_)
  clear hs
  conv => arg 2; whnf
  have hk' : (k : Int) < (n : Int) := by omega
  go_wp2
  go_quiet (first | (go_at_call 7; refine Calls.quiet_of (HA.out _)))
  go_wp2
  exact HQ.out _ _ (Fx.mk rfl rfl rfl rfl rfl rfl rfl rfl rfl rfl rfl rfl rfl) ⟨nq, rfl⟩

set_option maxRecDepth 100000 in
set_option maxHeartbeats 400000 in
/-- the tx -/
theorem x35 (b o n cp vb cv k : Nat) (x : Option Addr) (tx : Bool) (arr : Array Value) (w : World) (K : Act → World → Prop) (Q : Exit → Act → World → Prop) (R : Ending → World → Prop) (v1 v2 v3 v4 v6 v7 v8 v9 v10 : Value)
    (hk : k < n) (d0 : w.cell? ⟨vb, k * 2, none⟩ = some (.pointer x)) (c0 : w.cell? ⟨b, o + k * 3, none⟩ = some (.bool tx)) (hx : x.isNone = !tx)
    (hs : Fx arr (.slice (some ⟨b, o, none⟩) n cp) v1 v2 v3 v4 (.slice (some ⟨vb, 0, none⟩) n cv) v6 v7 v8 v9 v10 (.int .i64 k))
    (HQ : Hid (∀ arr' w', Fx arr' (.slice (some ⟨b, o, none⟩) n cp) v1 v2 v3 v4 (.slice (some ⟨vb, 0, none⟩) n cv) v6 v7 v8 v9 v10 (.int .i64 k) → (∃ q, w' = w.drewN q) → K ⟨arr', []⟩ w')) :
    Code.wp Yba.prog (nav [1, 1, 1, 1, 1, 1, 1, 1, 1, 1, 1, 0, 1, 2, 2, 1, 0, 2, 1, 1] (Yba.f3.body.getD .skip)) (Exit.then K (Qp Q R)) ⟨arr, []⟩ w := by
  refine hs.open (fun t => ?_)
  clear hs
  conv => arg 2; whnf
  have hk' : (k : Int) < (n : Int) := by omega
  cases tx with
  | true =>
    cases x with
    | none => simp at hx
    | some ad =>
      clear hx
      go_wp2
      go_quiet (fail)
      go_wp2
      exact HQ.out _ _ (Fx.mk rfl rfl rfl rfl rfl rfl rfl rfl rfl rfl rfl rfl rfl) ⟨nq, rfl⟩
  | false =>
    cases x with
    | some ad => simp at hx
    | none =>
      clear hx
      go_wp2
      go_quiet (fail)
      go_wp2
      exact HQ.out _ _ (Fx.mk rfl rfl rfl rfl rfl rfl rfl rfl rfl rfl rfl rfl rfl) ⟨nq, rfl⟩

set_option maxRecDepth 100000 in
set_option maxHeartbeats 400000 in
/-- i++ -/
theorem p11 (k : Nat) (arr : Array Value) (w : World) (K : Act → World → Prop) (Q : Exit → Act → World → Prop) (R : Ending → World → Prop) (v0 v1 v2 v3 v4 v5 v6 v7 v8 v9 v10 : Value)
    (hk : k ≤ 1048576)
    (hs : Fx arr v0 v1 v2 v3 v4 v5 v6 v7 v8 v9 v10 (.int .i64 k))
    (HQ : Hid (∀ arr', Fx arr' v0 v1 v2 v3 v4 v5 v6 v7 v8 v9 v10 (.int .i64 ((k + 1 : Nat) : Int)) → K ⟨arr', []⟩ w)) :
    Code.wp Yba.prog (nav [1, 1, 1, 1, 1, 1, 1, 1, 1, 1, 1, 0, 1, 2, 2, 1, 1] (Yba.f3.body.getD .skip)) (Exit.then K (Qp Q R)) ⟨arr, []⟩ w := by
  refine hs.open (fun t => ?_)
  clear hs
  conv => arg 2; whnf
  go_wp2
  refine HQ.out _ ?_
  exact (Fx.mk rfl rfl rfl rfl rfl rfl rfl rfl rfl rfl rfl rfl (by go_num))

set_option maxRecDepth 100000 in
set_option maxHeartbeats 400000 in
/-- return true -/
theorem st12 (arr : Array Value) (w : World) (R : Ending → World → Prop) (v0 v1 v2 v3 v4 v5 v6 v7 v8 v9 v10 v11 : Value)
    (hs : Fx arr v0 v1 v2 v3 v4 v5 v6 v7 v8 v9 v10 v11) (HQ : Hid (R (.returned (.bool true)) w)) :
    Code.wp Yba.prog (nav [1, 1, 1, 1, 1, 1, 1, 1, 1, 1, 1, 1] (Yba.f3.body.getD .skip)) (bodyPost Yba.prog Yba.f3 R) ⟨arr, []⟩ w := by
  refine hs.open (fun t => ?_)
  clear hs
  conv => arg 2; whnf
  go_wp2
  exact HQ.out

end Go.Proofs.Ybulkdgzo
