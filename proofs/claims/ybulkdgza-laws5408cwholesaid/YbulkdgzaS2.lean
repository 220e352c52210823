/-
  LawS5408CWhole, its statements 8 to 12.
-/
import Derived.Test.YbulkdgzaS1
import Derived.Conc.SmallLaws
import Derived.Conc.LoneCalls
namespace Go.Proofs.Ybulkdgza
open Go.RowKit B
set_option linter.unusedVariables false
set_option linter.unusedSimpArgs false

theorem RowF.newA (w : World) (E : TypeId) (c : Array Value) (n : Nat) (f : Nat → Value) (hn : c.size = n) (hf : ∀ i, i < n → c[i]? = some (f i)) : RowF (w.alloc (.cells c E)) w.heap.size E n f :=
  ⟨c, by show (w.heap.push _)[w.heap.size]? = _; simp, by omega, hf⟩
theorem RowF.setChan {w : World} {g : Nat} {E : TypeId} {len : Nat} {f : Nat → Value} (h : RowF w g E len f) (c cap : Nat) (buf : Array Value) (cl : Bool) (s r : Nat) (tm : Bool) (hc : ¬ c = g) : RowF (w.setChan c cap buf cl s r tm) g E len f := by
  obtain ⟨x, h1, h2, h3⟩ := h
  exact ⟨x, by simp only [World.setChan]; rw [Array.getElem?_setIfInBounds_ne hc]; exact h1, h2, h3⟩
theorem Chg.setChan {w w1 : World} {S : Nat → Prop} (h : Chg w w1 S) {c : Nat} (hc : S c ∨ w.heap.size ≤ c) (cap : Nat) (buf : Array Value) (cl : Bool) (s r : Nat) (tm : Bool) : Chg w (w1.setChan c cap buf cl s r tm) S :=
  ⟨h.os, h.tape, h.output, by simpa [World.setChan] using h.size, fun k hk hn => by
    simp only [World.setChan]
    rw [Array.getElem?_setIfInBounds_ne (fun e => by subst e; rcases hc with x | x; exact hn x; omega)]; exact h.block k hk hn⟩
theorem bytes39 : ∃ i, Yba.prog.info? 39 = some i ∧ i.bytes = 0 := by
  have h : (Yba.prog.info? 39).map (·.bytes) = some 0 := by kernel_rfl
  obtain ⟨i, hi, hb⟩ := Option.map_eq_some_iff.1 h
  exact ⟨i, hi, hb⟩
theorem mk35 (w : World) : (Instr.makeChan 35 (.int .i64 0)).run Yba.prog w = .ok (.chan (some w.heap.size)) (w.alloc (.chan 0 #[] false 0 0 false)) := by
  obtain ⟨i, hi, hb⟩ := bytes39
  simpa using Go.Conc.run_makeChan (P := Yba.prog) (w := w) Yba.underlying35 hi .i64 0 (by omega) (by rw [hb]; omega)
theorem bytes28 : ∃ i, Yba.prog.info? 28 = some i ∧ i.bytes = 24 := by
  have h : (Yba.prog.info? 28).map (·.bytes) = some 24 := by kernel_rfl
  obtain ⟨i, hi, hb⟩ := Option.map_eq_some_iff.1 h
  exact ⟨i, hi, hb⟩
theorem mk57 (w : World) : (Instr.makeChan 57 (.int .i64 1)).run Yba.prog w = .ok (.chan (some w.heap.size)) (w.alloc (.chan 1 #[] false 0 0 false)) := by
  obtain ⟨i, hi, hb⟩ := bytes28
  simpa using Go.Conc.run_makeChan (P := Yba.prog) (w := w) Yba.underlying57 hi .i64 1 (by omega) (by rw [hb]; omega)
/-- The clock. -/
def clF (n s : Nat) (sq : Int) (c : Nat) (i : Nat) : Value := if i = 0 then .int .u64 n else if i = 1 then .int .i64 s else if i = 2 then .pointer none else if i = 3 then .int .u64 sq else .int .i64 c
/-- The wheel. -/
def whF (Cb tick Db : Nat) (cl : Bool) (mu : Int) (occ : Nat → Nat) (hd : Nat → Value) (due : Value) (p : Int) (i : Nat) : Value :=
  if i = 0 then .iface 25 (PT Cb) else if i = 1 then .int .u64 0 else if i = 2 then .int .i64 0 else if i = 3 then .pointer none else if i = 4 then .int .i64 tick else if i = 5 then .pointer none else if i = 6 then .chan (some Db)
  else if i = 7 then .int .i32 mu else if i = 8 then .int .u32 0 else if i = 9 then .int .i64 0 else if i < 21 then .int .u64 (occ (i - 10)) else if i < 725 then hd (i - 21) else if i = 725 then due else if i = 726 then .int .i64 p else if i = 727 then .bool cl else .int .i64 0
/-- A timer. -/
def tmF (Wb : Nat) (c : Value) (dl tk sq : Int) (nx pv : Value) (ps st : Int) (i : Nat) : Value :=
  if i = 0 then c else if i = 1 then PT Wb else if i = 2 then .nilFunc else if i = 3 then c else if i = 4 then .int .i64 dl else if i = 5 then .int .i64 tk else if i = 6 then .int .u64 sq else if i = 7 then nx else if i = 8 then pv else if i = 9 then .int .i32 ps else if i = 10 then .int .u8 st else .int .u8 0
def zW (i : Nat) : Value :=
  if i = 0 then .nilIface else if i = 1 then .int .u64 0 else if i = 2 then .int .i64 0 else if i = 3 then .pointer none else if i = 4 then .int .i64 0 else if i = 5 then .pointer none else if i = 6 then .chan none
  else if i = 7 then .int .i32 0 else if i = 8 then .int .u32 0 else if i = 9 then .int .i64 0 else if i < 21 then .int .u64 0 else if i < 725 then .pointer none else if i = 725 then .slice none 0 0 else if i = 726 then .int .i64 0 else if i = 727 then .bool false else .int .i64 0
set_option maxRecDepth 100000 in
theorem zero55 : Yba.zeroCells55 = ((List.range 729).map zW).toArray := by kernel_rfl
theorem wheel_new (w : World) (Cb tick Db : Nat) (cl : Bool) : RowF (w.alloc (.cells ((((Yba.zeroCells55.setIfInBounds 0 (.iface 25 (PT Cb))).setIfInBounds 4 (.int .i64 tick)).setIfInBounds 6 (.chan (some Db))).setIfInBounds 727 (.bool cl)) 55)) w.heap.size 55 729 (whF Cb tick Db cl 0 (fun _ => 0) (fun _ => .pointer none) (.slice none 0 0) 0) := by
  have hz : ∀ i, i < 729 → Yba.zeroCells55[i]? = some (zW i) := fun i hi => by rw [zero55]; simp [hi]
  have hs : Yba.zeroCells55.size = 729 := by rw [zero55]; simp
  refine RowF.newA w 55 _ 729 _ (by simp [hs]) ?_
  intro i hi
  simp only [Array.getElem?_setIfInBounds, Array.size_setIfInBounds, hs, hz i hi]
  unfold whF zW
  by_cases h1 : i = 0
  · subst h1; rfl
  by_cases h2 : i = 4
  · subst h2; rfl
  by_cases h3 : i = 6
  · subst h3; rfl
  by_cases h4 : i = 727
  · subst h4; rfl
  rw [if_neg (fun e => h4 e.symm), if_neg (fun e => h3 e.symm), if_neg (fun e => h2 e.symm), if_neg (fun e => h1 e.symm)]
  simp only [if_neg h1, if_neg h2, if_neg h3, if_neg h4]
  rfl

set_option maxRecDepth 100000 in
set_option maxHeartbeats 400000 in
/-- the clock -/
theorem st8 (off n s : Nat) (sq : Int) (arr : Array Value) (w : World) (K : Act → World → Prop) (Q : Exit → Act → World → Prop) (R : Ending → World → Prop) (v0 v2 v4 v5 v6 v7 v8 v9 v10 v11 v12 v13 v14 v15 v16 v17 v18 v19 v20 v21 v22 v23 v24 v25 v26 v27 v28 v29 v30 v31 v32 v33 v34 v35 v36 v37 v38 v39 v40 v41 v42 v43 v44 v45 v46 v47 v48 v49 v50 v51 : Value)
    (HA : Hid (∀ W, Calls Yba.prog 5 #[.agg #[.int .u64 0, .int .i64 0, .pointer none], .int .i64 off] W fun e w' => e = .returned (.agg #[.int .u64 n, .int .i64 s, .pointer none]) ∧ Chg W w' (fun _ => False)))
    (hs : Fx arr v0 (.int .i64 off) v2 (.int .u64 sq) v4 v5 v6 v7 v8 v9 v10 v11 v12 v13 v14 v15 v16 v17 v18 v19 v20 v21 v22 v23 v24 v25 v26 v27 v28 v29 v30 v31 v32 v33 v34 v35 v36 v37 v38 v39 v40 v41 v42 v43 v44 v45 v46 v47 v48 v49 v50 v51)
    (HQ : Hid (∀ arr' w' Cb, Fx arr' v0 (.int .i64 off) v2 (.int .u64 sq) v4 v5 v6 v7 v8 v9 v10 v11 v12 v13 v14 v15 v16 v17 v18 v19 v20 v21 v22 (.pointer (some ⟨Cb, 0, none⟩)) v24 v25 v26 v27 v28 v29 v30 v31 v32 v33 v34 v35 v36 v37 v38 v39 v40 v41 v42 v43 v44 v45 v46 v47 v48 v49 v50 v51 → RowF w' Cb 31 5 (clF n s sq 0) → w.heap.size ≤ Cb → Chg w w' (fun _ => False) → K ⟨arr', []⟩ w')) :
    Code.wp Yba.prog (nav [1, 1, 1, 1, 1, 1, 1, 1, 0] (Yba.f3.body.getD .skip)) (Exit.then K (Qp Q R)) ⟨arr, []⟩ w := by
  refine hs.open (fun t => ?_)
  clear hs
  conv => arg 2; whnf
  go_wp2_with fail
  refine Calls.mono (HA.out _) ?_
  rintro e w2 ⟨rfl, hc⟩
  have HC : Hid (Chg w w2 (fun _ => False)) := hc
  clear HA hc
  go_wp2
  refine HQ.out _ _ w2.heap.size ?_ ?_ HC.out.size (HC.out.alloc _)
  · exact (Fx.mk rfl rfl rfl rfl rfl rfl rfl rfl rfl rfl rfl rfl rfl rfl rfl rfl rfl rfl rfl rfl rfl rfl rfl rfl rfl rfl rfl rfl rfl rfl rfl rfl rfl rfl rfl rfl rfl rfl rfl rfl rfl rfl rfl rfl rfl rfl rfl rfl rfl rfl rfl rfl rfl)
  · refine RowF.newA _ _ _ _ _ rfl ?_
    intro i hi
    match i, hi with
    | 0, _ => rfl
    | 1, _ => rfl
    | 2, _ => rfl
    | 3, _ => rfl
    | 4, _ => rfl

set_option maxRecDepth 100000 in
set_option maxHeartbeats 400000 in
/-- the wheel -/
theorem st9 (Cb tick : Nat) (cl : Bool) (arr : Array Value) (w : World) (K : Act → World → Prop) (Q : Exit → Act → World → Prop) (R : Ending → World → Prop) (v0 v1 v2 v3 v4 v6 v7 v8 v9 v10 v11 v12 v13 v14 v15 v16 v17 v18 v19 v20 v21 v24 v25 v26 v27 v28 v29 v30 v31 v32 v33 v34 v35 v36 v37 v38 v39 v40 v41 v42 v43 v44 v45 v46 v47 v48 v49 v50 v51 : Value)
    
    (hs : Fx arr v0 v1 v2 v3 v4 (.bool cl) v6 v7 v8 v9 v10 v11 v12 v13 v14 v15 v16 v17 v18 v19 v20 v21 (.int .i64 tick) (.pointer (some ⟨Cb, 0, none⟩)) v24 v25 v26 v27 v28 v29 v30 v31 v32 v33 v34 v35 v36 v37 v38 v39 v40 v41 v42 v43 v44 v45 v46 v47 v48 v49 v50 v51)
    (HQ : Hid (∀ arr' w' Wb Db, Fx arr' v0 v1 v2 v3 v4 (.bool cl) v6 v7 v8 v9 v10 v11 v12 v13 v14 v15 v16 v17 v18 v19 v20 v21 (.int .i64 tick) (.pointer (some ⟨Cb, 0, none⟩)) (.pointer (some ⟨Wb, 0, none⟩)) v25 v26 v27 v28 v29 v30 v31 v32 v33 v34 v35 v36 v37 v38 v39 v40 v41 v42 v43 v44 v45 v46 v47 v48 v49 v50 v51 → RowF w' Wb 55 729 (whF Cb tick Db cl 0 (fun _ => 0) (fun _ => .pointer none) (.slice none 0 0) 0) → w.heap.size ≤ Wb → Chg w w' (fun _ => False) → K ⟨arr', []⟩ w')) :
    Code.wp Yba.prog (nav [1, 1, 1, 1, 1, 1, 1, 1, 1, 0] (Yba.f3.body.getD .skip)) (Exit.then K (Qp Q R)) ⟨arr, []⟩ w := by
  refine hs.open (fun t => ?_)
  clear hs
  conv => arg 2; whnf
  have hmc := mk35
  go_wp2
  refine HQ.out _ _ (w.heap.size + 1) w.heap.size ?_ ?_ (by omega) (((Chg.refl _ _).alloc _).alloc _)
  · exact (Fx.mk rfl rfl rfl rfl rfl rfl rfl rfl rfl rfl rfl rfl rfl rfl rfl rfl rfl rfl rfl rfl rfl rfl rfl rfl rfl rfl rfl rfl rfl rfl rfl rfl rfl rfl rfl rfl rfl rfl rfl rfl rfl rfl rfl rfl rfl rfl rfl rfl rfl rfl rfl rfl rfl)
  · have := wheel_new (w.alloc (.chan 0 #[] false 0 0 false)) Cb tick w.heap.size cl
    rw [show (w.alloc (.chan 0 #[] false 0 0 false)).heap.size = w.heap.size + 1 from by simp] at this
    exact this

set_option maxRecDepth 100000 in
set_option maxHeartbeats 400000 in
/-- the timer -/
theorem st10 (Wb t0 : Nat) (arr : Array Value) (w : World) (K : Act → World → Prop) (Q : Exit → Act → World → Prop) (R : Ending → World → Prop) (v0 v1 v2 v3 v4 v5 v6 v7 v9 v10 v11 v12 v13 v14 v15 v16 v17 v18 v19 v20 v21 v22 v23 v25 v26 v27 v28 v29 v30 v31 v32 v33 v34 v35 v36 v37 v38 v39 v40 v41 v42 v43 v44 v45 v46 v47 v48 v49 v50 v51 : Value)
    
    (hs : Fx arr v0 v1 v2 v3 v4 v5 v6 v7 (.int .i64 t0) v9 v10 v11 v12 v13 v14 v15 v16 v17 v18 v19 v20 v21 v22 v23 (.pointer (some ⟨Wb, 0, none⟩)) v25 v26 v27 v28 v29 v30 v31 v32 v33 v34 v35 v36 v37 v38 v39 v40 v41 v42 v43 v44 v45 v46 v47 v48 v49 v50 v51)
    (HQ : Hid (∀ arr' w' Tb, Fx arr' v0 v1 v2 v3 v4 v5 v6 v7 (.int .i64 t0) v9 v10 v11 v12 v13 v14 v15 v16 v17 v18 v19 v20 v21 v22 v23 (.pointer (some ⟨Wb, 0, none⟩)) (.pointer (some ⟨Tb, 0, none⟩)) v26 v27 v28 v29 v30 v31 v32 v33 v34 v35 v36 v37 v38 v39 v40 v41 v42 v43 v44 v45 v46 v47 v48 v49 v50 v51 → RowF w' Tb 59 12 (tmF Wb (.chan none) t0 t0 7 (.pointer none) (.pointer none) 0 0) → w.heap.size ≤ Tb → Chg w w' (fun _ => False) → K ⟨arr', []⟩ w')) :
    Code.wp Yba.prog (nav [1, 1, 1, 1, 1, 1, 1, 1, 1, 1, 0] (Yba.f3.body.getD .skip)) (Exit.then K (Qp Q R)) ⟨arr, []⟩ w := by
  refine hs.open (fun t => ?_)
  clear hs
  conv => arg 2; whnf
  go_wp2
  refine HQ.out _ _ w.heap.size ?_ ?_ (by omega) ((Chg.refl _ _).alloc _)
  · exact (Fx.mk rfl rfl rfl rfl rfl rfl rfl rfl rfl rfl rfl rfl rfl rfl rfl rfl rfl rfl rfl rfl rfl rfl rfl rfl rfl rfl rfl rfl rfl rfl rfl rfl rfl rfl rfl rfl rfl rfl rfl rfl rfl rfl rfl rfl rfl rfl rfl rfl rfl rfl rfl rfl rfl)
  · refine RowF.newA _ _ _ _ _ rfl ?_
    intro i hi
    match i, hi with
    | 0, _ => rfl
    | 1, _ => rfl
    | 2, _ => rfl
    | 3, _ => rfl
    | 4, _ => rfl
    | 5, _ => rfl
    | 6, _ => rfl
    | 7, _ => rfl
    | 8, _ => rfl
    | 9, _ => rfl
    | 10, _ => rfl
    | 11, _ => rfl

set_option maxRecDepth 100000 in
set_option maxHeartbeats 400000 in
/-- no channel -/
theorem st11n  (arr : Array Value) (w : World) (K : Act → World → Prop) (Q : Exit → Act → World → Prop) (R : Ending → World → Prop) (v0 v1 v2 v3 v4 v5 v7 v8 v9 v10 v11 v12 v13 v14 v15 v16 v17 v18 v19 v20 v21 v22 v23 v24 v25 v26 v27 v28 v29 v30 v31 v32 v33 v34 v35 v36 v37 v38 v39 v40 v41 v42 v43 v44 v45 v46 v47 v48 v49 v50 v51 : Value)
    
    (hs : Fx arr v0 v1 v2 v3 v4 v5 (.bool false) v7 v8 v9 v10 v11 v12 v13 v14 v15 v16 v17 v18 v19 v20 v21 v22 v23 v24 v25 v26 v27 v28 v29 v30 v31 v32 v33 v34 v35 v36 v37 v38 v39 v40 v41 v42 v43 v44 v45 v46 v47 v48 v49 v50 v51)
    (HQ : Hid (∀ arr', Fx arr' v0 v1 v2 v3 v4 v5 (.bool false) v7 v8 v9 v10 v11 v12 v13 v14 v15 v16 v17 v18 v19 v20 v21 v22 v23 v24 v25 v26 v27 v28 v29 v30 v31 v32 v33 v34 v35 v36 v37 v38 v39 v40 v41 v42 v43 v44 v45 v46 v47 v48 v49 v50 v51 → K ⟨arr', []⟩ w)) :
    Code.wp Yba.prog (nav [1, 1, 1, 1, 1, 1, 1, 1, 1, 1, 1, 0] (Yba.f3.body.getD .skip)) (Exit.then K (Qp Q R)) ⟨arr, []⟩ w := by
  refine hs.open (fun t => ?_)
  clear hs
  conv => arg 2; whnf
  go_wp2
  refine HQ.out _ ?_
  exact (Fx.mk rfl rfl rfl rfl rfl rfl rfl rfl rfl rfl rfl rfl rfl rfl rfl rfl rfl rfl rfl rfl rfl rfl rfl rfl rfl rfl rfl rfl rfl rfl rfl rfl rfl rfl rfl rfl rfl rfl rfl rfl rfl rfl rfl rfl rfl rfl rfl rfl rfl rfl rfl rfl rfl)

theorem chan_new (w : World) (n : Nat) (o : Obj) (h : w.heap.size = n) : (w.alloc o).heap[n]? = some o := by subst h; show (w.heap.push _)[w.heap.size]? = _; simp
theorem tm_ch (Wb : Nat) (c c' : Value) (dl tk sq : Int) (nx pv : Value) (ps st : Int) : ∀ i, i < 12 → upd (upd (tmF Wb c dl tk sq nx pv ps st) 3 c') 0 c' i = tmF Wb c' dl tk sq nx pv ps st i := by
  intro i hi
  match i, hi with
  | 0, _ => rfl
  | 1, _ => rfl
  | 2, _ => rfl
  | 3, _ => rfl
  | 4, _ => rfl
  | 5, _ => rfl
  | 6, _ => rfl
  | 7, _ => rfl
  | 8, _ => rfl
  | 9, _ => rfl
  | 10, _ => rfl
  | 11, _ => rfl

theorem tm_row {w : World} {Tb Wb : Nat} {c : Value} {dl tk sq : Int} {nx pv : Value} {ps st : Int} (h : RowF w Tb 59 12 (tmF Wb c dl tk sq nx pv ps st)) (c' : Value) : RowF ((w.setCell ⟨Tb, 3, none⟩ c').setCell ⟨Tb, 0, none⟩ c') Tb 59 12 (tmF Wb c' dl tk sq nx pv ps st) :=
  ((h.set 3 c').set 0 c').congr (tm_ch Wb c c' dl tk sq nx pv ps st)

set_option maxRecDepth 100000 in
set_option maxHeartbeats 400000 in
/-- an empty channel -/
theorem st11y (Wb Tb t0 : Nat) (arr : Array Value) (w : World) (K : Act → World → Prop) (Q : Exit → Act → World → Prop) (R : Ending → World → Prop) (v0 v1 v2 v3 v4 v5 v8 v9 v10 v11 v12 v13 v14 v15 v16 v17 v18 v19 v20 v21 v22 v23 v24 v26 v27 v28 v29 v30 v31 v32 v33 v34 v35 v36 v37 v38 v39 v40 v41 v42 v43 v44 v45 v46 v47 v48 v49 v50 v51 : Value)
    (hT : RowF w Tb 59 12 (tmF Wb (.chan none) t0 t0 7 (.pointer none) (.pointer none) 0 0))
    (hs : Fx arr v0 v1 v2 v3 v4 v5 (.bool true) (.bool false) v8 v9 v10 v11 v12 v13 v14 v15 v16 v17 v18 v19 v20 v21 v22 v23 v24 (.pointer (some ⟨Tb, 0, none⟩)) v26 v27 v28 v29 v30 v31 v32 v33 v34 v35 v36 v37 v38 v39 v40 v41 v42 v43 v44 v45 v46 v47 v48 v49 v50 v51)
    (HQ : Hid (∀ arr' w' Hb s r, Fx arr' v0 v1 v2 v3 v4 v5 (.bool true) (.bool false) v8 v9 v10 v11 v12 v13 v14 v15 v16 v17 v18 v19 v20 v21 v22 v23 v24 (.pointer (some ⟨Tb, 0, none⟩)) (.chan (some Hb)) v27 v28 v29 v30 v31 v32 v33 v34 v35 v36 v37 v38 v39 v40 v41 v42 v43 v44 v45 v46 v47 v48 v49 v50 v51 → RowF w' Tb 59 12 (tmF Wb (.chan (some Hb)) t0 t0 7 (.pointer none) (.pointer none) 0 0) → w'.heap[Hb]? = some (.chan 1 #[] false s r false) → w.heap.size ≤ Hb → Chg w w' (fun j => j = Tb) → K ⟨arr', []⟩ w')) :
    Code.wp Yba.prog (nav [1, 1, 1, 1, 1, 1, 1, 1, 1, 1, 1, 0] (Yba.f3.body.getD .skip)) (Exit.then K (Qp Q R)) ⟨arr, []⟩ w := by
  refine hs.open (fun t => ?_)
  clear hs
  conv => arg 2; whnf
  have hmc := mk57
  have HT : Hid (RowF w Tb 59 12 (tmF Wb (.chan none) t0 t0 7 (.pointer none) (.pointer none) 0 0)) := hT
  have lT := hT.lt
  have n1 : ¬ Tb = w.heap.size := by omega
  have c3 := hT.cell (i := 3) (by omega)
  have c0 := hT.cell (i := 0) (by omega)
  have g3 := hT.free 3
  have g0 := hT.free 0
  clear hT
  go_wp2
  refine HQ.out _ _ w.heap.size 0 0 ?_ ?_ ?_ (by omega) ?_
  · exact (Fx.mk rfl rfl rfl rfl rfl rfl rfl rfl rfl rfl rfl rfl rfl rfl rfl rfl rfl rfl rfl rfl rfl rfl rfl rfl rfl rfl rfl rfl rfl rfl rfl rfl rfl rfl rfl rfl rfl rfl rfl rfl rfl rfl rfl rfl rfl rfl rfl rfl rfl rfl rfl rfl rfl)
  · exact (tm_row HT.out (.chan (some w.heap.size))).alloc _
  · exact chan_new _ _ _ (by simp [World.setCell])
  · exact (((Chg.refl w (fun j => j = Tb)).setCell (.inl rfl) _).setCell (.inl rfl) _).alloc _

section
variable {P : Program} {b : Frame} {a : Act} {k : List Item} {cs : List Frame} {w w' : World} {ops : Array Oper}
theorem step_val {i : Nat} {rest : List Nat} {o : Oper} {v : Value} (ho : ops[i]? = some o) (hw : Region.wanted o (yielded ops a.tmps) = true) (hr : (execOp a.eval o).run P w = .ok (.value v) w') :
    step P (lone (b.at a (.inRegion ops (i :: rest) :: k)) cs w) = .next (lone (b.at (a.put o.dst v) (.inRegion ops rest :: k)) cs w') := by
  have hfin : (b.at a (.inRegion ops (i :: rest) :: k)).finish v = b.at (a.put o.dst v) (.inRegion ops rest :: k) := by rw [Frame.finish_at, ho]; rfl
  rw [← hfin]
  refine step_lone_go ?_
  rw [stepG_op ho hw]
  simp [stepG.apply, hr, Frame.at, GStep.after]
theorem step_send {i : Nat} {rest : List Nat} {o : Oper} {c cap s r : Nat} {buf : Array Value} {v z : Value} {tm : Bool} (ho : ops[i]? = some o) (hw : Region.wanted o (yielded ops a.tmps) = true) (hr : (execOp a.eval o).run P w = .ok (.comm #[Go.Conc.scase c v z] true .send) w)
    (hc : w.heap[c]? = some (.chan cap buf false s r tm)) (hroom : buf.size < cap) :
    step P (lone (b.at a (.inRegion ops (i :: rest) :: k)) cs w) = .next (lone (b.at (a.put o.dst undef) (.inRegion ops rest :: k)) cs (w.setChan c cap (buf.push v) false (s + 1) r tm)) := by
  have hfin : (b.at a (.inRegion ops (i :: rest) :: k)).finish undef = b.at (a.put o.dst undef) (.inRegion ops rest :: k) := by rw [Frame.finish_at, ho]; rfl
  rw [← hfin]
  obtain ⟨es, h⟩ : ∃ es, stepG P true (Go.Conc.G (b.at a (.inRegion ops (i :: rest) :: k)) cs) w = .comm (Go.Conc.G (b.at a (.inRegion ops (i :: rest) :: k)) cs) #[Go.Conc.scase c v z] true .send w es := by
    rw [Go.Conc.stepG_oper ho hw]
    simp [stepG.apply, hr, Go.Conc.G, Frame.at, GStep.after]
  exact Go.Conc.step_lone_send_room h hc hroom
theorem wp_region_send3 {id : Nat} {o0 o1 o2 : Oper} {Q : Exit → Act → World → Prop} {v0 v1 v z : Value} {c cap s r : Nat} {buf : Array Value} {tm : Bool}
    (w0 : Region.wanted o0 (yielded #[o0, o1, o2] a.tmps) = true) (r0 : (execOp a.eval o0).run P w = .ok (.value v0) w)
    (w1 : Region.wanted o1 (yielded #[o0, o1, o2] (a.put o0.dst v0).tmps) = true) (r1 : (execOp (a.put o0.dst v0).eval o1).run P w = .ok (.value v1) w)
    (w2 : Region.wanted o2 (yielded #[o0, o1, o2] ((a.put o0.dst v0).put o1.dst v1).tmps) = true) (r2 : (execOp ((a.put o0.dst v0).put o1.dst v1).eval o2).run P w = .ok (.comm #[Go.Conc.scase c v z] true .send) w)
    (hc : w.heap[c]? = some (.chan cap buf false s r tm)) (hroom : buf.size < cap)
    (hq : Q .normal (((a.put o0.dst v0).put o1.dst v1).put o2.dst undef) (w.setChan c cap (buf.push v) false (s + 1) r tm)) : (Code.region id #[o0, o1, o2] false).wp P Q a w := by
  intro b k cs
  refine ⟨.normal, _, _, hq, ?_⟩
  refine Steps.head step_region ?_
  refine Steps.head (step_val (i := 0) (rest := [1, 2]) (o := o0) (v := v0) (w' := w) rfl w0 r0) ?_
  refine Steps.head (step_val (i := 1) (rest := [2]) (o := o1) (v := v1) (w' := w) rfl w1 r1) ?_
  refine Steps.head (step_send (i := 2) (rest := []) (o := o2) rfl w2 r2 hc hroom) ?_
  exact Steps.one step_region_end
end

set_option maxRecDepth 100000 in
set_option maxHeartbeats 400000 in
/-- a full channel -/
theorem st11f (Wb Tb t0 : Nat) (arr : Array Value) (w : World) (K : Act → World → Prop) (Q : Exit → Act → World → Prop) (R : Ending → World → Prop) (v0 v1 v2 v3 v4 v5 v8 v9 v10 v11 v12 v13 v14 v15 v16 v17 v18 v19 v20 v21 v22 v23 v24 v26 v27 v28 v29 v30 v31 v32 v33 v34 v35 v36 v37 v38 v39 v40 v41 v42 v43 v44 v45 v46 v47 v48 v49 v50 v51 : Value)
    (hT : RowF w Tb 59 12 (tmF Wb (.chan none) t0 t0 7 (.pointer none) (.pointer none) 0 0))
    (hs : Fx arr v0 v1 v2 v3 v4 v5 (.bool true) (.bool true) v8 v9 v10 v11 v12 v13 v14 v15 v16 v17 v18 v19 v20 v21 v22 v23 v24 (.pointer (some ⟨Tb, 0, none⟩)) v26 v27 v28 v29 v30 v31 v32 v33 v34 v35 v36 v37 v38 v39 v40 v41 v42 v43 v44 v45 v46 v47 v48 v49 v50 v51)
    (HQ : Hid (∀ arr' w' Hb s r, Fx arr' v0 v1 v2 v3 v4 v5 (.bool true) (.bool true) v8 v9 v10 v11 v12 v13 v14 v15 v16 v17 v18 v19 v20 v21 v22 v23 v24 (.pointer (some ⟨Tb, 0, none⟩)) (.chan (some Hb)) v27 v28 v29 v30 v31 v32 v33 v34 v35 v36 v37 v38 v39 v40 v41 v42 v43 v44 v45 v46 v47 v48 v49 v50 v51 → RowF w' Tb 59 12 (tmF Wb (.chan (some Hb)) t0 t0 7 (.pointer none) (.pointer none) 0 0) → w'.heap[Hb]? = some (.chan 1 #[.agg #[.int .u64 0, .int .i64 0, .pointer none]] false s r false) → w.heap.size ≤ Hb → Chg w w' (fun j => j = Tb) → K ⟨arr', []⟩ w')) :
    Code.wp Yba.prog (nav [1, 1, 1, 1, 1, 1, 1, 1, 1, 1, 1, 0] (Yba.f3.body.getD .skip)) (Exit.then K (Qp Q R)) ⟨arr, []⟩ w := by
  refine hs.open (fun t => ?_)
  clear hs
  conv => arg 2; whnf
  generalize hR : Code.region 18 _ _ = R18
  have hmc := mk57
  have HT : Hid (RowF w Tb 59 12 (tmF Wb (.chan none) t0 t0 7 (.pointer none) (.pointer none) 0 0)) := hT
  have lT := hT.lt
  have n1 : ¬ Tb = w.heap.size := by omega
  have c3 := hT.cell (i := 3) (by omega)
  have c0 := hT.cell (i := 0) (by omega)
  have g3 := hT.free 3
  have g0 := hT.free 0
  clear hT
  go_wp2
  subst hR
  have hch : ((((w.setCell ⟨Tb, 3, none⟩ (.chan (some w.heap.size))).setCell ⟨Tb, 0, none⟩ (.chan (some w.heap.size))).alloc (.chan 1 #[] false 0 0 false))).heap[w.heap.size]? = some (.chan 1 #[] false 0 0 false) := chan_new _ _ _ (by simp [World.setCell])
  refine wp_region_send3 (v0 := .chan (some w.heap.size)) (v1 := .agg #[.int .u64 0, .int .i64 0, .pointer none]) (c := w.heap.size) (v := .agg #[.int .u64 0, .int .i64 0, .pointer none]) (z := .tuple #[]) rfl ?_ rfl ?_ rfl ?_ hch (by decide) ?_
  · simp [go_sem, execOp, Act.eval]
  · simp [go_sem, execOp, Act.eval]
  · simp [go_sem, execOp, Act.eval, Go.Conc.scase]
  · show K _ _
    refine HQ.out _ _ w.heap.size 1 0 ?_ ?_ ?_ (by omega) ?_
    · exact (Fx.mk rfl rfl rfl rfl rfl rfl rfl rfl rfl rfl rfl rfl rfl rfl rfl rfl rfl rfl rfl rfl rfl rfl rfl rfl rfl rfl rfl rfl rfl rfl rfl rfl rfl rfl rfl rfl rfl rfl rfl rfl rfl rfl rfl rfl rfl rfl rfl rfl rfl rfl rfl rfl rfl)
    · exact ((tm_row HT.out (.chan (some w.heap.size))).alloc (.chan 1 #[] false 0 0 false)).setChan _ _ _ _ _ _ _ (fun e => n1 e.symm)
    · exact Go.Conc.heap_setChan _ _ _ _ _ _ _ _ (by simp [World.setCell])
    · exact ((((Chg.refl w (fun j => j = Tb)).setCell (.inl rfl) _).setCell (.inl rfl) _).alloc _).setChan (.inr (by omega)) _ _ _ _ _ _


end Go.Proofs.Ybulkdgza
