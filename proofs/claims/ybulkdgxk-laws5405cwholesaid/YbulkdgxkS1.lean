/-
  LawS5405CWhole, its statements 0 to 11.
-/
import Derived.Test.YbulkdgxkTake2
namespace Go.Proofs.Ybulkdgxk
open Go.RowKit C
set_option linter.unusedVariables false
set_option linter.unusedSimpArgs false

theorem info32 : (Yba.prog.info? 32).map (fun i => (i.zero, i.size, i.bytes)) = some (some (.agg #[.int .i32 0, .int .i32 0, .int .i32 0, .int .i32 0, .int .i32 0, .int .i32 0]), 6, 24) := by kernel_rfl
theorem info3 : (Yba.prog.info? 3).map (fun i => (i.zero, i.size, i.bytes)) = some (some (.int .i64 0), 1, 8) := by kernel_rfl

theorem wrap32_of (z : Int) (h : -2147483648 ≤ z ∧ z ≤ 2147483647) : wrap32 z = z := by unfold wrap32; omega
theorem wrap64_of (z : Int) (h : 0 ≤ z ∧ z ≤ 9223372036854775807) : wrap64 z = z := by unfold wrap64; omega
theorem fillI (f : Nat → Int) (z : Int) (k : Nat) : updI (fun j => if j < k then f j else z) k (f k) = fun j => if j < k + 1 then f j else z := by
  funext j
  unfold updI
  by_cases e : j = k
  · subst e; simp
  · by_cases h : j < k
    · rw [if_neg e, if_pos (by omega)]; exact if_pos h
    · rw [if_neg e, if_neg (by omega)]; exact if_neg h

theorem made1 (z : Value) (hz : z.cells = #[z]) (n : Nat) : madeCells z.cells n = Array.replicate n z := by
  rw [hz, madeCells]
  apply Array.ext
  · simp
  · intro i h1 h2; simp [Nat.mod_one]
theorem mk27 (n : Nat) (hn : n ≤ 2097152) (w : World) : (Instr.makeSlice 27 (.int .i64 (n : Int)) (.int .i64 (n : Int))).run Yba.prog w = .ok (.slice (some ⟨w.heap.size, 0, none⟩) n n) (w.alloc (.cells (Array.replicate n (Value.int .i32 0)) 21)) := by
  obtain ⟨i0, hi, hz0, hz1, hz2⟩ := info_parts info21
  have := run_make (P := Yba.prog) w 27 21 i0 (.int .i32 0) Yba.underlying27 hi hz0 .i64 .i64 (n : Int) (n : Int) (by omega) (by omega) (by rw [hz2]; omega) (by omega)
  rw [this, hz1, made1 _ rfl]; simp
theorem mk36 (n : Nat) (hn : n ≤ 2097152) (w : World) : (Instr.makeSlice 36 (.int .i64 (n : Int)) (.int .i64 (n : Int))).run Yba.prog w = .ok (.slice (some ⟨w.heap.size, 0, none⟩) n n) (w.alloc (.cells (Array.replicate n (Value.int .i64 0)) 3)) := by
  obtain ⟨i0, hi, hz0, hz1, hz2⟩ := info_parts info3
  have := run_make (P := Yba.prog) w 36 3 i0 (.int .i64 0) Yba.underlying36 hi hz0 .i64 .i64 (n : Int) (n : Int) (by omega) (by omega) (by rw [hz2]; omega) (by omega)
  rw [this, hz1, made1 _ rfl]; simp
theorem made6 (n : Nat) : madeCells #[Value.int .i32 0, .int .i32 0, .int .i32 0, .int .i32 0, .int .i32 0, .int .i32 0] n = Array.replicate n (.int .i32 0) := by
  rw [madeCells]
  apply Array.ext
  · simp
  · intro i h1 h2
    have h6 : i % 6 < 6 := Nat.mod_lt _ (by decide)
    simp only [Array.getElem_map, Array.getElem_range, Array.getElem_replicate]
    show #[Value.int .i32 0, .int .i32 0, .int .i32 0, .int .i32 0, .int .i32 0, .int .i32 0][i % 6]! = _
    match i % 6, h6 with
    | 0, _ => rfl
    | 1, _ => rfl
    | 2, _ => rfl
    | 3, _ => rfl
    | 4, _ => rfl
    | 5, _ => rfl
theorem mk30 (n : Nat) (hn : n ≤ 2097152) (w : World) : (Instr.makeSlice 30 (.int .i64 (n : Int)) (.int .i64 (n : Int))).run Yba.prog w = .ok (.slice (some ⟨w.heap.size, 0, none⟩) n n) (w.alloc (.cells (Array.replicate (n * 6) (Value.int .i32 0)) 32)) := by
  obtain ⟨i0, hi, hz0, hz1, hz2⟩ := info_parts info32
  have := run_make (P := Yba.prog) w 30 32 i0 (.agg #[.int .i32 0, .int .i32 0, .int .i32 0, .int .i32 0, .int .i32 0, .int .i32 0]) Yba.underlying30 hi hz0 .i64 .i64 (n : Int) (n : Int) (by omega) (by omega) (by rw [hz2]; omega) (by omega)
  rw [this, hz1]
  have e : (Value.agg #[.int .i32 0, .int .i32 0, .int .i32 0, .int .i32 0, .int .i32 0, .int .i32 0]).cells = #[Value.int .i32 0, .int .i32 0, .int .i32 0, .int .i32 0, .int .i32 0, .int .i32 0] := rfl
  rw [e, made6]; simp

set_option maxRecDepth 100000 in
set_option maxHeartbeats 400000 in
/--  -/
theorem st0  (arr : Array Value) (w : World) (K : Act → World → Prop) (R : Ending → World → Prop) (v0 v1 v2 v3 v4 v11 v12 v13 v14 v16 v17 v19 v21 v23 v24 v25 v26 v30 v31 v32 v39 : Value)
    
    (hs : Fr arr v0 v1 v2 v3 v4 v11 v12 v13 v14 v16 v17 v19 v21 v23 v24 v25 v26 v30 v31 v32 v39)
    (HQ : Hid (∀ arr', Fr arr' v0 v1 v2 v3 v4 v11 v12 v13 v14 v16 v17 v19 v21 v23 v24 v25 v26 v30 v31 v32 v39 → K ⟨arr', []⟩ w)) :
    Code.wp Yba.prog (stm 0 (Yba.f4.body.getD .skip)) (Exit.then K (bodyPost Yba.prog Yba.f4 R)) ⟨arr, []⟩ w := by
  refine hs.open (fun t => ?_)
  clear hs
  conv => arg 2; whnf
  go_wp2
  exact HQ.out _ (Fr.mk rfl rfl rfl rfl rfl rfl rfl rfl rfl rfl rfl rfl rfl rfl rfl rfl rfl rfl rfl rfl rfl rfl)

set_option maxRecDepth 100000 in
set_option maxHeartbeats 400000 in
/-- if len(ups) > 1<<16 || len(freed) > 1<<20 -/
theorem st1 (a0 af : Option Addr) (n c0 nf cf : Nat) (arr : Array Value) (w : World) (K : Act → World → Prop) (R : Ending → World → Prop) (v1 v2 v4 v11 v12 v13 v14 v16 v17 v19 v21 v23 v24 v25 v26 v30 v31 v32 v39 : Value)
    (hn : n ≤ 65536) (hnf : nf ≤ 1048576)
    (hs : Fr arr (.slice a0 n c0) v1 v2 (.slice af nf cf) v4 v11 v12 v13 v14 v16 v17 v19 v21 v23 v24 v25 v26 v30 v31 v32 v39)
    (HQ : Hid (∀ arr', Fr arr' (.slice a0 n c0) v1 v2 (.slice af nf cf) v4 v11 v12 v13 v14 v16 v17 v19 v21 v23 v24 v25 v26 v30 v31 v32 v39 → K ⟨arr', []⟩ w)) :
    Code.wp Yba.prog (stm 1 (Yba.f4.body.getD .skip)) (Exit.then K (bodyPost Yba.prog Yba.f4 R)) ⟨arr, []⟩ w := by
  refine hs.open (fun t => ?_)
  clear hs
  conv => arg 2; whnf
  have h1 : ¬ (65536 : Int) < (n : Int) := by omega
  have h2 : ¬ (1048576 : Int) < (nf : Int) := by omega
  go_wp2
  exact HQ.out _ (Fr.mk rfl rfl rfl rfl rfl rfl rfl rfl rfl rfl rfl rfl rfl rfl rfl rfl rfl rfl rfl rfl rfl rfl)

set_option maxRecDepth 100000 in
set_option maxHeartbeats 400000 in
/-- n := len(ups) -/
theorem st2 (a0 : Option Addr) (n c0 : Nat) (arr : Array Value) (w : World) (K : Act → World → Prop) (R : Ending → World → Prop) (v1 v2 v3 v4 v11 v12 v13 v14 v16 v17 v19 v21 v23 v24 v25 v26 v30 v31 v32 v39 : Value)
    
    (hs : Fr arr (.slice a0 n c0) v1 v2 v3 v4 v11 v12 v13 v14 v16 v17 v19 v21 v23 v24 v25 v26 v30 v31 v32 v39)
    (HQ : Hid (∀ arr', Fr arr' (.slice a0 n c0) v1 v2 v3 v4 (.int .i64 n) v12 v13 v14 v16 v17 v19 v21 v23 v24 v25 v26 v30 v31 v32 v39 → K ⟨arr', []⟩ w)) :
    Code.wp Yba.prog (stm 2 (Yba.f4.body.getD .skip)) (Exit.then K (bodyPost Yba.prog Yba.f4 R)) ⟨arr, []⟩ w := by
  refine hs.open (fun t => ?_)
  clear hs
  conv => arg 2; whnf
  go_wp2
  exact HQ.out _ (Fr.mk rfl rfl rfl rfl rfl rfl rfl rfl rfl rfl rfl rfl rfl rfl rfl rfl rfl rfl rfl rfl rfl rfl)

set_option maxRecDepth 100000 in
set_option maxHeartbeats 400000 in
/-- if n == 0 -/
theorem st3 (n : Nat) (arr : Array Value) (w : World) (K : Act → World → Prop) (R : Ending → World → Prop) (v0 v1 v2 v3 v4 v12 v13 v14 v16 v17 v19 v21 v23 v24 v25 v26 v30 v31 v32 v39 : Value)
    (hn : 1 ≤ n)
    (hs : Fr arr v0 v1 v2 v3 v4 (.int .i64 n) v12 v13 v14 v16 v17 v19 v21 v23 v24 v25 v26 v30 v31 v32 v39)
    (HQ : Hid (∀ arr', Fr arr' v0 v1 v2 v3 v4 (.int .i64 n) v12 v13 v14 v16 v17 v19 v21 v23 v24 v25 v26 v30 v31 v32 v39 → K ⟨arr', []⟩ w)) :
    Code.wp Yba.prog (stm 3 (Yba.f4.body.getD .skip)) (Exit.then K (bodyPost Yba.prog Yba.f4 R)) ⟨arr, []⟩ w := by
  refine hs.open (fun t => ?_)
  clear hs
  conv => arg 2; whnf
  have h1 : ((n : Int) == 0) = false := beq_eq_false_iff_ne.2 (by omega)
  go_wp2
  exact HQ.out _ (Fr.mk rfl rfl rfl rfl rfl rfl rfl rfl rfl rfl rfl rfl rfl rfl rfl rfl rfl rfl rfl rfl rfl rfl)

set_option maxRecDepth 100000 in
set_option maxHeartbeats 400000 in
/-- np := 1 + int(peers%8) -/
theorem st4 (peers : Int) (np : Nat) (arr : Array Value) (w : World) (K : Act → World → Prop) (R : Ending → World → Prop) (v0 v2 v3 v4 v11 v12 v13 v14 v16 v17 v19 v21 v23 v24 v25 v26 v30 v31 v32 v39 : Value)
    (h0 : 0 ≤ peers) (h1 : peers ≤ 255) (hnp : Hid ((np : Int) = 1 + peers % 8))
    (hs : Fr arr v0 (.int .u8 peers) v2 v3 v4 v11 v12 v13 v14 v16 v17 v19 v21 v23 v24 v25 v26 v30 v31 v32 v39)
    (HQ : Hid (∀ arr', Fr arr' v0 (.int .u8 peers) v2 v3 v4 v11 (.int .i64 np) v13 v14 v16 v17 v19 v21 v23 v24 v25 v26 v30 v31 v32 v39 → K ⟨arr', []⟩ w)) :
    Code.wp Yba.prog (stm 4 (Yba.f4.body.getD .skip)) (Exit.then K (bodyPost Yba.prog Yba.f4 R)) ⟨arr, []⟩ w := by
  refine hs.open (fun t => ?_)
  clear hs
  conv => arg 2; whnf
  go_wp2
  exact HQ.out _ (Fr.mk rfl rfl rfl rfl rfl rfl rfl (by rw [hnp.out]; rfl) rfl rfl rfl rfl rfl rfl rfl rfl rfl rfl rfl rfl rfl rfl)

set_option maxRecDepth 100000 in
set_option maxHeartbeats 400000 in
/-- x := int(sel % uint(n)) -/
theorem st5 (sel : Int) (n x : Nat) (arr : Array Value) (w : World) (K : Act → World → Prop) (R : Ending → World → Prop) (v0 v1 v3 v4 v12 v13 v14 v16 v17 v19 v21 v23 v24 v25 v26 v30 v31 v32 v39 : Value)
    (h0 : 0 ≤ sel) (hn : 1 ≤ n) (hn2 : n ≤ 65536) (hx : Hid ((x : Int) = sel % n))
    (hs : Fr arr v0 v1 (.int .u64 sel) v3 v4 (.int .i64 n) v12 v13 v14 v16 v17 v19 v21 v23 v24 v25 v26 v30 v31 v32 v39)
    (HQ : Hid (∀ arr', Fr arr' v0 v1 (.int .u64 sel) v3 v4 (.int .i64 n) v12 (.int .i64 x) v14 v16 v17 v19 v21 v23 v24 v25 v26 v30 v31 v32 v39 → K ⟨arr', []⟩ w)) :
    Code.wp Yba.prog (stm 5 (Yba.f4.body.getD .skip)) (Exit.then K (bodyPost Yba.prog Yba.f4 R)) ⟨arr, []⟩ w := by
  refine hs.open (fun t => ?_)
  clear hs
  conv => arg 2; whnf
  have hp : (0 : Int) < (n : Int) := by omega
  have hw : wrap64 (sel % n) = sel % n := wrap64_of _ (by have := Int.emod_lt_of_pos sel hp; have := Int.emod_nonneg sel (show (n : Int) ≠ 0 by omega); omega)
  go_wp2
  exact HQ.out _ (Fr.mk rfl rfl rfl rfl rfl rfl rfl rfl (by rw [hx.out]; exact congrArg (Value.int .i64) hw) rfl rfl rfl rfl rfl rfl rfl rfl rfl rfl rfl rfl rfl)

set_option maxRecDepth 100000 in
set_option maxHeartbeats 400000 in
/-- make: slot 14 -/
theorem st6 (n : Nat) (arr : Array Value) (w : World) (K : Act → World → Prop) (R : Ending → World → Prop) (v0 v1 v2 v3 v4 v12 v13 v14 v16 v17 v19 v21 v23 v24 v25 v26 v30 v31 v32 v39 : Value)
    (hn : n ≤ 2097152)
    (hs : Fr arr v0 v1 v2 v3 v4 (.int .i64 n) v12 v13 v14 v16 v17 v19 v21 v23 v24 v25 v26 v30 v31 v32 v39)
    (HQ : Hid (∀ arr', Fr arr' v0 v1 v2 v3 v4 (.int .i64 n) v12 v13 (.slice (some ⟨w.heap.size, 0, none⟩) n n) v16 v17 v19 v21 v23 v24 v25 v26 v30 v31 v32 v39 → K ⟨arr', []⟩ (w.alloc (.cells (Array.replicate n (Value.int .i32 0)) 21)))) :
    Code.wp Yba.prog (stm 6 (Yba.f4.body.getD .skip)) (Exit.then K (bodyPost Yba.prog Yba.f4 R)) ⟨arr, []⟩ w := by
  refine hs.open (fun t => ?_)
  clear hs
  conv => arg 2; whnf
  have hmk := mk27 n hn
  go_wp2
  exact HQ.out _ (Fr.mk rfl rfl rfl rfl rfl rfl rfl rfl rfl rfl rfl rfl rfl rfl rfl rfl rfl rfl rfl rfl rfl rfl)

set_option maxRecDepth 100000 in
set_option maxHeartbeats 400000 in
/-- for i := 0; i < n; i++ { own[i] = int32(int(ups[i].Uploader) % np) } -/
theorem st7 (b0 o0 n c0 np g : Nat) (U : Nat → Up) (arr : Array Value) (w : World) (K : Act → World → Prop) (R : Ending → World → Prop) (v1 v2 v3 v4 v13 v16 v17 v19 v21 v23 v24 v25 v26 v30 v31 v32 v39 : Value)
    (hn : n ≤ 65536) (hp : 1 ≤ np) (hp8 : np ≤ 8) (hU : Ups w b0 o0 n U) (hbg : ¬ b0 = g) (hr : RowF w g 21 n (fun _ => .int .i32 0))
    (hs : Fr arr (.slice (some ⟨b0, o0, none⟩) n c0) v1 v2 v3 v4 (.int .i64 n) (.int .i64 np) v13 (.slice (some ⟨g, 0, none⟩) n n) v16 v17 v19 v21 v23 v24 v25 v26 v30 v31 v32 v39)
    (HQ : Hid (∀ arr' w', Fr arr' (.slice (some ⟨b0, o0, none⟩) n c0) v1 v2 v3 v4 (.int .i64 n) (.int .i64 np) v13 (.slice (some ⟨g, 0, none⟩) n n) v16 v17 v19 v21 v23 v24 v25 v26 v30 v31 v32 v39 → RowF w' g 21 n (ownF U np) → Chg w w' (· = g) → K ⟨arr', []⟩ w')) :
    Code.wp Yba.prog (stm 7 (Yba.f4.body.getD .skip)) (Exit.then K (bodyPost Yba.prog Yba.f4 R)) ⟨arr, []⟩ w := by
  refine hs.open (fun t => ?_)
  clear hs
  conv => arg 2; whnf
  go_wp2
  go_loopw [15] (fun i wr => ∃ k : Nat, k ≤ n ∧ i = .int .i64 k ∧ RowF wr g 21 n (intF (fun j => if j < k then (own U np j : Int) else 0)) ∧ Chg w wr (· = g)) (fun i _ => n - (intOf i).toNat)
  case atStart => exact ⟨0, Nat.zero_le _, rfl, hr.congr (fun i _ => by simp [intF]), Chg.refl _ _⟩
  case round =>
    obtain ⟨k, hk, rfl, hrow, hchg⟩ := hrel
    by_cases hlt : k < n
    · have hu := hU.upr k hlt
      have hsrc := (hU.chg hchg hbg).up k hlt
      have ho := own_eq U np k hp
      have hol := own_lt U np k hp
      obtain ⟨u, hu0⟩ : ∃ u, u = (U k).up := ⟨_, rfl⟩
      rw [← hu0] at hu hsrc ho
      have HO : Hid (wrap32 (u % np) = (own U np k : Int)) := by rw [← ho]; exact wrap32_of _ (by omega)
      clear hu0 ho
      have hdst := hrow.cell hlt
      have hfr := hrow.free k
      simp only [intF] at hdst
      have HR : Hid (RowF wr g 21 n (intF (fun j => if j < k then (own U np j : Int) else 0))) := hrow
      clear hrow
      go_wp2
      go_roundw
      case rel =>
        refine ⟨k + 1, by omega, by go_num, ?_, hchg.setCell (.inl rfl) _⟩
        rw [HO.out]
        have h1 := HR.out.set k (.int .i32 (own U np k : Int))
        rw [upd_intF, fillI (fun j => (own U np j : Int)) 0 k] at h1
        exact h1
      case measure => simp [intOf]; omega
    · go_wp2
      exact HQ.out _ _ (Fr.mk rfl rfl rfl rfl rfl rfl rfl rfl rfl rfl rfl rfl rfl rfl rfl rfl rfl rfl rfl rfl rfl rfl) (hrow.congr (fun i hi => by unfold ownF intF; simp only; rw [if_pos (by omega)])) hchg

set_option maxRecDepth 100000 in
set_option maxHeartbeats 400000 in
/-- make: slot 16 -/
theorem st8 (n : Nat) (arr : Array Value) (w : World) (K : Act → World → Prop) (R : Ending → World → Prop) (v0 v1 v2 v3 v4 v12 v13 v14 v16 v17 v19 v21 v23 v24 v25 v26 v30 v31 v32 v39 : Value)
    (hn : n ≤ 2097152)
    (hs : Fr arr v0 v1 v2 v3 v4 (.int .i64 n) v12 v13 v14 v16 v17 v19 v21 v23 v24 v25 v26 v30 v31 v32 v39)
    (HQ : Hid (∀ arr', Fr arr' v0 v1 v2 v3 v4 (.int .i64 n) v12 v13 v14 (.slice (some ⟨w.heap.size, 0, none⟩) n n) v17 v19 v21 v23 v24 v25 v26 v30 v31 v32 v39 → K ⟨arr', []⟩ (w.alloc (.cells (Array.replicate (n * 6) (Value.int .i32 0)) 32)))) :
    Code.wp Yba.prog (stm 8 (Yba.f4.body.getD .skip)) (Exit.then K (bodyPost Yba.prog Yba.f4 R)) ⟨arr, []⟩ w := by
  refine hs.open (fun t => ?_)
  clear hs
  conv => arg 2; whnf
  have hmk := mk30 n hn
  go_wp2
  exact HQ.out _ (Fr.mk rfl rfl rfl rfl rfl rfl rfl rfl rfl rfl rfl rfl rfl rfl rfl rfl rfl rfl rfl rfl rfl rfl)

set_option maxRecDepth 100000 in
set_option maxHeartbeats 400000 in
/-- make: slot 17 -/
theorem st9 (np : Nat) (arr : Array Value) (w : World) (K : Act → World → Prop) (R : Ending → World → Prop) (v0 v1 v2 v3 v4 v11 v13 v14 v16 v17 v19 v21 v23 v24 v25 v26 v30 v31 v32 v39 : Value)
    (hn : np ≤ 2097152)
    (hs : Fr arr v0 v1 v2 v3 v4 v11 (.int .i64 np) v13 v14 v16 v17 v19 v21 v23 v24 v25 v26 v30 v31 v32 v39)
    (HQ : Hid (∀ arr', Fr arr' v0 v1 v2 v3 v4 v11 (.int .i64 np) v13 v14 v16 (.slice (some ⟨w.heap.size, 0, none⟩) np np) v19 v21 v23 v24 v25 v26 v30 v31 v32 v39 → K ⟨arr', []⟩ (w.alloc (.cells (Array.replicate np (Value.int .i32 0)) 21)))) :
    Code.wp Yba.prog (stm 9 (Yba.f4.body.getD .skip)) (Exit.then K (bodyPost Yba.prog Yba.f4 R)) ⟨arr, []⟩ w := by
  refine hs.open (fun t => ?_)
  clear hs
  conv => arg 2; whnf
  have hmk := mk27 np hn
  go_wp2
  exact HQ.out _ (Fr.mk rfl rfl rfl rfl rfl rfl rfl rfl rfl rfl rfl rfl rfl rfl rfl rfl rfl rfl rfl rfl rfl rfl)

set_option maxRecDepth 100000 in
set_option maxHeartbeats 400000 in
/-- for p := 0; p < np; p++ { latest[p] = -1 } -/
theorem st10 (np g : Nat) (arr : Array Value) (w : World) (K : Act → World → Prop) (R : Ending → World → Prop) (v0 v1 v2 v3 v4 v11 v13 v14 v16 v19 v21 v23 v24 v25 v26 v30 v31 v32 v39 : Value)
    (hp8 : np ≤ 8) (hr : RowF w g 21 np (fun _ => .int .i32 0))
    (hs : Fr arr v0 v1 v2 v3 v4 v11 (.int .i64 np) v13 v14 v16 (.slice (some ⟨g, 0, none⟩) np np) v19 v21 v23 v24 v25 v26 v30 v31 v32 v39)
    (HQ : Hid (∀ arr' w', Fr arr' v0 v1 v2 v3 v4 v11 (.int .i64 np) v13 v14 v16 (.slice (some ⟨g, 0, none⟩) np np) v19 v21 v23 v24 v25 v26 v30 v31 v32 v39 → RowF w' g 21 np (intF (fun _ => -1)) → Chg w w' (· = g) → K ⟨arr', []⟩ w')) :
    Code.wp Yba.prog (stm 10 (Yba.f4.body.getD .skip)) (Exit.then K (bodyPost Yba.prog Yba.f4 R)) ⟨arr, []⟩ w := by
  refine hs.open (fun t => ?_)
  clear hs
  conv => arg 2; whnf
  go_wp2
  go_loopw [18] (fun i wr => ∃ k : Nat, k ≤ np ∧ i = .int .i64 k ∧ RowF wr g 21 np (intF (fun j => if j < k then -1 else 0)) ∧ Chg w wr (· = g)) (fun i _ => np - (intOf i).toNat)
  case atStart => exact ⟨0, Nat.zero_le _, rfl, hr.congr (fun i _ => by simp [intF]), Chg.refl _ _⟩
  case round =>
    obtain ⟨k, hk, rfl, hrow, hchg⟩ := hrel
    by_cases hlt : k < np
    · have hdst := hrow.cell hlt
      have hfr := hrow.free k
      simp only [intF] at hdst
      have HR : Hid (RowF wr g 21 np (intF (fun j => if j < k then -1 else 0))) := hrow
      clear hrow
      go_wp2
      go_roundw
      case rel =>
        refine ⟨k + 1, by omega, by go_num, ?_, hchg.setCell (.inl rfl) _⟩
        have h1 := HR.out.set k (.int .i32 (-1))
        rw [upd_intF, fillI (fun _ => -1) 0 k] at h1
        exact h1
      case measure => simp [intOf]; omega
    · go_wp2
      exact HQ.out _ _ (Fr.mk rfl rfl rfl rfl rfl rfl rfl rfl rfl rfl rfl rfl rfl rfl rfl rfl rfl rfl rfl rfl rfl rfl) (hrow.congr (fun i hi => by unfold intF; simp only; rw [if_pos (by omega)])) hchg

set_option maxRecDepth 100000 in
set_option maxHeartbeats 400000 in
/-- var given []int32 -/
theorem st11  (arr : Array Value) (w : World) (K : Act → World → Prop) (R : Ending → World → Prop) (v0 v1 v2 v3 v4 v11 v12 v13 v14 v16 v17 v19 v21 v23 v24 v25 v26 v30 v31 v32 v39 : Value)
    
    (hs : Fr arr v0 v1 v2 v3 v4 v11 v12 v13 v14 v16 v17 v19 v21 v23 v24 v25 v26 v30 v31 v32 v39)
    (HQ : Hid (∀ arr', Fr arr' v0 v1 v2 v3 v4 v11 v12 v13 v14 v16 v17 (.slice none 0 0) v21 v23 v24 v25 v26 v30 v31 v32 v39 → K ⟨arr', []⟩ w)) :
    Code.wp Yba.prog (stm 11 (Yba.f4.body.getD .skip)) (Exit.then K (bodyPost Yba.prog Yba.f4 R)) ⟨arr, []⟩ w := by
  refine hs.open (fun t => ?_)
  clear hs
  conv => arg 2; whnf
  go_wp2
  exact HQ.out _ (Fr.mk rfl rfl rfl rfl rfl rfl rfl rfl rfl rfl rfl rfl rfl rfl rfl rfl rfl rfl rfl rfl rfl rfl)
end Go.Proofs.Ybulkdgxk
