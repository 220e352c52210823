/-
  LawS5408BWhole, its statement 8: the timers are made and added.
-/
import Derived.Test.YbulkdgzaDoorS1
namespace Go.Proofs.YbulkdgzaDoor
open Go.RowKit B
set_option linter.unusedVariables false
set_option linter.unusedSimpArgs false

theorem tk_fit (c off tk : Nat) (h : c + off ≤ 9223372036854775807) (ht : tk = c + off) : wrap64 (off : Int) = (off : Int) ∧ wrap64 ((c : Int) + (off : Int)) = (tk : Int) ∧ (off : Int) ≤ 9223372036854775807 - (c : Int) := by
  refine ⟨wrap64_nat off (by omega), ?_, by omega⟩
  rw [show (c : Int) + (off : Int) = ((c + off : Nat) : Int) by simp, wrap64_nat _ (by omega), ht]
theorem tk_not (c off : Nat) (h : ¬ c + off ≤ 9223372036854775807) : 9223372036854775807 - (c : Int) < (off : Int) := by omega

set_option maxRecDepth 100000 in
set_option maxHeartbeats 400000 in
/-- i := 0 -/
theorem r8i  (arr : Array Value) (w : World) (K : Act → World → Prop) (Q : Exit → Act → World → Prop) (R : Ending → World → Prop) (v0 v1 v2 v3 v4 v5 v6 v7 v8 v9 v10 v11 v12 v13 v14 v15 v16 v17 v18 v19 v20 v21 v22 v23 v24 v25 v26 v27 v28 v29 v30 v31 v32 v33 v34 v35 v36 v37 v38 : Value)
    
    (hs : Fx arr v0 v1 v2 v3 v4 v5 v6 v7 v8 v9 v10 v11 v12 v13 v14 v15 v16 v17 v18 v19 v20 v21 v22 v23 v24 v25 v26 v27 v28 v29 v30 v31 v32 v33 v34 v35 v36 v37 v38)
    (HQ : Hid (∀ arr', Fx arr' v0 v1 v2 v3 v4 v5 v6 v7 v8 v9 v10 v11 v12 v13 v14 (.int .i64 ((0 : Nat) : Int)) v16 v17 v18 v19 v20 v21 v22 v23 v24 v25 v26 v27 v28 v29 v30 v31 v32 v33 v34 v35 v36 v37 v38 → K ⟨arr', []⟩ w)) :
    Code.wp Ybad.prog (nav [1, 1, 1, 1, 1, 1, 1, 1, 0, 0] (Ybad.f4.body.getD .skip)) (Exit.then K (Qp Q R)) ⟨arr, []⟩ w := by
  refine hs.open (fun t => ?_)
  clear hs
  conv => arg 2; whnf
  go_wp2
  refine HQ.out _ ?_
  exact (Fx.mk rfl rfl rfl rfl rfl rfl rfl rfl rfl rfl rfl rfl rfl rfl rfl rfl rfl rfl rfl rfl rfl rfl rfl rfl rfl rfl rfl rfl rfl rfl rfl rfl rfl rfl rfl rfl rfl rfl rfl rfl)

set_option maxRecDepth 100000 in
set_option maxHeartbeats 400000 in
/-- i < n: no -/
theorem r8x (n : Nat) (arr : Array Value) (w : World) (K : Act → World → Prop) (Q : Exit → Act → World → Prop) (R : Ending → World → Prop) (v0 v1 v2 v3 v4 v5 v6 v7 v8 v9 v10 v12 v13 v14 v16 v17 v18 v19 v20 v21 v22 v23 v24 v25 v26 v27 v28 v29 v30 v31 v32 v33 v34 v35 v36 v37 v38 : Value)
    
    (hs : Fx arr v0 v1 v2 v3 v4 v5 v6 v7 v8 v9 v10 (.int .i64 n) v12 v13 v14 (.int .i64 n) v16 v17 v18 v19 v20 v21 v22 v23 v24 v25 v26 v27 v28 v29 v30 v31 v32 v33 v34 v35 v36 v37 v38)
    (HX : Hid (∀ arr', Fx arr' v0 v1 v2 v3 v4 v5 v6 v7 v8 v9 v10 (.int .i64 n) v12 v13 v14 (.int .i64 n) v16 v17 v18 v19 v20 v21 v22 v23 v24 v25 v26 v27 v28 v29 v30 v31 v32 v33 v34 v35 v36 v37 v38 → Q (.exit 0) ⟨arr', []⟩ w)) :
    Code.wp Ybad.prog (nav [1, 1, 1, 1, 1, 1, 1, 1, 0, 1, 2, 2] (Ybad.f4.body.getD .skip)) (Exit.then K (Qp Q R)) ⟨arr, []⟩ w := by
  refine hs.open (fun t => ?_)
  clear hs
  conv => arg 2; whnf
  go_wp2
  refine HX.out _ ?_
  exact (Fx.mk rfl rfl rfl rfl rfl rfl rfl rfl rfl rfl rfl rfl rfl rfl rfl rfl rfl rfl rfl rfl rfl rfl rfl rfl rfl rfl rfl rfl rfl rfl rfl rfl rfl rfl rfl rfl rfl rfl rfl rfl)

set_option maxRecDepth 100000 in
set_option maxHeartbeats 400000 in
/-- one timer -/
theorem r8s (b o n cp c m A D S k f off tk : Nat) (fa fd : Nat → Value) (G : World → Prop) (arr : Array Value) (w : World) (K : Act → World → Prop) (Q : Exit → Act → World → Prop) (R : Ending → World → Prop) (v0 v2 v3 v4 v5 v6 v7 v8 v16 v17 v18 v19 v20 v21 v22 v23 v24 v25 v26 v27 v28 v29 v30 v31 v32 v33 v34 v35 v36 v37 v38 : Value)
    (hn : n ≤ 4096) (hk : k < n) (hc : c ≤ 9223372036854775807) (hf : f < 4294967296) (hm : m ≤ 16777216) (hoff : off = f * m) (htk : tk = if c + off ≤ 9223372036854775807 then c + off else 9223372036854775807)
    (hsrc : w.cell? ⟨b, o + k, none⟩ = some (.int .u32 f)) (hA : RowF w A 45 n fa) (hD : RowF w D 2 n fd) (hAD : ¬ A = D)
    (HA : Hid (Calls Ybad.prog 11 #[.pointer (some ⟨S, 0, none⟩), .pointer (some ⟨w.heap.size, 0, none⟩)] (((w.setCell ⟨D, k, none⟩ (.int .i64 tk)).setCell ⟨A, k, none⟩ (.pointer (some ⟨w.heap.size, 0, none⟩))).alloc (.cells #[.chan none, .pointer none, .nilFunc, .chan none, .int .i64 0, .int .i64 tk, .int .u64 k, .pointer none, .pointer none, .int .i32 0, .int .u8 0, .int .u8 0] 75)) (fun e w' => e = .returned (.tuple #[]) ∧ G w')))
    (hs : Fx arr v0 (.slice (some ⟨b, o, none⟩) n cp) v2 v3 v4 v5 v6 v7 v8 (.int .i64 c) (.int .u64 m) (.int .i64 n) (.slice (some ⟨A, 0, none⟩) n n) (.slice (some ⟨D, 0, none⟩) n n) (.pointer (some ⟨S, 0, none⟩)) (.int .i64 k) v16 v17 v18 v19 v20 v21 v22 v23 v24 v25 v26 v27 v28 v29 v30 v31 v32 v33 v34 v35 v36 v37 v38)
    (HQ : Hid (∀ arr' w' u16 u17, Fx arr' v0 (.slice (some ⟨b, o, none⟩) n cp) v2 v3 v4 v5 v6 v7 v8 (.int .i64 c) (.int .u64 m) (.int .i64 n) (.slice (some ⟨A, 0, none⟩) n n) (.slice (some ⟨D, 0, none⟩) n n) (.pointer (some ⟨S, 0, none⟩)) (.int .i64 ((k + 1 : Nat) : Int)) (u16) (u17) v18 v19 v20 v21 v22 v23 v24 v25 v26 v27 v28 v29 v30 v31 v32 v33 v34 v35 v36 v37 v38 → G w' → K ⟨arr', []⟩ w')) :
    Code.wp Ybad.prog (nav [1, 1, 1, 1, 1, 1, 1, 1, 0, 1, 2, 2] (Ybad.f4.body.getD .skip)) (Exit.then K (Qp Q R)) ⟨arr, []⟩ w := by
  refine hs.open (fun t => ?_)
  clear hs
  conv => arg 2; whnf
  have hk' : (k : Int) < (n : Int) := by omega
  have hw : IntKind.u64.wrap ((f : Int) * (m : Int)) = (off : Int) := by
    have h1 : f * m ≤ 4294967296 * 16777216 := Nat.mul_le_mul (by omega) hm
    have h2 : ((f : Int) * (m : Int)) = ((f * m : Nat) : Int) := by simp
    rw [h2, ← hoff, IntKind.wrap_u64]; omega
  have hf' : IntKind.u64.wrap (f : Int) = (f : Int) := by rw [IntKind.wrap_u64]; omega
  clear hoff hf hm
  have dA := hA.cell hk
  have dD := hD.cell hk
  have zA := hA.free k
  have zD := hD.free k
  have hsz := hA.lt
  clear hA hD
  by_cases hfit : c + off ≤ 9223372036854775807
  · rw [if_pos hfit] at htk
    obtain ⟨h2, h3, hfit'⟩ := tk_fit c off tk hfit htk
    have htk' : (tk : Int) = (c : Int) + (off : Int) := by rw [htk]; simp
    rw [htk'] at HA
    clear h3 htk'
    clear htk hfit
    go_wp2_with fail
    refine Calls.mono HA.out ?_
    rintro e w2 ⟨rfl, hG⟩
    have HG : Hid (G w2) := hG
    clear hG HA dA dD hsrc hw h2 hfit'
    go_wp2
    exact HQ.out _ _ _ _ (Fx.mk rfl rfl rfl rfl rfl rfl rfl rfl rfl rfl rfl rfl rfl rfl rfl rfl (by go_num) rfl rfl rfl rfl rfl rfl rfl rfl rfl rfl rfl rfl rfl rfl rfl rfl rfl rfl rfl rfl rfl rfl rfl) HG.out
  · rw [if_neg hfit] at htk
    have hfit' := tk_not c off hfit
    have htk' : (tk : Int) = 9223372036854775807 := by rw [htk]; rfl
    clear htk
    rw [htk'] at HA
    clear hfit
    go_wp2_with fail
    refine Calls.mono HA.out ?_
    rintro e w2 ⟨rfl, hG⟩
    have HG : Hid (G w2) := hG
    clear hG HA dA dD hsrc hw hfit'
    go_wp2
    exact HQ.out _ _ _ _ (Fx.mk rfl rfl rfl rfl rfl rfl rfl rfl rfl rfl rfl rfl rfl rfl rfl rfl (by go_num) rfl rfl rfl rfl rfl rfl rfl rfl rfl rfl rfl rfl rfl rfl rfl rfl rfl rfl rfl rfl rfl rfl rfl) HG.out

end Go.Proofs.YbulkdgzaDoor
