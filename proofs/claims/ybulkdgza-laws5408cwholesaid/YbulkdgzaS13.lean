/-
  LawS5408CWhole: its contract.
-/
import Derived.Test.YbulkdgzaS12
namespace Go.Proofs.Ybulkdgza
open Go.RowKit B
set_option linter.unusedVariables false
set_option linter.unusedSimpArgs false

theorem hd_none (L : Lay) (k : Nat) : upd (fun _ => Value.pointer none) (kix L.oT) (PT L.Ob) k = hdF L none k := by
  unfold upd hdF
  simp
theorem oc_none (oT l : Nat) : (if l = lev oT 0 then 0 ||| 2 ^ slot oT (lev oT 0) else 0) = ocF oT none l := by
  unfold ocF
  simp
theorem nx_none (L : Lay) : nxF L none = .pointer none := by unfold nxF; simp
theorem pv_none (L : Lay) : pvF L none = .pointer none := by unfold pvF; simp
/-- add(o) -/
theorem add_o {L : Lay} (ok : L.Ok) (t0 : Nat) (fl : Bool) (w : World) (hC : RowF w L.Cb 31 5 (clF L.n L.s L.sq 0)) (hW : RowF w L.Wb 55 729 (whF L.Cb L.tick L.Db L.cl 0 (fun _ => 0) (fun _ => .pointer none) (.slice none 0 0) 0)) (hT : RowF w L.Tb 59 12 (tmF L.Wb (.chan L.ch) t0 t0 7 (.pointer none) (.pointer none) 0 0)) (hO : RowF w L.Ob 59 12 (tmF L.Wb (.chan none) 0 L.oT 0 (.pointer none) (.pointer none) 0 1))
    (hH : ∀ j, L.ch = some j → ∃ a b, w.heap[j]? = some (.chan 1 (bufF fl) false a b false)) :
    Calls Yba.prog 6 #[.pointer (some ⟨L.Wb, 9, none⟩), .pointer (some ⟨L.Ob, 0, none⟩)] w fun e W => e = .returned (.tuple #[]) ∧ Mem L ⟨0, 0, .slice none 0 0, 0, none, t0, t0, 7, 0, 0, fl⟩ w W := by
  have hl := kix_lt L.oT ok.oT
  have hk := kix_704 L.oT ok.oT
  have e21 : 21 + lev L.oT 0 * 64 + slot L.oT (lev L.oT 0) = 21 + kix L.oT := by unfold kix; omega
  have o0 := ok.w
  have o1 := ok.t
  have o2 := ok.o
  have o3 := ok.c
  have o4 := ok.h
  refine (add_none L.Wb L.Ob L.oT (lev L.oT 0) (slot L.oT (lev L.oT 0)) 0 _ _ w hW hO (by omega) ok.oT rfl rfl hl (by omega) rfl rfl (wh_at_oc _ _ _ _ _ _ _ _ _ _ hl) ?_).mono ?_
  · rw [e21]
    exact wh_at_hd _ _ _ _ _ _ _ _ _ _ hk
  · rintro r W ⟨rfl, hW1, hO1, hc⟩
    refine ⟨rfl, hW1.congr (fun i _ => ?_), (hT.chg hc (by rintro (h | h) <;> omega)).congr (fun i hi => ?_), ⟨hC.chg hc (by rintro (h | h) <;> omega), hO1.congr (fun i hi => ?_), fun j hj => ?_, hc.mono (fun j _ h => by rcases h with h | h <;> exact ⟨by omega, by omega⟩)⟩⟩
    · rw [e21]
      rw [show upd (whF L.Cb L.tick L.Db L.cl 0 (fun _ => 0) (fun _ => .pointer none) (.slice none 0 0) 0) (21 + kix L.oT) (PT L.Ob) = _ from funext (wh_hd L.Cb L.tick L.Db L.cl 0 (fun _ => 0) (fun _ => .pointer none) (.slice none 0 0) 0 (kix L.oT) hk (PT L.Ob))]
      rw [wh_oc _ _ _ _ _ _ _ _ _ _ hl]
      exact wh_congr _ _ _ _ _ _ _ _ _ (fun l _ => oc_none L.oT l) (fun k _ => hd_none L k) i
    · show _ = tmF _ _ _ _ _ (nxF L none) _ _ _ i
      rw [nx_none]
    · rw [tm_879 _ _ _ _ _ _ _ _ _ _ _ _ i hi, kix_cast]
      show _ = tmF _ _ _ _ _ _ (pvF L none) _ _ i
      rw [pv_none]
    · obtain ⟨a, b, hh⟩ := hH j hj
      have := ok.k j hj
      exact ⟨a, b, by rw [hc.block j (Array.getElem?_eq_some_iff.1 hh).1 (by rintro (h | h) <;> omega)]; exact hh⟩

set_option maxHeartbeats 2000000 in
theorem ph13 {L : Lay} (ok : L.Ok) (off m t0 : Nat) (d : Int) (hc fl : Bool) (arr : Array Value) (w : World) (R : Ending → World → Prop) (v0 v4 v8 v10 v11 v12 v13 v14 v15 v16 v17 v18 v19 v20 v26 v28 v29 v30 v31 v32 v33 v34 v35 v36 v37 v38 v39 v40 v41 v42 v43 v44 v45 v46 v47 v48 v49 v50 v51 : Value)
    (hm3 : m < 3) (hmf : m ≠ 0 → fl = false) (ht0 : t0 < 9223372036854775808) (hch : HasCh L hc) (hf : L.ch = none → fl = false)
    (hC : RowF w L.Cb 31 5 (clF L.n L.s L.sq 0)) (hW : RowF w L.Wb 55 729 (whF L.Cb L.tick L.Db L.cl 0 (fun _ => 0) (fun _ => .pointer none) (.slice none 0 0) 0)) (hT : RowF w L.Tb 59 12 (tmF L.Wb (.chan L.ch) t0 t0 7 (.pointer none) (.pointer none) 0 0)) (hO : RowF w L.Ob 59 12 (tmF L.Wb (.chan none) 0 L.oT 0 (.pointer none) (.pointer none) 0 1))
    (hH : ∀ j, L.ch = some j → ∃ a b, w.heap[j]? = some (.chan 1 (bufF fl) false a b false))
    (hs : Fx arr v0 (.int .i64 off) (.int .i64 d) (.int .u64 L.sq) v4 (.bool L.cl) (.bool hc) (.bool fl) v8 (.int .i64 L.oT) v10 v11 v12 v13 v14 v15 v16 v17 v18 v19 v20 (.int .u8 ((m : Nat) : Int)) (.int .i64 L.tick) (.pointer (some ⟨L.Cb, 0, none⟩)) (.pointer (some ⟨L.Wb, 0, none⟩)) (.pointer (some ⟨L.Tb, 0, none⟩)) v26 (.pointer (some ⟨L.Ob, 0, none⟩)) v28 v29 v30 v31 v32 v33 v34 v35 v36 v37 v38 v39 v40 v41 v42 v43 v44 v45 v46 v47 v48 v49 v50 v51)
    (HQ : ∀ w', Chg w w' (fun j => L.lo ≤ j) → R (.returned (.bool true)) w')
    (ho : off < 9223372036854775808) (hn : off % 1000000000 = L.n) (hsec : off / 1000000000 = L.s) (h3 : -9223372036854775808 ≤ d) (h4 : d ≤ 9223372036854775807) (ht : 0 < L.tick) (ht2 : L.tick ≤ 9223372036854775807) :
    Code.wp Yba.prog (.seq (nav [1, 1, 1, 1, 1, 1, 1, 1, 1, 1, 1, 1, 1, 0] (Yba.f3.body.getD .skip)) (.seq (nav [1, 1, 1, 1, 1, 1, 1, 1, 1, 1, 1, 1, 1, 1, 0] (Yba.f3.body.getD .skip)) (.seq (nav [1, 1, 1, 1, 1, 1, 1, 1, 1, 1, 1, 1, 1, 1, 1, 0] (Yba.f3.body.getD .skip)) (.seq (nav [1, 1, 1, 1, 1, 1, 1, 1, 1, 1, 1, 1, 1, 1, 1, 1, 0] (Yba.f3.body.getD .skip)) (.seq (nav [1, 1, 1, 1, 1, 1, 1, 1, 1, 1, 1, 1, 1, 1, 1, 1, 1, 0] (Yba.f3.body.getD .skip)) (.seq (nav [1, 1, 1, 1, 1, 1, 1, 1, 1, 1, 1, 1, 1, 1, 1, 1, 1, 1, 0] (Yba.f3.body.getD .skip)) (.seq (nav [1, 1, 1, 1, 1, 1, 1, 1, 1, 1, 1, 1, 1, 1, 1, 1, 1, 1, 1, 0] (Yba.f3.body.getD .skip)) (.seq (nav [1, 1, 1, 1, 1, 1, 1, 1, 1, 1, 1, 1, 1, 1, 1, 1, 1, 1, 1, 1, 0] (Yba.f3.body.getD .skip)) (.seq (nav [1, 1, 1, 1, 1, 1, 1, 1, 1, 1, 1, 1, 1, 1, 1, 1, 1, 1, 1, 1, 1, 0] (Yba.f3.body.getD .skip)) (.seq (nav [1, 1, 1, 1, 1, 1, 1, 1, 1, 1, 1, 1, 1, 1, 1, 1, 1, 1, 1, 1, 1, 1, 0] (Yba.f3.body.getD .skip)) (.seq (nav [1, 1, 1, 1, 1, 1, 1, 1, 1, 1, 1, 1, 1, 1, 1, 1, 1, 1, 1, 1, 1, 1, 1, 0] (Yba.f3.body.getD .skip)) (.seq (nav [1, 1, 1, 1, 1, 1, 1, 1, 1, 1, 1, 1, 1, 1, 1, 1, 1, 1, 1, 1, 1, 1, 1, 1, 0] (Yba.f3.body.getD .skip)) (.seq (nav [1, 1, 1, 1, 1, 1, 1, 1, 1, 1, 1, 1, 1, 1, 1, 1, 1, 1, 1, 1, 1, 1, 1, 1, 1, 0] (Yba.f3.body.getD .skip)) (.seq (nav [1, 1, 1, 1, 1, 1, 1, 1, 1, 1, 1, 1, 1, 1, 1, 1, 1, 1, 1, 1, 1, 1, 1, 1, 1, 1, 0] (Yba.f3.body.getD .skip)) (.seq (nav [1, 1, 1, 1, 1, 1, 1, 1, 1, 1, 1, 1, 1, 1, 1, 1, 1, 1, 1, 1, 1, 1, 1, 1, 1, 1, 1, 0] (Yba.f3.body.getD .skip)) (.seq (nav [1, 1, 1, 1, 1, 1, 1, 1, 1, 1, 1, 1, 1, 1, 1, 1, 1, 1, 1, 1, 1, 1, 1, 1, 1, 1, 1, 1, 0] (Yba.f3.body.getD .skip)) (.seq (nav [1, 1, 1, 1, 1, 1, 1, 1, 1, 1, 1, 1, 1, 1, 1, 1, 1, 1, 1, 1, 1, 1, 1, 1, 1, 1, 1, 1, 1, 0] (Yba.f3.body.getD .skip)) (.seq (nav [1, 1, 1, 1, 1, 1, 1, 1, 1, 1, 1, 1, 1, 1, 1, 1, 1, 1, 1, 1, 1, 1, 1, 1, 1, 1, 1, 1, 1, 1, 0] (Yba.f3.body.getD .skip)) (.seq (nav [1, 1, 1, 1, 1, 1, 1, 1, 1, 1, 1, 1, 1, 1, 1, 1, 1, 1, 1, 1, 1, 1, 1, 1, 1, 1, 1, 1, 1, 1, 1, 0] (Yba.f3.body.getD .skip)) (.seq (nav [1, 1, 1, 1, 1, 1, 1, 1, 1, 1, 1, 1, 1, 1, 1, 1, 1, 1, 1, 1, 1, 1, 1, 1, 1, 1, 1, 1, 1, 1, 1, 1, 0] (Yba.f3.body.getD .skip)) (.seq (nav [1, 1, 1, 1, 1, 1, 1, 1, 1, 1, 1, 1, 1, 1, 1, 1, 1, 1, 1, 1, 1, 1, 1, 1, 1, 1, 1, 1, 1, 1, 1, 1, 1, 0] (Yba.f3.body.getD .skip)) (.seq (nav [1, 1, 1, 1, 1, 1, 1, 1, 1, 1, 1, 1, 1, 1, 1, 1, 1, 1, 1, 1, 1, 1, 1, 1, 1, 1, 1, 1, 1, 1, 1, 1, 1, 1, 0] (Yba.f3.body.getD .skip)) (.seq (nav [1, 1, 1, 1, 1, 1, 1, 1, 1, 1, 1, 1, 1, 1, 1, 1, 1, 1, 1, 1, 1, 1, 1, 1, 1, 1, 1, 1, 1, 1, 1, 1, 1, 1, 1, 0] (Yba.f3.body.getD .skip)) (.seq (nav [1, 1, 1, 1, 1, 1, 1, 1, 1, 1, 1, 1, 1, 1, 1, 1, 1, 1, 1, 1, 1, 1, 1, 1, 1, 1, 1, 1, 1, 1, 1, 1, 1, 1, 1, 1, 0] (Yba.f3.body.getD .skip)) (.seq (nav [1, 1, 1, 1, 1, 1, 1, 1, 1, 1, 1, 1, 1, 1, 1, 1, 1, 1, 1, 1, 1, 1, 1, 1, 1, 1, 1, 1, 1, 1, 1, 1, 1, 1, 1, 1, 1, 0] (Yba.f3.body.getD .skip)) (.seq (nav [1, 1, 1, 1, 1, 1, 1, 1, 1, 1, 1, 1, 1, 1, 1, 1, 1, 1, 1, 1, 1, 1, 1, 1, 1, 1, 1, 1, 1, 1, 1, 1, 1, 1, 1, 1, 1, 1, 0] (Yba.f3.body.getD .skip)) (.seq (nav [1, 1, 1, 1, 1, 1, 1, 1, 1, 1, 1, 1, 1, 1, 1, 1, 1, 1, 1, 1, 1, 1, 1, 1, 1, 1, 1, 1, 1, 1, 1, 1, 1, 1, 1, 1, 1, 1, 1, 0] (Yba.f3.body.getD .skip)) (.seq (nav [1, 1, 1, 1, 1, 1, 1, 1, 1, 1, 1, 1, 1, 1, 1, 1, 1, 1, 1, 1, 1, 1, 1, 1, 1, 1, 1, 1, 1, 1, 1, 1, 1, 1, 1, 1, 1, 1, 1, 1, 0] (Yba.f3.body.getD .skip)) (.seq (nav [1, 1, 1, 1, 1, 1, 1, 1, 1, 1, 1, 1, 1, 1, 1, 1, 1, 1, 1, 1, 1, 1, 1, 1, 1, 1, 1, 1, 1, 1, 1, 1, 1, 1, 1, 1, 1, 1, 1, 1, 1, 0] (Yba.f3.body.getD .skip)) (.seq (nav [1, 1, 1, 1, 1, 1, 1, 1, 1, 1, 1, 1, 1, 1, 1, 1, 1, 1, 1, 1, 1, 1, 1, 1, 1, 1, 1, 1, 1, 1, 1, 1, 1, 1, 1, 1, 1, 1, 1, 1, 1, 1, 0] (Yba.f3.body.getD .skip)) (nav [1, 1, 1, 1, 1, 1, 1, 1, 1, 1, 1, 1, 1, 1, 1, 1, 1, 1, 1, 1, 1, 1, 1, 1, 1, 1, 1, 1, 1, 1, 1, 1, 1, 1, 1, 1, 1, 1, 1, 1, 1, 1, 1] (Yba.f3.body.getD .skip)))))))))))))))))))))))))))))))) (bodyPost Yba.prog Yba.f3 R) ⟨arr, []⟩ w := by
  refine seq_B (st13 L.Wb L.Ob (fun W => Mem L ⟨0, 0, .slice none 0 0, 0, none, t0, t0, 7, 0, 0, fl⟩ w W) arr w _ _ _ _ _ _ _ _ _ _ _ _ _ _ _ _ _ _ _ _ _ _ _ _ _ _ _ _ _ _ _ _ _ _ _ _ _ _ _ _ _ _ _ _ _ _ _ _ _ _ _ _ _ (add_o ok t0 fl w hC hW hT hO hH) hs (fun arr1 w1 f1 M1 => ?_))
  refine seq_B (st14 L.Wb _ arr1 w1 _ _ _ _ _ _ _ _ _ _ _ _ _ _ _ _ _ _ _ _ _ _ _ _ _ _ _ _ _ _ _ _ _ _ _ _ _ _ _ _ _ _ _ _ _ _ _ _ _ _ _ _ _ _ (M1.hW.cell (i := 726) (by omega)) (M1.hW.free 726) f1 (fun arr2 f2 => ?_))
  have M2 := M1.setP ok 1
  have hcg : Chg w (w1.setCell ⟨L.Wb, 726, none⟩ (.int .i64 1)) (fun j => L.lo ≤ j) := M2.r.chg.mono (fun _ _ h => h.1)
  exact ph15 ok off m t0 d hc fl arr2 _ R _ _ _ _ _ _ _ _ _ _ _ _ _ _ _ _ _ _ _ _ _ _ _ _ _ _ _ _ _ _ _ _ _ _ _ _ _ _ _ hm3 hmf ht0 hch hf M2.rebase f2 (fun w' h => HQ _ (hcg.trans h)) ho hn hsec h3 h4 ht ht2

set_option maxHeartbeats 1000000 in
/-- tickNs -/
theorem t1 (a : Int) (rest : Code) (arr : Array Value) (w : World) (R : Ending → World → Prop) (v1 v2 v3 v4 v5 v6 v7 v8 v9 v10 v11 v12 v13 v14 v15 v16 v17 v18 v19 v20 v21 v22 v23 v24 v25 v26 v27 v28 v29 v30 v31 v32 v33 v34 v35 v36 v37 v38 v39 v40 v41 v42 v43 v44 v45 v46 v47 v48 v49 v50 v51 : Value)
    (h1 : -9223372036854775808 ≤ a)
    (hs : Fx arr (.int .i64 a) v1 v2 v3 v4 v5 v6 v7 v8 v9 v10 v11 v12 v13 v14 v15 v16 v17 v18 v19 v20 v21 v22 v23 v24 v25 v26 v27 v28 v29 v30 v31 v32 v33 v34 v35 v36 v37 v38 v39 v40 v41 v42 v43 v44 v45 v46 v47 v48 v49 v50 v51)
    (HQ : ∀ arr', Fx arr' (.int .i64 (tkV a)) v1 v2 v3 v4 v5 v6 v7 v8 v9 v10 v11 v12 v13 v14 v15 v16 v17 v18 v19 v20 v21 v22 v23 v24 v25 v26 v27 v28 v29 v30 v31 v32 v33 v34 v35 v36 v37 v38 v39 v40 v41 v42 v43 v44 v45 v46 v47 v48 v49 v50 v51 → rest.wp Yba.prog (bodyPost Yba.prog Yba.f3 R) ⟨arr', []⟩ w) :
    (Code.seq (nav [1, 0] (Yba.f3.body.getD .skip)) rest).wp Yba.prog (bodyPost Yba.prog Yba.f3 R) ⟨arr, []⟩ w := by
  by_cases h : a ≤ 0
  · have e : tkV a = a % 65536 + 1 := by unfold tkV; rw [if_pos h]
    rw [e] at HQ
    exact seq_B (st1y a _ arr w _ _ _ _ _ _ _ _ _ _ _ _ _ _ _ _ _ _ _ _ _ _ _ _ _ _ _ _ _ _ _ _ _ _ _ _ _ _ _ _ _ _ _ _ _ _ _ _ _ _ _ _ _ _ h (tk_eq a h1 h) hs (fun arr1 f1 => HQ _ f1))
  · have e : tkV a = a := by unfold tkV; rw [if_neg h]
    rw [e] at HQ
    exact seq_B (st1n a arr w _ _ _ _ _ _ _ _ _ _ _ _ _ _ _ _ _ _ _ _ _ _ _ _ _ _ _ _ _ _ _ _ _ _ _ _ _ _ _ _ _ _ _ _ _ _ _ _ _ _ _ _ _ _ h hs (fun arr1 f1 => HQ _ f1))

set_option maxHeartbeats 1000000 in
/-- full -/
theorem t6 (m : Nat) (h fl : Bool) (rest : Code) (arr : Array Value) (w : World) (R : Ending → World → Prop) (v0 v1 v2 v3 v4 v5 v8 v9 v10 v11 v12 v13 v14 v15 v16 v17 v18 v19 v20 v22 v23 v24 v25 v26 v27 v28 v29 v30 v31 v32 v33 v34 v35 v36 v37 v38 v39 v40 v41 v42 v43 v44 v45 v46 v47 v48 v49 v50 v51 : Value)
    
    (hs : Fx arr v0 v1 v2 v3 v4 v5 (.bool h) (.bool fl) v8 v9 v10 v11 v12 v13 v14 v15 v16 v17 v18 v19 v20 (.int .u8 m) v22 v23 v24 v25 v26 v27 v28 v29 v30 v31 v32 v33 v34 v35 v36 v37 v38 v39 v40 v41 v42 v43 v44 v45 v46 v47 v48 v49 v50 v51)
    (HQ : ∀ arr', Fx arr' v0 v1 v2 v3 v4 v5 (.bool h) (.bool (decide (m = 0) && h && fl)) v8 v9 v10 v11 v12 v13 v14 v15 v16 v17 v18 v19 v20 (.int .u8 m) v22 v23 v24 v25 v26 v27 v28 v29 v30 v31 v32 v33 v34 v35 v36 v37 v38 v39 v40 v41 v42 v43 v44 v45 v46 v47 v48 v49 v50 v51 → rest.wp Yba.prog (bodyPost Yba.prog Yba.f3 R) ⟨arr', []⟩ w) :
    (Code.seq (nav [1, 1, 1, 1, 1, 1, 0] (Yba.f3.body.getD .skip)) rest).wp Yba.prog (bodyPost Yba.prog Yba.f3 R) ⟨arr, []⟩ w := by
  by_cases hm : m = 0
  · subst hm
    cases h with
    | true => exact seq_B (st6n  arr w _ _ _ _ _ _ _ _ _ _ _ _ _ _ _ _ _ _ _ _ _ _ _ _ _ _ _ _ _ _ _ _ _ _ _ _ _ _ _ _ _ _ _ _ _ _ _ _ _ _ _ _ _ hs (fun arr1 f1 => HQ _ f1))
    | false => exact seq_B (st6y 0 false arr w _ _ _ _ _ _ _ _ _ _ _ _ _ _ _ _ _ _ _ _ _ _ _ _ _ _ _ _ _ _ _ _ _ _ _ _ _ _ _ _ _ _ _ _ _ _ _ _ _ _ _ _ _ (.inr rfl) hs (fun arr1 f1 => HQ _ f1))
  · have e : (decide (m = 0) && h && fl) = false := by simp [hm]
    rw [e] at HQ
    exact seq_B (st6y m h arr w _ _ _ _ _ _ _ _ _ _ _ _ _ _ _ _ _ _ _ _ _ _ _ _ _ _ _ _ _ _ _ _ _ _ _ _ _ _ _ _ _ _ _ _ _ _ _ _ _ _ _ _ _ (.inl hm) hs (fun arr1 f1 => HQ _ f1))

set_option maxHeartbeats 1000000 in
/-- the channel -/
theorem t11 (Wb Tb t0 : Nat) (hc fl : Bool) (rest : Code) (arr : Array Value) (w : World) (R : Ending → World → Prop) (v0 v1 v2 v3 v4 v5 v8 v9 v10 v11 v12 v13 v14 v15 v16 v17 v18 v19 v20 v21 v22 v23 v24 v26 v27 v28 v29 v30 v31 v32 v33 v34 v35 v36 v37 v38 v39 v40 v41 v42 v43 v44 v45 v46 v47 v48 v49 v50 v51 : Value)
    (hT : RowF w Tb 59 12 (tmF Wb (.chan none) t0 t0 7 (.pointer none) (.pointer none) 0 0)) (hfl : hc = false → fl = false)
    (hs : Fx arr v0 v1 v2 v3 v4 v5 (.bool hc) (.bool fl) v8 v9 v10 v11 v12 v13 v14 v15 v16 v17 v18 v19 v20 v21 v22 v23 v24 (.pointer (some ⟨Tb, 0, none⟩)) v26 v27 v28 v29 v30 v31 v32 v33 v34 v35 v36 v37 v38 v39 v40 v41 v42 v43 v44 v45 v46 v47 v48 v49 v50 v51)
    (HQ : ∀ arr' w' v (ch : Option Nat), Fx arr' v0 v1 v2 v3 v4 v5 (.bool hc) (.bool fl) v8 v9 v10 v11 v12 v13 v14 v15 v16 v17 v18 v19 v20 v21 v22 v23 v24 (.pointer (some ⟨Tb, 0, none⟩)) (v) v27 v28 v29 v30 v31 v32 v33 v34 v35 v36 v37 v38 v39 v40 v41 v42 v43 v44 v45 v46 v47 v48 v49 v50 v51 → RowF w' Tb 59 12 (tmF Wb (.chan ch) t0 t0 7 (.pointer none) (.pointer none) 0 0) → (∀ j, ch = some j → (∃ a b, w'.heap[j]? = some (.chan 1 (bufF fl) false a b false)) ∧ w.heap.size ≤ j) → ((hc = true ∧ ∃ j, ch = some j) ∨ (hc = false ∧ ch = none)) → (ch = none → fl = false) → Chg w w' (fun j => j = Tb) → rest.wp Yba.prog (bodyPost Yba.prog Yba.f3 R) ⟨arr', []⟩ w') :
    (Code.seq (nav [1, 1, 1, 1, 1, 1, 1, 1, 1, 1, 1, 0] (Yba.f3.body.getD .skip)) rest).wp Yba.prog (bodyPost Yba.prog Yba.f3 R) ⟨arr, []⟩ w := by
  cases hc with
  | false =>
    have e := hfl rfl
    subst e
    refine seq_B (st11n  arr w _ _ _ _ _ _ _ _ _ _ _ _ _ _ _ _ _ _ _ _ _ _ _ _ _ _ _ _ _ _ _ _ _ _ _ _ _ _ _ _ _ _ _ _ _ _ _ _ _ _ _ _ _ _ hs (fun arr1 f1 => ?_))
    exact HQ arr1 w _ none f1 hT (fun j h => by cases h) (.inr ⟨rfl, rfl⟩) (fun _ => rfl) (Chg.refl _ _)
  | true =>
    cases fl with
    | false =>
      refine seq_B (st11y Wb Tb t0 arr w _ _ _ _ _ _ _ _ _ _ _ _ _ _ _ _ _ _ _ _ _ _ _ _ _ _ _ _ _ _ _ _ _ _ _ _ _ _ _ _ _ _ _ _ _ _ _ _ _ _ _ _ hT hs (fun arr1 w1 Hb a b f1 r1 h1 h2 h3 => ?_))
      exact HQ arr1 w1 _ (some Hb) f1 r1 (fun j h => by cases h; exact ⟨⟨_, _, h1⟩, h2⟩) (.inl ⟨rfl, Hb, rfl⟩) (fun _ => rfl) h3
    | true =>
      refine seq_B (st11f Wb Tb t0 arr w _ _ _ _ _ _ _ _ _ _ _ _ _ _ _ _ _ _ _ _ _ _ _ _ _ _ _ _ _ _ _ _ _ _ _ _ _ _ _ _ _ _ _ _ _ _ _ _ _ _ _ _ hT hs (fun arr1 w1 Hb a b f1 r1 h1 h2 h3 => ?_))
      exact HQ arr1 w1 _ (some Hb) f1 r1 (fun j h => by cases h; exact ⟨⟨_, _, h1⟩, h2⟩) (.inl ⟨rfl, Hb, rfl⟩) (fun h => by cases h) h3

set_option maxHeartbeats 2000000 in
theorem ph7 (tick off m t0 oT : Nat) (d sq : Int) (cl hc fl : Bool) (arr : Array Value) (w : World) (R : Ending → World → Prop) (v4 v10 v11 v12 v13 v14 v15 v16 v17 v18 v19 v20 v22 v23 v24 v25 v26 v27 v28 v29 v30 v31 v32 v33 v34 v35 v36 v37 v38 v39 v40 v41 v42 v43 v44 v45 v46 v47 v48 v49 v50 v51 : Value)
    (hm3 : m < 3) (hmf : m ≠ 0 → fl = false) (hfl : hc = false → fl = false) (ht0 : t0 < 9223372036854775808) (hoT : oT < 9223372036854775808)
    (hs : Fx arr (.int .i64 tick) (.int .i64 off) (.int .i64 d) (.int .u64 sq) v4 (.bool cl) (.bool hc) (.bool fl) (.int .i64 t0) (.int .i64 oT) v10 v11 v12 v13 v14 v15 v16 v17 v18 v19 v20 (.int .u8 ((m : Nat) : Int)) v22 v23 v24 v25 v26 v27 v28 v29 v30 v31 v32 v33 v34 v35 v36 v37 v38 v39 v40 v41 v42 v43 v44 v45 v46 v47 v48 v49 v50 v51)
    (HQ : ∀ w', Chg w w' (fun _ => False) → R (.returned (.bool true)) w')
    (ho : off < 9223372036854775808) (h3 : -9223372036854775808 ≤ d) (h4 : d ≤ 9223372036854775807) (ht : 0 < tick) (ht2 : tick ≤ 9223372036854775807) :
    Code.wp Yba.prog (.seq (nav [1, 1, 1, 1, 1, 1, 1, 0] (Yba.f3.body.getD .skip)) (.seq (nav [1, 1, 1, 1, 1, 1, 1, 1, 0] (Yba.f3.body.getD .skip)) (.seq (nav [1, 1, 1, 1, 1, 1, 1, 1, 1, 0] (Yba.f3.body.getD .skip)) (.seq (nav [1, 1, 1, 1, 1, 1, 1, 1, 1, 1, 0] (Yba.f3.body.getD .skip)) (.seq (nav [1, 1, 1, 1, 1, 1, 1, 1, 1, 1, 1, 0] (Yba.f3.body.getD .skip)) (.seq (nav [1, 1, 1, 1, 1, 1, 1, 1, 1, 1, 1, 1, 0] (Yba.f3.body.getD .skip)) (.seq (nav [1, 1, 1, 1, 1, 1, 1, 1, 1, 1, 1, 1, 1, 0] (Yba.f3.body.getD .skip)) (.seq (nav [1, 1, 1, 1, 1, 1, 1, 1, 1, 1, 1, 1, 1, 1, 0] (Yba.f3.body.getD .skip)) (.seq (nav [1, 1, 1, 1, 1, 1, 1, 1, 1, 1, 1, 1, 1, 1, 1, 0] (Yba.f3.body.getD .skip)) (.seq (nav [1, 1, 1, 1, 1, 1, 1, 1, 1, 1, 1, 1, 1, 1, 1, 1, 0] (Yba.f3.body.getD .skip)) (.seq (nav [1, 1, 1, 1, 1, 1, 1, 1, 1, 1, 1, 1, 1, 1, 1, 1, 1, 0] (Yba.f3.body.getD .skip)) (.seq (nav [1, 1, 1, 1, 1, 1, 1, 1, 1, 1, 1, 1, 1, 1, 1, 1, 1, 1, 0] (Yba.f3.body.getD .skip)) (.seq (nav [1, 1, 1, 1, 1, 1, 1, 1, 1, 1, 1, 1, 1, 1, 1, 1, 1, 1, 1, 0] (Yba.f3.body.getD .skip)) (.seq (nav [1, 1, 1, 1, 1, 1, 1, 1, 1, 1, 1, 1, 1, 1, 1, 1, 1, 1, 1, 1, 0] (Yba.f3.body.getD .skip)) (.seq (nav [1, 1, 1, 1, 1, 1, 1, 1, 1, 1, 1, 1, 1, 1, 1, 1, 1, 1, 1, 1, 1, 0] (Yba.f3.body.getD .skip)) (.seq (nav [1, 1, 1, 1, 1, 1, 1, 1, 1, 1, 1, 1, 1, 1, 1, 1, 1, 1, 1, 1, 1, 1, 0] (Yba.f3.body.getD .skip)) (.seq (nav [1, 1, 1, 1, 1, 1, 1, 1, 1, 1, 1, 1, 1, 1, 1, 1, 1, 1, 1, 1, 1, 1, 1, 0] (Yba.f3.body.getD .skip)) (.seq (nav [1, 1, 1, 1, 1, 1, 1, 1, 1, 1, 1, 1, 1, 1, 1, 1, 1, 1, 1, 1, 1, 1, 1, 1, 0] (Yba.f3.body.getD .skip)) (.seq (nav [1, 1, 1, 1, 1, 1, 1, 1, 1, 1, 1, 1, 1, 1, 1, 1, 1, 1, 1, 1, 1, 1, 1, 1, 1, 0] (Yba.f3.body.getD .skip)) (.seq (nav [1, 1, 1, 1, 1, 1, 1, 1, 1, 1, 1, 1, 1, 1, 1, 1, 1, 1, 1, 1, 1, 1, 1, 1, 1, 1, 0] (Yba.f3.body.getD .skip)) (.seq (nav [1, 1, 1, 1, 1, 1, 1, 1, 1, 1, 1, 1, 1, 1, 1, 1, 1, 1, 1, 1, 1, 1, 1, 1, 1, 1, 1, 0] (Yba.f3.body.getD .skip)) (.seq (nav [1, 1, 1, 1, 1, 1, 1, 1, 1, 1, 1, 1, 1, 1, 1, 1, 1, 1, 1, 1, 1, 1, 1, 1, 1, 1, 1, 1, 0] (Yba.f3.body.getD .skip)) (.seq (nav [1, 1, 1, 1, 1, 1, 1, 1, 1, 1, 1, 1, 1, 1, 1, 1, 1, 1, 1, 1, 1, 1, 1, 1, 1, 1, 1, 1, 1, 0] (Yba.f3.body.getD .skip)) (.seq (nav [1, 1, 1, 1, 1, 1, 1, 1, 1, 1, 1, 1, 1, 1, 1, 1, 1, 1, 1, 1, 1, 1, 1, 1, 1, 1, 1, 1, 1, 1, 0] (Yba.f3.body.getD .skip)) (.seq (nav [1, 1, 1, 1, 1, 1, 1, 1, 1, 1, 1, 1, 1, 1, 1, 1, 1, 1, 1, 1, 1, 1, 1, 1, 1, 1, 1, 1, 1, 1, 1, 0] (Yba.f3.body.getD .skip)) (.seq (nav [1, 1, 1, 1, 1, 1, 1, 1, 1, 1, 1, 1, 1, 1, 1, 1, 1, 1, 1, 1, 1, 1, 1, 1, 1, 1, 1, 1, 1, 1, 1, 1, 0] (Yba.f3.body.getD .skip)) (.seq (nav [1, 1, 1, 1, 1, 1, 1, 1, 1, 1, 1, 1, 1, 1, 1, 1, 1, 1, 1, 1, 1, 1, 1, 1, 1, 1, 1, 1, 1, 1, 1, 1, 1, 0] (Yba.f3.body.getD .skip)) (.seq (nav [1, 1, 1, 1, 1, 1, 1, 1, 1, 1, 1, 1, 1, 1, 1, 1, 1, 1, 1, 1, 1, 1, 1, 1, 1, 1, 1, 1, 1, 1, 1, 1, 1, 1, 0] (Yba.f3.body.getD .skip)) (.seq (nav [1, 1, 1, 1, 1, 1, 1, 1, 1, 1, 1, 1, 1, 1, 1, 1, 1, 1, 1, 1, 1, 1, 1, 1, 1, 1, 1, 1, 1, 1, 1, 1, 1, 1, 1, 0] (Yba.f3.body.getD .skip)) (.seq (nav [1, 1, 1, 1, 1, 1, 1, 1, 1, 1, 1, 1, 1, 1, 1, 1, 1, 1, 1, 1, 1, 1, 1, 1, 1, 1, 1, 1, 1, 1, 1, 1, 1, 1, 1, 1, 0] (Yba.f3.body.getD .skip)) (.seq (nav [1, 1, 1, 1, 1, 1, 1, 1, 1, 1, 1, 1, 1, 1, 1, 1, 1, 1, 1, 1, 1, 1, 1, 1, 1, 1, 1, 1, 1, 1, 1, 1, 1, 1, 1, 1, 1, 0] (Yba.f3.body.getD .skip)) (.seq (nav [1, 1, 1, 1, 1, 1, 1, 1, 1, 1, 1, 1, 1, 1, 1, 1, 1, 1, 1, 1, 1, 1, 1, 1, 1, 1, 1, 1, 1, 1, 1, 1, 1, 1, 1, 1, 1, 1, 0] (Yba.f3.body.getD .skip)) (.seq (nav [1, 1, 1, 1, 1, 1, 1, 1, 1, 1, 1, 1, 1, 1, 1, 1, 1, 1, 1, 1, 1, 1, 1, 1, 1, 1, 1, 1, 1, 1, 1, 1, 1, 1, 1, 1, 1, 1, 1, 0] (Yba.f3.body.getD .skip)) (.seq (nav [1, 1, 1, 1, 1, 1, 1, 1, 1, 1, 1, 1, 1, 1, 1, 1, 1, 1, 1, 1, 1, 1, 1, 1, 1, 1, 1, 1, 1, 1, 1, 1, 1, 1, 1, 1, 1, 1, 1, 1, 0] (Yba.f3.body.getD .skip)) (.seq (nav [1, 1, 1, 1, 1, 1, 1, 1, 1, 1, 1, 1, 1, 1, 1, 1, 1, 1, 1, 1, 1, 1, 1, 1, 1, 1, 1, 1, 1, 1, 1, 1, 1, 1, 1, 1, 1, 1, 1, 1, 1, 0] (Yba.f3.body.getD .skip)) (.seq (nav [1, 1, 1, 1, 1, 1, 1, 1, 1, 1, 1, 1, 1, 1, 1, 1, 1, 1, 1, 1, 1, 1, 1, 1, 1, 1, 1, 1, 1, 1, 1, 1, 1, 1, 1, 1, 1, 1, 1, 1, 1, 1, 0] (Yba.f3.body.getD .skip)) (nav [1, 1, 1, 1, 1, 1, 1, 1, 1, 1, 1, 1, 1, 1, 1, 1, 1, 1, 1, 1, 1, 1, 1, 1, 1, 1, 1, 1, 1, 1, 1, 1, 1, 1, 1, 1, 1, 1, 1, 1, 1, 1, 1] (Yba.f3.body.getD .skip)))))))))))))))))))))))))))))))))))))) (bodyPost Yba.prog Yba.f3 R) ⟨arr, []⟩ w := by
  refine seq_B (st7 _ arr w _ _ _ _ _ _ _ _ _ _ _ _ _ _ _ _ _ _ _ _ _ _ _ _ _ _ _ _ _ _ _ _ _ _ _ _ _ _ _ _ _ _ _ _ _ _ _ _ _ _ _ _ _ _ hs (fun arr1 f1 => ?_))
  refine seq_B (st8 off _ _ sq arr1 w _ _ _ _ _ _ _ _ _ _ _ _ _ _ _ _ _ _ _ _ _ _ _ _ _ _ _ _ _ _ _ _ _ _ _ _ _ _ _ _ _ _ _ _ _ _ _ _ _ _ _ _ _ (fun W => add_zero off W ho) f1 (fun arr2 w1 Cb f2 rC bC g1 => ?_))
  refine seq_B (st9 Cb tick cl arr2 w1 _ _ _ _ _ _ _ _ _ _ _ _ _ _ _ _ _ _ _ _ _ _ _ _ _ _ _ _ _ _ _ _ _ _ _ _ _ _ _ _ _ _ _ _ _ _ _ _ _ _ _ _ f2 (fun arr3 w2 Wb Db f3 rW bW g2 => ?_))
  refine seq_B (st10 Wb t0 arr3 w2 _ _ _ _ _ _ _ _ _ _ _ _ _ _ _ _ _ _ _ _ _ _ _ _ _ _ _ _ _ _ _ _ _ _ _ _ _ _ _ _ _ _ _ _ _ _ _ _ _ _ _ _ _ f3 (fun arr4 w3 Tb f4 rT bT g3 => ?_))
  refine t11 Wb Tb t0 hc fl _ arr4 w3 R _ _ _ _ _ _ _ _ _ _ _ _ _ _ _ _ _ _ _ _ _ _ _ _ _ _ _ _ _ _ _ _ _ _ _ _ _ _ _ _ _ _ _ _ _ _ _ _ _ rT hfl f4 (fun arr5 w4 v26 ch f5 rT4 hch hhc hcf g4 => ?_)
  refine seq_B (st12 Wb oT arr5 w4 _ _ _ _ _ _ _ _ _ _ _ _ _ _ _ _ _ _ _ _ _ _ _ _ _ _ _ _ _ _ _ _ _ _ _ _ _ _ _ _ _ _ _ _ _ _ _ _ _ _ _ _ _ f5 (fun arr6 w5 Ob f6 rO bO g5 => ?_))
  have lC := rC.lt
  have lW := rW.lt
  have lT := rT.lt
  have s3 := g3.size
  have s4 := g4.size
  have rC' := (((rC.chg g2 id).chg g3 id).chg g4 (by omega)).chg g5 id
  have rW' := ((rW.chg g3 id).chg g4 (by omega)).chg g5 id
  have rT' := rT4.chg g5 id
  have lT' := rT4.lt
  have hH : ∀ j, ch = some j → ∃ a b, w5.heap[j]? = some (.chan 1 (bufF fl) false a b false) := fun j hj => by
    obtain ⟨⟨a, b, hh⟩, _⟩ := hch j hj
    exact ⟨a, b, by rw [g5.block j (Array.getElem?_eq_some_iff.1 hh).1 id]; exact hh⟩
  have ok : (⟨w.heap.size, Ob + 1, Cb, Wb, Tb, Ob, Db, tick, off % 1000000000, off / 1000000000, oT, sq, cl, ch⟩ : Lay).Ok := by
    refine ⟨bC, ?_, ?_, ?_, ?_, ?_, hoT⟩
    · show Cb < Wb; omega
    · show Wb < Tb; omega
    · show Tb < Ob; omega
    · show Ob < Ob + 1; omega
    · intro j hj
      obtain ⟨⟨a, b, hh⟩, h⟩ := hch j hj
      have := (Array.getElem?_eq_some_iff.1 hh).1
      exact ⟨by show Tb < j; omega, by show j < Ob; omega⟩
  have cg : Chg w w5 (fun _ => False) := ((((g1.trans g2).trans g3).fresh g4 (fun j hj e => by have e' : j = Tb := e; have := g1.size; have := g2.size; omega)).trans g5)
  exact ph13 ok off m t0 d hc fl arr6 w5 R _ _ _ _ _ _ _ _ _ _ _ _ _ _ _ _ _ _ _ _ _ _ _ _ _ _ _ _ _ _ _ _ _ _ _ _ _ _ _ hm3 hmf ht0 hhc hcf rC' rW' rT' rO hH f6 (fun w' h => HQ _ (cg.fresh h (fun j hj h => by have h' : w.heap.size ≤ j := h; omega))) ho rfl rfl h3 h4 ht ht2
theorem f3_body : Yba.f3.body = some (Yba.f3.body.getD .skip) := by kernel_rfl
theorem c0on : (Yba.f3.body.getD .skip) = (.seq (nav [0] (Yba.f3.body.getD .skip)) (.seq (nav [1, 0] (Yba.f3.body.getD .skip)) (.seq (nav [1, 1, 0] (Yba.f3.body.getD .skip)) (.seq (nav [1, 1, 1, 0] (Yba.f3.body.getD .skip)) (.seq (nav [1, 1, 1, 1, 0] (Yba.f3.body.getD .skip)) (.seq (nav [1, 1, 1, 1, 1, 0] (Yba.f3.body.getD .skip)) (.seq (nav [1, 1, 1, 1, 1, 1, 0] (Yba.f3.body.getD .skip)) (.seq (nav [1, 1, 1, 1, 1, 1, 1, 0] (Yba.f3.body.getD .skip)) (.seq (nav [1, 1, 1, 1, 1, 1, 1, 1, 0] (Yba.f3.body.getD .skip)) (.seq (nav [1, 1, 1, 1, 1, 1, 1, 1, 1, 0] (Yba.f3.body.getD .skip)) (.seq (nav [1, 1, 1, 1, 1, 1, 1, 1, 1, 1, 0] (Yba.f3.body.getD .skip)) (.seq (nav [1, 1, 1, 1, 1, 1, 1, 1, 1, 1, 1, 0] (Yba.f3.body.getD .skip)) (.seq (nav [1, 1, 1, 1, 1, 1, 1, 1, 1, 1, 1, 1, 0] (Yba.f3.body.getD .skip)) (.seq (nav [1, 1, 1, 1, 1, 1, 1, 1, 1, 1, 1, 1, 1, 0] (Yba.f3.body.getD .skip)) (.seq (nav [1, 1, 1, 1, 1, 1, 1, 1, 1, 1, 1, 1, 1, 1, 0] (Yba.f3.body.getD .skip)) (.seq (nav [1, 1, 1, 1, 1, 1, 1, 1, 1, 1, 1, 1, 1, 1, 1, 0] (Yba.f3.body.getD .skip)) (.seq (nav [1, 1, 1, 1, 1, 1, 1, 1, 1, 1, 1, 1, 1, 1, 1, 1, 0] (Yba.f3.body.getD .skip)) (.seq (nav [1, 1, 1, 1, 1, 1, 1, 1, 1, 1, 1, 1, 1, 1, 1, 1, 1, 0] (Yba.f3.body.getD .skip)) (.seq (nav [1, 1, 1, 1, 1, 1, 1, 1, 1, 1, 1, 1, 1, 1, 1, 1, 1, 1, 0] (Yba.f3.body.getD .skip)) (.seq (nav [1, 1, 1, 1, 1, 1, 1, 1, 1, 1, 1, 1, 1, 1, 1, 1, 1, 1, 1, 0] (Yba.f3.body.getD .skip)) (.seq (nav [1, 1, 1, 1, 1, 1, 1, 1, 1, 1, 1, 1, 1, 1, 1, 1, 1, 1, 1, 1, 0] (Yba.f3.body.getD .skip)) (.seq (nav [1, 1, 1, 1, 1, 1, 1, 1, 1, 1, 1, 1, 1, 1, 1, 1, 1, 1, 1, 1, 1, 0] (Yba.f3.body.getD .skip)) (.seq (nav [1, 1, 1, 1, 1, 1, 1, 1, 1, 1, 1, 1, 1, 1, 1, 1, 1, 1, 1, 1, 1, 1, 0] (Yba.f3.body.getD .skip)) (.seq (nav [1, 1, 1, 1, 1, 1, 1, 1, 1, 1, 1, 1, 1, 1, 1, 1, 1, 1, 1, 1, 1, 1, 1, 0] (Yba.f3.body.getD .skip)) (.seq (nav [1, 1, 1, 1, 1, 1, 1, 1, 1, 1, 1, 1, 1, 1, 1, 1, 1, 1, 1, 1, 1, 1, 1, 1, 0] (Yba.f3.body.getD .skip)) (.seq (nav [1, 1, 1, 1, 1, 1, 1, 1, 1, 1, 1, 1, 1, 1, 1, 1, 1, 1, 1, 1, 1, 1, 1, 1, 1, 0] (Yba.f3.body.getD .skip)) (.seq (nav [1, 1, 1, 1, 1, 1, 1, 1, 1, 1, 1, 1, 1, 1, 1, 1, 1, 1, 1, 1, 1, 1, 1, 1, 1, 1, 0] (Yba.f3.body.getD .skip)) (.seq (nav [1, 1, 1, 1, 1, 1, 1, 1, 1, 1, 1, 1, 1, 1, 1, 1, 1, 1, 1, 1, 1, 1, 1, 1, 1, 1, 1, 0] (Yba.f3.body.getD .skip)) (.seq (nav [1, 1, 1, 1, 1, 1, 1, 1, 1, 1, 1, 1, 1, 1, 1, 1, 1, 1, 1, 1, 1, 1, 1, 1, 1, 1, 1, 1, 0] (Yba.f3.body.getD .skip)) (.seq (nav [1, 1, 1, 1, 1, 1, 1, 1, 1, 1, 1, 1, 1, 1, 1, 1, 1, 1, 1, 1, 1, 1, 1, 1, 1, 1, 1, 1, 1, 0] (Yba.f3.body.getD .skip)) (.seq (nav [1, 1, 1, 1, 1, 1, 1, 1, 1, 1, 1, 1, 1, 1, 1, 1, 1, 1, 1, 1, 1, 1, 1, 1, 1, 1, 1, 1, 1, 1, 0] (Yba.f3.body.getD .skip)) (.seq (nav [1, 1, 1, 1, 1, 1, 1, 1, 1, 1, 1, 1, 1, 1, 1, 1, 1, 1, 1, 1, 1, 1, 1, 1, 1, 1, 1, 1, 1, 1, 1, 0] (Yba.f3.body.getD .skip)) (.seq (nav [1, 1, 1, 1, 1, 1, 1, 1, 1, 1, 1, 1, 1, 1, 1, 1, 1, 1, 1, 1, 1, 1, 1, 1, 1, 1, 1, 1, 1, 1, 1, 1, 0] (Yba.f3.body.getD .skip)) (.seq (nav [1, 1, 1, 1, 1, 1, 1, 1, 1, 1, 1, 1, 1, 1, 1, 1, 1, 1, 1, 1, 1, 1, 1, 1, 1, 1, 1, 1, 1, 1, 1, 1, 1, 0] (Yba.f3.body.getD .skip)) (.seq (nav [1, 1, 1, 1, 1, 1, 1, 1, 1, 1, 1, 1, 1, 1, 1, 1, 1, 1, 1, 1, 1, 1, 1, 1, 1, 1, 1, 1, 1, 1, 1, 1, 1, 1, 0] (Yba.f3.body.getD .skip)) (.seq (nav [1, 1, 1, 1, 1, 1, 1, 1, 1, 1, 1, 1, 1, 1, 1, 1, 1, 1, 1, 1, 1, 1, 1, 1, 1, 1, 1, 1, 1, 1, 1, 1, 1, 1, 1, 0] (Yba.f3.body.getD .skip)) (.seq (nav [1, 1, 1, 1, 1, 1, 1, 1, 1, 1, 1, 1, 1, 1, 1, 1, 1, 1, 1, 1, 1, 1, 1, 1, 1, 1, 1, 1, 1, 1, 1, 1, 1, 1, 1, 1, 0] (Yba.f3.body.getD .skip)) (.seq (nav [1, 1, 1, 1, 1, 1, 1, 1, 1, 1, 1, 1, 1, 1, 1, 1, 1, 1, 1, 1, 1, 1, 1, 1, 1, 1, 1, 1, 1, 1, 1, 1, 1, 1, 1, 1, 1, 0] (Yba.f3.body.getD .skip)) (.seq (nav [1, 1, 1, 1, 1, 1, 1, 1, 1, 1, 1, 1, 1, 1, 1, 1, 1, 1, 1, 1, 1, 1, 1, 1, 1, 1, 1, 1, 1, 1, 1, 1, 1, 1, 1, 1, 1, 1, 0] (Yba.f3.body.getD .skip)) (.seq (nav [1, 1, 1, 1, 1, 1, 1, 1, 1, 1, 1, 1, 1, 1, 1, 1, 1, 1, 1, 1, 1, 1, 1, 1, 1, 1, 1, 1, 1, 1, 1, 1, 1, 1, 1, 1, 1, 1, 1, 0] (Yba.f3.body.getD .skip)) (.seq (nav [1, 1, 1, 1, 1, 1, 1, 1, 1, 1, 1, 1, 1, 1, 1, 1, 1, 1, 1, 1, 1, 1, 1, 1, 1, 1, 1, 1, 1, 1, 1, 1, 1, 1, 1, 1, 1, 1, 1, 1, 0] (Yba.f3.body.getD .skip)) (.seq (nav [1, 1, 1, 1, 1, 1, 1, 1, 1, 1, 1, 1, 1, 1, 1, 1, 1, 1, 1, 1, 1, 1, 1, 1, 1, 1, 1, 1, 1, 1, 1, 1, 1, 1, 1, 1, 1, 1, 1, 1, 1, 0] (Yba.f3.body.getD .skip)) (.seq (nav [1, 1, 1, 1, 1, 1, 1, 1, 1, 1, 1, 1, 1, 1, 1, 1, 1, 1, 1, 1, 1, 1, 1, 1, 1, 1, 1, 1, 1, 1, 1, 1, 1, 1, 1, 1, 1, 1, 1, 1, 1, 1, 0] (Yba.f3.body.getD .skip)) (nav [1, 1, 1, 1, 1, 1, 1, 1, 1, 1, 1, 1, 1, 1, 1, 1, 1, 1, 1, 1, 1, 1, 1, 1, 1, 1, 1, 1, 1, 1, 1, 1, 1, 1, 1, 1, 1, 1, 1, 1, 1, 1, 1] (Yba.f3.body.getD .skip))))))))))))))))))))))))))))))))))))))))))))) := by kernel_rfl
set_option maxRecDepth 100000 in
theorem f3_enter (a0 a1 a2 a3 a4 a5 a6 a7 a8 a9 : Value) : Fx (#[a0, a1, a2, a3, a4, a5, a6, a7, a8, a9] ++ Array.replicate (Yba.f3.ntmps - #[a0, a1, a2, a3, a4, a5, a6, a7, a8, a9].size) undef) a0 a1 a2 a3 a4 a5 a6 a7 a8 a9 undef undef undef undef undef undef undef undef undef undef undef undef undef undef undef undef undef undef undef undef undef undef undef undef undef undef undef undef undef undef undef undef undef undef undef undef undef undef undef undef undef undef := by
  rw [Yba.ntmps3]; exact Fx.mk (by kernel_rfl) (by kernel_rfl) (by kernel_rfl) (by kernel_rfl) (by kernel_rfl) (by kernel_rfl) (by kernel_rfl) (by kernel_rfl) (by kernel_rfl) (by kernel_rfl) (by kernel_rfl) (by kernel_rfl) (by kernel_rfl) (by kernel_rfl) (by kernel_rfl) (by kernel_rfl) (by kernel_rfl) (by kernel_rfl) (by kernel_rfl) (by kernel_rfl) (by kernel_rfl) (by kernel_rfl) (by kernel_rfl) (by kernel_rfl) (by kernel_rfl) (by kernel_rfl) (by kernel_rfl) (by kernel_rfl) (by kernel_rfl) (by kernel_rfl) (by kernel_rfl) (by kernel_rfl) (by kernel_rfl) (by kernel_rfl) (by kernel_rfl) (by kernel_rfl) (by kernel_rfl) (by kernel_rfl) (by kernel_rfl) (by kernel_rfl) (by kernel_rfl) (by kernel_rfl) (by kernel_rfl) (by kernel_rfl) (by kernel_rfl) (by kernel_rfl) (by kernel_rfl) (by kernel_rfl) (by kernel_rfl) (by kernel_rfl) (by kernel_rfl) (by kernel_rfl) (by kernel_rfl)

theorem tk_bd (a : Int) (h : a ≤ 9223372036854775807) : ∃ n : Nat, tkV a = (n : Int) ∧ 0 < n ∧ n ≤ 9223372036854775807 := by
  refine ⟨(tkV a).toNat, ?_, ?_, ?_⟩ <;> (unfold tkV; split <;> omega)
theorem nn_nat (a : Int) (h1 : -9223372036854775808 ≤ a) (h2 : a ≤ 9223372036854775807) : ∃ n : Nat, nnV a = (n : Int) ∧ n < 9223372036854775808 := by
  have := nnV_bd a h1 h2
  exact ⟨(nnV a).toNat, by omega, by omega⟩
set_option maxHeartbeats 2000000 in
theorem main (a0 a1 d sq a8 a9 : Int) (k : Nat) (cl hc fl : Bool) (w : World) (l_a0 : -9223372036854775808 ≤ a0) (u_a0 : a0 ≤ 9223372036854775807) (l_a1 : -9223372036854775808 ≤ a1) (u_a1 : a1 ≤ 9223372036854775807) (l_d : -9223372036854775808 ≤ d) (u_d : d ≤ 9223372036854775807) (l_a8 : -9223372036854775808 ≤ a8) (u_a8 : a8 ≤ 9223372036854775807) (l_a9 : -9223372036854775808 ≤ a9) (u_a9 : a9 ≤ 9223372036854775807) (hk : k < 256) :
    Calls Yba.prog 3 #[.int .i64 a0, .int .i64 a1, .int .i64 d, .int .u64 sq, .int .u8 k, .bool cl, .bool hc, .bool fl, .int .i64 a8, .int .i64 a9] w fun e w' => e = .returned (.bool true) ∧ Chg w w' (fun _ => False) := by
  obtain ⟨tick, etk, ht, ht2⟩ := tk_bd a0 u_a0
  obtain ⟨off, eoff, ho⟩ := nn_nat a1 l_a1 u_a1
  obtain ⟨t0, et0, ht0⟩ := nn_nat a8 l_a8 u_a8
  obtain ⟨oT, eoT, hoT⟩ := nn_nat a9 l_a9 u_a9
  have hm3 : k % 3 < 3 := Nat.mod_lt _ (by omega)
  refine calls_of_wp Yba.func3 f3_body ?_
  rw [c0on]
  have f0 := f3_enter (Value.int .i64 a0) (Value.int .i64 a1) (Value.int .i64 d) (Value.int .u64 sq) (Value.int .u8 k) (Value.bool cl) (Value.bool hc) (Value.bool fl) (Value.int .i64 a8) (Value.int .i64 a9)
  generalize hA : (#[Value.int .i64 a0, Value.int .i64 a1, Value.int .i64 d, Value.int .u64 sq, Value.int .u8 k, Value.bool cl, Value.bool hc, Value.bool fl, Value.int .i64 a8, Value.int .i64 a9] ++ Array.replicate (Yba.f3.ntmps - #[Value.int .i64 a0, Value.int .i64 a1, Value.int .i64 d, Value.int .u64 sq, Value.int .u8 k, Value.bool cl, Value.bool hc, Value.bool fl, Value.int .i64 a8, Value.int .i64 a9].size) undef) = arr0 at f0 ⊢
  clear hA
  refine seq_B (st0  arr0 w _ _ _ _ _ _ _ _ _ _ _ _ _ _ _ _ _ _ _ _ _ _ _ _ _ _ _ _ _ _ _ _ _ _ _ _ _ _ _ _ _ _ _ _ _ _ _ _ _ _ _ _ _ _ _ f0 (fun arr1 f1 => ?_))
  refine t1 a0 _ arr1 w _ _ _ _ _ _ _ _ _ _ _ _ _ _ _ _ _ _ _ _ _ _ _ _ _ _ _ _ _ _ _ _ _ _ _ _ _ _ _ _ _ _ _ _ _ _ _ _ _ _ _ _ l_a0 f1 (fun arr2 f2 => ?_)
  rw [etk] at f2
  refine seq_B (st2 a1 _ arr2 w _ _ _ _ _ _ _ _ _ _ _ _ _ _ _ _ _ _ _ _ _ _ _ _ _ _ _ _ _ _ _ _ _ _ _ _ _ _ _ _ _ _ _ _ _ _ _ _ _ _ _ _ _ _ (nn_any a1 w l_a1 u_a1) f2 (fun arr3 f3 => ?_))
  refine seq_B (st3 a8 _ arr3 w _ _ _ _ _ _ _ _ _ _ _ _ _ _ _ _ _ _ _ _ _ _ _ _ _ _ _ _ _ _ _ _ _ _ _ _ _ _ _ _ _ _ _ _ _ _ _ _ _ _ _ _ _ _ (nn_any a8 w l_a8 u_a8) f3 (fun arr4 f4 => ?_))
  refine seq_B (st4 a9 _ arr4 w _ _ _ _ _ _ _ _ _ _ _ _ _ _ _ _ _ _ _ _ _ _ _ _ _ _ _ _ _ _ _ _ _ _ _ _ _ _ _ _ _ _ _ _ _ _ _ _ _ _ _ _ _ _ (nn_any a9 w l_a9 u_a9) f4 (fun arr5 f5 => ?_))
  rw [eoff, et0, eoT] at f5
  refine seq_B (st5 k _ arr5 w _ _ _ _ _ _ _ _ _ _ _ _ _ _ _ _ _ _ _ _ _ _ _ _ _ _ _ _ _ _ _ _ _ _ _ _ _ _ _ _ _ _ _ _ _ _ _ _ _ _ _ _ _ _ hk rfl f5 (fun arr6 f6 => ?_))
  refine t6 (k % 3) hc fl _ arr6 w _ _ _ _ _ _ _ _ _ _ _ _ _ _ _ _ _ _ _ _ _ _ _ _ _ _ _ _ _ _ _ _ _ _ _ _ _ _ _ _ _ _ _ _ _ _ _ _ _ _ f6 (fun arr7 f7 => ?_)
  generalize hM : k % 3 = m at *
  refine ph7 tick off m t0 oT d sq cl hc (decide (m = 0) && hc && fl) arr7 w _ _ _ _ _ _ _ _ _ _ _ _ _ _ _ _ _ _ _ _ _ _ _ _ _ _ _ _ _ _ _ _ _ _ _ _ _ _ _ _ _ _ _ hm3 (fun h => by simp [h]) (fun h => by simp [h]) ht0 hoT f7 (fun w' h => ⟨rfl, h⟩) ho l_d u_d ht ht2

end Go.Proofs.Ybulkdgza
