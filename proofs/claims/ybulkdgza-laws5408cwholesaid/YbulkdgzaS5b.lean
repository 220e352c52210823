/-
  LawS5408CWhole, its statement 22, the wheel being closed.
-/
import Derived.Test.YbulkdgzaS5
import Derived.Test.YbulkdgzaS5a
import Derived.Deep.QuietTactic
import Derived.BigQuiet
namespace Go.Proofs.Ybulkdgza
open Go.RowKit B
set_option linter.unusedVariables false
set_option linter.unusedSimpArgs false

theorem guard51 : Yba.prog.eqGuardType Yba.prog.depth 51 = false := by kernel_rfl
theorem guard46 : Yba.prog.eqGuardType Yba.prog.depth 46 = false := by kernel_rfl
section
variable {P : Program} {ops : Array Oper} {C : World → Prop} {Q : Act → Prop} {rest : List Oper} {a : Act} {dst : Option Tmp} {ty ty2 : TypeId} {pos : String} {aft : Array Edge} {g : Option (Nat × Bool)}
theorem q_ld {t : TypeId} {p : Operand} {x v : Value} (hw : Region.wanted { dst := dst, op := .load t p, type := ty, pos := pos, after := aft, guard := g } (yielded ops a.tmps) = true) (hx : a.eval p = x) (hl : ∀ w, C w → (Instr.loadAt t x).run P w = .ok v w) (hk : wpQuiet P ops C Q rest (a.put dst v)) :
    wpQuiet P ops C Q ({ dst := dst, op := .load t p, type := ty, pos := pos, after := aft, guard := g } :: rest) a := by
  unfold wpQuiet
  rw [if_pos hw]
  refine ⟨v, fun w hC => ?_, hk⟩
  unfold Oper.quietAt
  have : (execOp a.eval { dst := dst, op := .load t p, type := ty, pos := pos, after := aft, guard := g }).run P w = .ok (.value v) w := by
    simp only [execOp, hx, Sem.run_bind, hl w hC, Result.andThen_ok]; rfl
  rw [this]; exact ⟨rfl, rfl⟩
theorem q_eq {op : BinOp} {t : TypeId} {p q : Operand} {xs ys : Array Value} {v : Value} (hw : Region.wanted { dst := dst, op := .binOp op t p q ty2, type := ty, pos := pos, after := aft, guard := g } (yielded ops a.tmps) = true) (hx : a.eval p = .agg xs) (hy : a.eval q = .agg ys) (hm : P.eqGuardType P.depth t = false) (hl : ∀ w, C w → (binOp op t (.agg xs) (.agg ys)).run P w = .ok v w) (hk : wpQuiet P ops C Q rest (a.put dst v)) :
    wpQuiet P ops C Q ({ dst := dst, op := .binOp op t p q ty2, type := ty, pos := pos, after := aft, guard := g } :: rest) a := by
  unfold wpQuiet
  rw [if_pos hw]
  refine ⟨v, fun w hC => ?_, hk⟩
  unfold Oper.quietAt
  have : (execOp a.eval { dst := dst, op := .binOp op t p q ty2, type := ty, pos := pos, after := aft, guard := g }).run P w = .ok (.value v) w := by
    simp only [execOp, hx, hy, Sem.run_bind, run_eqGuard_agg w op t p q xs ys hm, hl w hC, Result.andThen_ok]; rfl
  rw [this]; exact ⟨rfl, rfl⟩
theorem q_hide {l : List Oper} {a0 : Act} (h : ∀ K : Act → Prop, (∀ a, wpQuiet P ops C Q l a → K a) → K a0) : wpQuiet P ops C Q l a0 := h _ (fun _ h => h)
end

set_option maxRecDepth 100000 in
set_option maxHeartbeats 4000000 in
/-- closed: nothing has turned -/
theorem st22y (Cb Wb Tb g : Nat) (b : Bool) (f : Nat → Value) (sl : Value) (p dlen st dd tk sq ps : Int) (x7 x8 : Option Addr) (arr : Array Value) (w : World) (K : Act → World → Prop) (Q : Exit → Act → World → Prop) (R : Ending → World → Prop) (v0 v1 v2 v3 v4 v6 v8 v9 v10 v11 v12 v13 v14 v15 v16 v17 v18 v19 v20 v21 v22 v26 v27 v39 v40 v41 v42 v43 v44 v45 v46 v47 v48 v49 v50 v51 : Value)
    (cc : w.cell? ⟨Cb, 4, none⟩ = some (.int .i64 0)) (c726 : w.cell? ⟨Wb, 726, none⟩ = some (.int .i64 p)) (c725 : w.cell? ⟨Wb, 725, none⟩ = some sl) (c10 : w.cell? ⟨Tb, 10, none⟩ = some (.int .u8 st)) (c4 : w.cell? ⟨Tb, 4, none⟩ = some (.int .i64 dd)) (c5 : w.cell? ⟨Tb, 5, none⟩ = some (.int .i64 tk)) (c6 : w.cell? ⟨Tb, 6, none⟩ = some (.int .u64 sq)) (c9 : w.cell? ⟨Tb, 9, none⟩ = some (.int .i32 ps)) (c7 : w.cell? ⟨Tb, 7, none⟩ = some (.pointer x7)) (c8 : w.cell? ⟨Tb, 8, none⟩ = some (.pointer x8)) (C : Array Value) (hl1 : Hid (∀ q, (Instr.loadAt 51 (.pointer (some ⟨Wb, 9, none⟩))).run Yba.prog (w.drewN q) = .ok (.agg C) (w.drewN q))) (hl2 : Hid (∀ q, (Instr.loadAt 51 (.pointer (some ⟨g, 0, none⟩))).run Yba.prog (w.drewN q) = .ok (.agg C) (w.drewN q))) (he : Hid (∀ q, (binOp .eql 51 (.agg C) (.agg C)).run Yba.prog (w.drewN q) = .ok (.bool true) (w.drewN q))) (hlen : ∀ W ty, (Builtin.len_ #[53] ty #[sl]).run Yba.prog W = .ok (.int .i64 dlen) W)
    (hs : Fx arr v0 v1 v2 v3 v4 (.bool true) v6 (.bool b) v8 v9 v10 v11 v12 v13 v14 v15 v16 v17 v18 v19 v20 v21 v22 (.pointer (some ⟨Cb, 0, none⟩)) (.pointer (some ⟨Wb, 0, none⟩)) (.pointer (some ⟨Tb, 0, none⟩)) v26 v27 (.pointer (some ⟨g, 0, none⟩)) (.int .i64 p) (.int .i64 dlen) (.int .u8 st) (.int .i64 dd) (.int .i64 tk) (.int .u64 sq) (.int .i32 ps) (.pointer x7) (.pointer x8) (.bool b) v39 v40 v41 v42 v43 v44 v45 v46 v47 v48 v49 v50 v51)
    (HQ : Hid (∀ arr' w', Fx arr' v0 v1 v2 v3 v4 (.bool true) v6 (.bool b) v8 v9 v10 v11 v12 v13 v14 v15 v16 v17 v18 v19 (.bool true) v21 v22 (.pointer (some ⟨Cb, 0, none⟩)) (.pointer (some ⟨Wb, 0, none⟩)) (.pointer (some ⟨Tb, 0, none⟩)) v26 v27 (.pointer (some ⟨g, 0, none⟩)) (.int .i64 p) (.int .i64 dlen) (.int .u8 st) (.int .i64 dd) (.int .i64 tk) (.int .u64 sq) (.int .i32 ps) (.pointer x7) (.pointer x8) (.bool b) v39 v40 v41 v42 v43 v44 v45 v46 v47 v48 v49 v50 v51 → (∃ q, w' = w.drewN q) → Q .ret ⟨arr', []⟩ w')) :
    Code.wp Yba.prog (nav [1, 1, 1, 1, 1, 1, 1, 1, 1, 1, 1, 1, 1, 1, 1, 1, 1, 1, 1, 1, 1, 1, 0] (Yba.f3.body.getD .skip)) (Exit.then K (Qp Q R)) ⟨arr, []⟩ w := by
  refine hs.open (fun t => ?_)
  clear hs
  conv => arg 2; whnf
  go_wp2
  have e7 := eql_same x7
  have e8 := eql_same x8
  have HL1 : Hid (∀ w', (∃ n, w' = w.drewN n) → (Instr.loadAt 51 (.pointer (some ⟨Wb, 9, none⟩))).run Yba.prog w' = .ok (.agg C) w') := fun w' h => by obtain ⟨q, rfl⟩ := h; exact hl1.out q
  have HL2 : Hid (∀ w', (∃ n, w' = w.drewN n) → (Instr.loadAt 51 (.pointer (some ⟨g, 0, none⟩))).run Yba.prog w' = .ok (.agg C) w') := fun w' h => by obtain ⟨q, rfl⟩ := h; exact hl2.out q
  have HE : Hid (∀ w', (∃ n, w' = w.drewN n) → (binOp .eql 51 (.agg C) (.agg C)).run Yba.prog w' = .ok (.bool true) w') := fun w' h => by obtain ⟨q, rfl⟩ := h; exact he.out q
  clear hl1 hl2 he
  refine wp_region_quiet_lit (by kernel_rfl) lex39 ?_
  simp only [List.append]
  iterate 14 (go_big_quiet_step (fail))
  refine q_ld (x := .pointer (some ⟨Wb, 9, none⟩)) (v := .agg C) rfl rfl HL1.out ?_
  refine q_ld (x := .pointer (some ⟨g, 0, none⟩)) (v := .agg C) rfl rfl HL2.out ?_
  refine q_eq (xs := C) (ys := C) (v := .bool true) rfl rfl rfl guard51 HE.out ?_
  clear HL1 HL2 HE
  refine q_hide (fun K hK => ?_)
  go_simp
  refine hK _ ?_
  clear hK K
  repeat (go_big_quiet_step (fail))
  refine wpQuiet_nil ?_
  intro _ hw'
  obtain ⟨nq, hw''⟩ := hw'
  subst hw''
  go_wp2
  refine HQ.out _ _ ?_ ⟨nq, rfl⟩
  exact (Fx.mk rfl rfl rfl rfl rfl rfl rfl rfl rfl rfl rfl rfl rfl rfl rfl rfl rfl rfl rfl rfl rfl rfl rfl rfl rfl rfl rfl rfl rfl rfl rfl rfl rfl rfl rfl rfl rfl rfl rfl rfl rfl rfl rfl rfl rfl rfl rfl rfl rfl rfl rfl rfl rfl)

end Go.Proofs.Ybulkdgza
