/-
  LawS5409AWhole, its statement 5: the drawn statement of the round.
-/
import Derived.Test.YbulkdgzoFr
namespace Go.Proofs.Ybulkdgzo
open Go.RowKit
set_option linter.unusedVariables false
set_option linter.unusedSimpArgs false

/-- The row of cells of a block. -/
def rowAt (W : World) (g : Nat) : Array Value := match W.heap[g]? with | some (.cells c _ _) => c | _ => #[]
/-- An append, by its run. -/
theorem op_append {ty : TypeId} {pos : String} {aft : Array Edge} {d : Option Tmp} {a : Act} {w w' : World} {K' : Act → World → Prop} {Q : Exit → Act → World → Prop} {c : Bool} (v1 v2 v' : Value)
    (hc : c = true) (hs : a.eval (.tmp 48) = v1) (hx : a.eval (.tmp 64) = v2) (hrun : (Builtin.append_ #[27, 27] ty #[v1, v2]).run Yba.prog w = .ok v' w') (hK : K' (a.put d v') w') :
    if c = true then Oper.wp Yba.prog { dst := d, op := Op.call { callee := Callee.builtin Builtin.append, args := #[.tmp 48, .tmp 64], argTypes := #[27, 27] }, type := ty, pos := pos, after := aft, guard := none } a w K' Q else K' (a.put d undef) w := by
  rw [if_pos hc]
  unfold Oper.wp
  simp [execOp, resolve, invoke, builtin, hs, hx, hrun, Result.andThen]
  exact hK
/-- The row with one more element (two cells) at place k. -/
def appRow (cur : Array Value) (k : Nat) (x y : Value) : Array Value := (cur.toList.take (k * 2) ++ [x, y] ++ cur.toList.drop (k * 2 + 2)).toArray

set_option maxRecDepth 100000 in
set_option maxHeartbeats 4000000 in
/-- v = append(v, ..) -/
theorem r17 (b o n cp vb k ni ci : Nat) (a xo : Option Addr) (dq : Int) (Kp : World → Prop) (G : Option Addr → Nat → World → Prop) (arr : Array Value) (w : World) (K : Act → World → Prop) (Q : Exit → Act → World → Prop) (R : Ending → World → Prop) (v1 v2 v3 v4 v8 v9 v10 v11 : Value)
    (hn : n ≤ 1048576) (hk : k < n) (c1 : w.cell? ⟨b, o + k * 3 + 1, none⟩ = some (.int .i64 dq)) (c2 : w.cell? ⟨b, o + k * 3 + 2, none⟩ = some (.slice a ni ci)) (hb : ¬ b = vb) (hK : Kp w)
    (kd : ∀ W, Kp W → Kp W.drew) (ka : ∀ W o, Kp W → Kp (W.alloc o)) (ks : ∀ W x y, Kp W → Kp (W.setRow vb (appRow (rowAt W vb) k x y)))
    (kap : ∀ (X : World) (g q c : Nat) (ty : TypeId), ((X.alloc (.cells #[.pointer xo, .pointer (some ⟨q, 0, none⟩)] 49)).cell? ⟨b, o + k * 3 + 1, none⟩ = some (.int .i64 dq) ∧ (X.alloc (.cells #[.pointer xo, .pointer (some ⟨q, 0, none⟩)] 49)).cell? ⟨b, o + k * 3 + 2, none⟩ = some (.slice a ni ci) ∧ Kp (X.alloc (.cells #[.pointer xo, .pointer (some ⟨q, 0, none⟩)] 49))) → g = X.heap.size → (Builtin.append_ #[27, 27] ty #[.slice (some ⟨vb, 0, none⟩) k n, .slice (some ⟨g, 0, none⟩) 1 c]).run Yba.prog (X.alloc (.cells #[.pointer xo, .pointer (some ⟨q, 0, none⟩)] 49)) = .ok (.slice (some ⟨vb, 0, none⟩) (k + 1) n) ((X.alloc (.cells #[.pointer xo, .pointer (some ⟨q, 0, none⟩)] 49)).setRow vb (appRow (rowAt (X.alloc (.cells #[.pointer xo, .pointer (some ⟨q, 0, none⟩)] 49)) vb) k (.pointer xo) (.pointer (some ⟨q, 0, none⟩)))))
    (HA : Hid (∀ W, (W.cell? ⟨b, o + k * 3 + 1, none⟩ = some (.int .i64 dq) ∧ W.cell? ⟨b, o + k * 3 + 2, none⟩ = some (.slice a ni ci) ∧ Kp W) → Calls Yba.prog 5 #[.slice a ni ci] W (fun e W' => ∃ ga gc, e = .returned (.slice ga ni gc) ∧ (W'.cell? ⟨b, o + k * 3 + 1, none⟩ = some (.int .i64 dq) ∧ W'.cell? ⟨b, o + k * 3 + 2, none⟩ = some (.slice a ni ci) ∧ Kp W') ∧ G ga gc W')))
    (hs : Fx arr (.slice (some ⟨b, o, none⟩) n cp) v1 v2 v3 v4 (.slice (some ⟨vb, 0, none⟩) k n) (.int .i64 k) (.pointer xo) v8 v9 v10 v11)
    (HQ : Hid (∀ arr' ga gc W1, Fx arr' (.slice (some ⟨b, o, none⟩) n cp) v1 v2 v3 v4 (.slice (some ⟨vb, 0, none⟩) (k + 1) n) (.int .i64 k) (.pointer xo) v8 v9 v10 v11 → G ga gc W1 → K ⟨arr', []⟩ (((W1.alloc (.cells #[.slice ga ni gc, .int .i64 dq] 47)).alloc (.cells #[.pointer xo, .pointer (some ⟨W1.heap.size, 0, none⟩)] 49)).setRow vb (appRow (rowAt ((W1.alloc (.cells #[.slice ga ni gc, .int .i64 dq] 47)).alloc (.cells #[.pointer xo, .pointer (some ⟨W1.heap.size, 0, none⟩)] 49)) vb) k (.pointer xo) (.pointer (some ⟨W1.heap.size, 0, none⟩)))))) :
    Code.wp Yba.prog (nav [1, 1, 1, 1, 1, 0, 1, 2, 2, 1, 0, 2, 1, 1] (Yba.f3.body.getD .skip)) (Exit.then K (Qp Q R)) ⟨arr, []⟩ w := by
  refine hs.open (fun t => ?_)
  clear hs
  conv => arg 2; whnf
  have hk' : (k : Int) < (n : Int) := by omega
  have hrow : ∀ (W : World) (r : Array Value) (x : Nat), (W.setRow vb r).cell? ⟨b, x, none⟩ = W.cell? ⟨b, x, none⟩ := fun W r x => World.cell?_of_block (setRow_other W vb b r hb)
  go_wp2
  go_region_held3 (fun w' => w'.cell? ⟨b, o + k * 3 + 1, none⟩ = some (.int .i64 dq) ∧ w'.cell? ⟨b, o + k * 3 + 2, none⟩ = some (.slice a ni ci) ∧ Kp w') (simp [*, World.cell?_alloc_some]) (first | (refine op_append _ _ _ rfl rfl rfl (kap _ _ _ _ _ (by assumption) (by simp)) ?_) | (go_at_call 5; refine Calls.mono (HA.out _ (by assumption)) ?_; rintro e W1 ⟨ga, gc, rfl, ⟨d1, d2, d3⟩, d4⟩))
  go_wp2
  exact HQ.out _ _ _ _ (Fx.mk rfl rfl rfl rfl rfl rfl rfl rfl rfl rfl rfl rfl rfl) (by assumption)

end Go.Proofs.Ybulkdgzo
