/-
  LawS5409AWhole: the loops.
-/
import Derived.Test.YbulkdgzoS3
namespace Go.Proofs.Ybulkdgzo
open Go.RowKit
set_option linter.unusedVariables false
set_option linter.unusedSimpArgs false
theorem c5a : nav [1, 1, 1, 1, 1, 0, 1, 2, 2] (Yba.f3.body.getD .skip) = .seq (nav [1, 1, 1, 1, 1, 0, 1, 2, 2, 0] (Yba.f3.body.getD .skip)) (.seq (.block 3 (.seq (nav [1, 1, 1, 1, 1, 0, 1, 2, 2, 1, 0, 2, 0] (Yba.f3.body.getD .skip)) (.seq (nav [1, 1, 1, 1, 1, 0, 1, 2, 2, 1, 0, 2, 1, 0] (Yba.f3.body.getD .skip)) (nav [1, 1, 1, 1, 1, 0, 1, 2, 2, 1, 0, 2, 1, 1] (Yba.f3.body.getD .skip))))) (nav [1, 1, 1, 1, 1, 0, 1, 2, 2, 1, 1] (Yba.f3.body.getD .skip))) := by kernel_rfl
theorem c5 : nav [1, 1, 1, 1, 1, 0, 1] (Yba.f3.body.getD .skip) = .block 2 (.loop (nav [1, 1, 1, 1, 1, 0, 1, 2, 2] (Yba.f3.body.getD .skip))) := by kernel_rfl
theorem c2 : nav [1, 1, 0, 1] (Yba.f3.body.getD .skip) = .block 0 (.loop (nav [1, 1, 0, 1, 2, 2] (Yba.f3.body.getD .skip))) := by kernel_rfl
theorem c7 : nav [1, 1, 1, 1, 1, 1, 1, 0, 1] (Yba.f3.body.getD .skip) = .block 4 (.loop (nav [1, 1, 1, 1, 1, 1, 1, 0, 1, 2, 2] (Yba.f3.body.getD .skip))) := by kernel_rfl
theorem c11 : nav [1, 1, 1, 1, 1, 1, 1, 1, 1, 1, 1, 0, 1] (Yba.f3.body.getD .skip) = .block 6 (.loop (nav [1, 1, 1, 1, 1, 1, 1, 1, 1, 1, 1, 0, 1, 2, 2] (Yba.f3.body.getD .skip))) := by kernel_rfl
theorem c11a : nav [1, 1, 1, 1, 1, 1, 1, 1, 1, 1, 1, 0, 1, 2, 2] (Yba.f3.body.getD .skip) = .seq (nav [1, 1, 1, 1, 1, 1, 1, 1, 1, 1, 1, 0, 1, 2, 2, 0] (Yba.f3.body.getD .skip)) (.seq (.block 7 (.seq (nav [1, 1, 1, 1, 1, 1, 1, 1, 1, 1, 1, 0, 1, 2, 2, 1, 0, 2, 0] (Yba.f3.body.getD .skip)) (.seq (nav [1, 1, 1, 1, 1, 1, 1, 1, 1, 1, 1, 0, 1, 2, 2, 1, 0, 2, 1, 0] (Yba.f3.body.getD .skip)) (nav [1, 1, 1, 1, 1, 1, 1, 1, 1, 1, 1, 0, 1, 2, 2, 1, 0, 2, 1, 1] (Yba.f3.body.getD .skip))))) (nav [1, 1, 1, 1, 1, 1, 1, 1, 1, 1, 1, 0, 1, 2, 2, 1, 1] (Yba.f3.body.getD .skip))) := by kernel_rfl

theorem Vst.mv {w W W' : World} {vb n : Nat} {U : Nat → Lv} {k : Nat} {X : Nat → Option Addr} {qb : Nat → Nat} {ga : Nat → Option Addr} {gc : Nat → Nat} (h : Vst w W vb n U k X qb ga gc) (hc : Chg W W' (fun _ => False)) : Vst w W' vb n U k X qb ga gc := by
  refine ⟨h.row.chg hc (fun h => h), h.chg.trans (hc.mono (fun _ _ h => h.elim)), fun i hi => ?_, fun i hi h0 => ?_, h.x⟩
  · obtain ⟨h1, h2, h3⟩ := h.q i hi
    exact ⟨h1, (hc.cell (World.block_lt_of_cell? _ _ h2) (fun h => h)).trans h2, (hc.cell (World.block_lt_of_cell? _ _ h3) (fun h => h)).trans h3⟩
  · obtain ⟨g, h1, h2, h3⟩ := h.it i hi h0
    exact ⟨g, h1, h2, fun j hj => (hc.cell (World.block_lt_of_cell? _ _ (h3 j hj)) (fun h => h)).trans (h3 j hj)⟩
theorem of_below {w w' : World} (h : Below w.heap.size w w') : Chg w w' (fun _ => False) := ⟨h.os, h.tape, h.output, h.size, fun k hk _ => h.block k hk⟩

/-- One more level. -/
theorem Vst.step {w W : World} {vb n : Nat} {U : Nat → Lv} {k : Nat} {X : Nat → Option Addr} {qb : Nat → Nat} {ga : Nat → Option Addr} {gc : Nat → Nat} (h : Vst w W vb n U k X qb ga gc) (hk : k < n) (xo : Option Addr) (hxo : xo.isNone = !(U k).tx)
    {Z : World} (hc : Chg W Z (fun j => j = vb)) (hr : Row2 Z vb n k (vc X qb k)) {g : Option Addr} {c : Nat} (hit : 0 < (U k).n → ∃ gg, g = some ⟨gg, 0, none⟩ ∧ vb < gg ∧ ∀ j, j < (U k).n → Z.cell? ⟨gg, j, none⟩ = some (.int .i64 ((U k).f j))) :
    Vst w (((Z.alloc (.cells #[.slice g (U k).n c, .int .i64 (U k).dq] 47)).alloc (.cells #[.pointer xo, .pointer (some ⟨Z.heap.size, 0, none⟩)] 49)).setRow vb (appRow (rowAt ((Z.alloc (.cells #[.slice g (U k).n c, .int .i64 (U k).dq] 47)).alloc (.cells #[.pointer xo, .pointer (some ⟨Z.heap.size, 0, none⟩)] 49)) vb) k (.pointer xo) (.pointer (some ⟨Z.heap.size, 0, none⟩)))) vb n U (k + 1) (updN X k xo) (updN qb k Z.heap.size) (updN ga k g) (updN gc k c) := by
  have lt := hr.lt
  have n0 : (Z.alloc (.cells #[.slice g (U k).n c, .int .i64 (U k).dq] 47)).heap[Z.heap.size]? = some (.cells #[.slice g (U k).n c, .int .i64 (U k).dq] 47 (0, 0)) := by show (Z.heap.push _)[Z.heap.size]? = _; simp
  generalize hZ1 : (Z.alloc (.cells #[.slice g (U k).n c, .int .i64 (U k).dq] 47)) = Z1 at n0 ⊢
  have a1 : Chg Z Z1 (fun _ => False) := by rw [← hZ1]; exact (Chg.refl _ _).alloc _
  have l1 : Z.heap.size < Z1.heap.size := (Array.getElem?_eq_some_iff.1 n0).1
  have a2 : Chg Z1 (Z1.alloc (.cells #[.pointer xo, .pointer (some ⟨Z.heap.size, 0, none⟩)] 49)) (fun _ => False) := (Chg.refl _ _).alloc _
  generalize (Z1.alloc (.cells #[.pointer xo, .pointer (some ⟨Z.heap.size, 0, none⟩)] 49)) = Z2 at a2 ⊢
  have r2 := (hr.chg a1 (fun h => h)).chg a2 (fun h => h)
  have a3 : Chg Z2 (Z2.setRow vb (appRow (rowAt Z2 vb) k (.pointer xo) (.pointer (some ⟨Z.heap.size, 0, none⟩)))) (fun j => j = vb) := (Chg.refl Z2 (fun j => j = vb)).setRow rfl _
  obtain ⟨_, r3⟩ := r2.app hk (.pointer xo) (.pointer (some ⟨Z.heap.size, 0, none⟩))
  generalize (Z2.setRow vb (appRow (rowAt Z2 vb) k (.pointer xo) (.pointer (some ⟨Z.heap.size, 0, none⟩)))) = Z3 at a3 r3 ⊢
  have aZ : Chg Z Z3 (fun j => j = vb) := ((a1.mono (fun _ _ h => h.elim)).trans (a2.mono (fun _ _ h => h.elim))).trans a3
  have aW : Chg W Z3 (fun j => j = vb) := hc.trans aZ
  refine ⟨?_, h.chg.trans aW, fun i hi => ?_, fun i hi h0 => ?_, fun i hi => ?_⟩
  · have e : vc (updN X k xo) (updN qb k Z.heap.size) (k + 1) = vc X qb k ++ [.pointer xo, .pointer (some ⟨Z.heap.size, 0, none⟩)] := by
      rw [← vc_upd X qb k xo Z.heap.size k (Nat.le_refl _)]
      conv => lhs; unfold vc
      rw [updN_same, updN_same]
    rw [e]; exact r3
  · by_cases e : i = k
    · subst e
      rw [updN_same, updN_same, updN_same]
      have hne : ¬ (fun j => j = vb) Z.heap.size := fun e => by have e' : Z.heap.size = vb := e; omega
      have l2 : Z.heap.size < Z2.heap.size := Nat.lt_of_lt_of_le l1 a2.size
      refine ⟨lt, ?_, ?_⟩
      · rw [a3.cell l2 hne, a2.cell l1 (fun h => h), cell_of_row _ _ _ _ _ _ n0]; rfl
      · rw [a3.cell l2 hne, a2.cell l1 (fun h => h), cell_of_row _ _ _ _ _ _ n0]; rfl
    · rw [updN_ne _ _ _ _ e, updN_ne _ _ _ _ e, updN_ne _ _ _ _ e]
      obtain ⟨h1, h2, h3⟩ := h.q i (by omega)
      have hne : ¬ (fun j => j = vb) (qb i) := fun e => by have e' : qb i = vb := e; omega
      exact ⟨h1, (aW.cell (World.block_lt_of_cell? _ _ h2) hne).trans h2, (aW.cell (World.block_lt_of_cell? _ _ h3) hne).trans h3⟩
  · by_cases e : i = k
    · subst e
      rw [updN_same]
      obtain ⟨gg, h1, h2, h3⟩ := hit h0
      have hne : ¬ (fun j => j = vb) gg := fun e => by have e' : gg = vb := e; omega
      exact ⟨gg, h1, h2, fun j hj => (aZ.cell (World.block_lt_of_cell? _ _ (h3 j hj)) hne).trans (h3 j hj)⟩
    · rw [updN_ne _ _ _ _ e]
      obtain ⟨gg, h1, h2, h3⟩ := h.it i (by omega) h0
      have hne : ¬ (fun j => j = vb) gg := fun e => by have e' : gg = vb := e; omega
      exact ⟨gg, h1, h2, fun j hj => (aW.cell (World.block_lt_of_cell? _ _ (h3 j hj)) hne).trans (h3 j hj)⟩
  · by_cases e : i = k
    · subst e; rw [updN_same]; exact hxo
    · rw [updN_ne _ _ _ _ e]; exact h.x i (by omega)

set_option maxHeartbeats 1000000 in
/-- append, paid -/
theorem x17 (b o cp : Nat) (vb n : Nat) (U : Nat → Lv) (k : Nat) (X : Nat → Option Addr) (qb : Nat → Nat) (ga : Nat → Option Addr) (gc : Nat → Nat) (xo : Option Addr) (w0 : World) (arr : Array Value) (w : World) (K : Act → World → Prop) (Q : Exit → Act → World → Prop) (R : Ending → World → Prop) (v1 v2 v3 v4 v8 v9 v10 v11 : Value)
    (hn : n ≤ 1048576) (hk : k < n) (hv : Vst w0 w vb n U k X qb ga gc) (hL : Lvs w0 vb b o n U) (hB : vb < w0.heap.size) (hbig : (U k).n ≤ 1048576) (hxo : xo.isNone = !(U k).tx)
    (hs : Fx arr (.slice (some ⟨b, o, none⟩) n cp) v1 v2 v3 v4 (.slice (some ⟨vb, 0, none⟩) k n) (.int .i64 k) (.pointer xo) v8 v9 v10 v11)
    (HQ : ∀ arr' w', Fx arr' (.slice (some ⟨b, o, none⟩) n cp) v1 v2 v3 v4 (.slice (some ⟨vb, 0, none⟩) (k + 1) n) (.int .i64 k) (.pointer xo) v8 v9 v10 v11 → (∃ X' qb' ga' gc', Vst w0 w' vb n U (k + 1) X' qb' ga' gc') → K ⟨arr', []⟩ w') :
    Code.wp Yba.prog (nav [1, 1, 1, 1, 1, 0, 1, 2, 2, 1, 0, 2, 1, 1] (Yba.f3.body.getD .skip)) (Exit.then K (Qp Q R)) ⟨arr, []⟩ w := by
  have hL1 := hL.chg (Nat.le_of_lt hB) hv.chg (fun j hj e => by have e' : j = vb := e; omega)
  have lt := hv.row.lt
  refine r17 b o n cp vb k (U k).n (U k).cap (U k).a xo (U k).dq (fun Z => Chg w Z (fun j => j = vb) ∧ Row2 Z vb n k (vc X qb k)) (fun g c Z => (Chg w Z (fun j => j = vb) ∧ Row2 Z vb n k (vc X qb k)) ∧ (0 < (U k).n → ∃ gg, g = some ⟨gg, 0, none⟩ ∧ vb < gg ∧ ∀ j, j < (U k).n → Z.cell? ⟨gg, j, none⟩ = some (.int .i64 ((U k).f j)))) arr w _ _ _ _ _ _ _ _ _ _ _ hn hk (hL1.c1 k hk) (hL1.c2 k hk) (by have := hL.bB; omega) ⟨Chg.refl _ _, hv.row⟩ ?_ ?_ ?_ ?_ ?_ hs ?_
  · intro W h; exact ⟨h.1.drew, h.2⟩
  · intro W o h; exact ⟨h.1.alloc o, h.2.chg ((Chg.refl W (fun _ => False)).alloc o) (fun h => h)⟩
  · intro W x y h; exact ⟨h.1.setRow rfl _, (h.2.app hk x y).1⟩
  · intro X g q c ty h hg; exact append_run xo g q c ty hk h.2.2.2 hg
  · rintro Z ⟨z1, z2, z3, z4⟩
    have hLZ := hL1.chg (Nat.le_of_lt lt) z3 (fun j hj e => by have e' : j = vb := e; omega)
    have ltZ := z4.lt
    cases ha : (U k).a with
    | none =>
      have h0 := hL.nil k hk ha
      rw [h0]
      refine (clone_nil 0 (U k).cap Z).mono ?_
      rintro e Z' ⟨rfl, rfl⟩
      rw [ha, h0] at z2
      exact ⟨none, 0, rfl, ⟨z1, z2, z3, z4⟩, ⟨z3, z4⟩, fun h => by omega⟩
    | some ad =>
      refine (clone_some ad (U k).n (U k).cap (U k).f Z hbig (fun j hj => ?_)).mono ?_
      · obtain ⟨b', o', e1, e2, e3⟩ := hLZ.it k hk (by omega)
        rw [ha] at e1
        obtain rfl := Option.some.inj e1
        rw [Addr.add_lit]; exact e3 j hj
      · rintro e Z' ⟨v', rfl, hown, bel⟩
        have hcz := of_below bel
        obtain ⟨g, c, rfl, hg⟩ := own_slice hown
        have hlb : b < Z.heap.size := World.block_lt_of_cell? _ _ z1
        refine ⟨g, c, rfl, ⟨(hcz.cell hlb (fun h => h)).trans z1, ?_, z3.trans (hcz.mono (fun _ _ h => h.elim)), z4.chg hcz (fun h => h)⟩, ⟨z3.trans (hcz.mono (fun _ _ h => h.elim)), z4.chg hcz (fun h => h)⟩, fun h0 => ?_⟩
        · rw [ha] at z2; exact (hcz.cell hlb (fun h => h)).trans z2
        · obtain ⟨gg, q1, q2, q3⟩ := hg h0
          exact ⟨gg, q1, by omega, q3⟩
  · intro arr' g c Z f hG
    exact HQ _ _ f ⟨_, _, _, _, hv.step hk xo hxo hG.1.1 hG.1.2 hG.2⟩

set_option maxHeartbeats 1000000 in
/-- The view is built. -/
theorem l5 (ao : Option Addr) (cp : Nat) (vb n : Nat) (U : Nat → Lv) (arr : Array Value) (w : World) (K : Act → World → Prop) (Q : Exit → Act → World → Prop) (R : Ending → World → Prop) (v1 v2 v3 v4 v7 v8 v9 v10 v11 : Value)
    (hn : n ≤ 1048576) (hL : 0 < n → ∃ b o, ao = some ⟨b, o, none⟩ ∧ Lvs w vb b o n U) (hB : vb < w.heap.size) (hbig : ∀ i, i < n → (U i).n ≤ 1048576) (hr : Row2 w vb n 0 [])
    (hs : Fx arr (.slice ao n cp) v1 v2 v3 v4 (.slice (some ⟨vb, 0, none⟩) 0 n) (.int .i64 ((0 : Nat) : Int)) v7 v8 v9 v10 v11)
    (HQ : ∀ arr' w' u7, Fx arr' (.slice ao n cp) v1 v2 v3 v4 (.slice (some ⟨vb, 0, none⟩) n n) (.int .i64 n) (u7) v8 v9 v10 v11 → (∃ X qb ga gc, Vst w w' vb n U n X qb ga gc) → K ⟨arr', []⟩ w') :
    Code.wp Yba.prog (nav [1, 1, 1, 1, 1, 0, 1] (Yba.f3.body.getD .skip)) (Exit.then K (Qp Q R)) ⟨arr, []⟩ w := by
  rw [c5]
  refine loop_up n (fun k arr' w' => ∃ u7, Fx arr' (.slice ao n cp) v1 v2 v3 v4 (.slice (some ⟨vb, 0, none⟩) k n) (.int .i64 k) (u7) v8 v9 v10 v11 ∧ (∃ X qb ga gc, Vst w w' vb n U k X qb ga gc)) (fun arr' w' => ∃ u7, Fx arr' (.slice ao n cp) v1 v2 v3 v4 (.slice (some ⟨vb, 0, none⟩) n n) (.int .i64 n) (u7) v8 v9 v10 v11 ∧ (∃ X qb ga gc, Vst w w' vb n U n X qb ga gc)) ⟨_, hs, fun _ => none, fun _ => 0, fun _ => none, fun _ => 0, hr, Chg.refl _ _, fun i hi => by omega, fun i hi => by omega, fun i hi => by omega⟩ ?_ ?_ ?_
  · rintro k arr1 w1 K1 Q1 hk ⟨u7, f1, X, qb, ga, gc, hv⟩ hK
    obtain ⟨b, o, rfl, hLv⟩ := hL (by omega)
    have hL1 := hLv.chg (Nat.le_of_lt hB) hv.chg (fun j hj e => by have e' : j = vb := e; omega)
    rw [c5a]
    refine seq_Qp (t5 _ n cp k arr1 w1 _ _ _ _ _ _ _ _ _ _ _ _ _ hk f1 (fun arr2 f2 => ?_))
    refine seq_Qp (block_Qp (fun Q' => ?_))
    refine seq_Qp (r14  arr2 w1 _ _ _ _ _ _ _ _ _ _ _ _ _ _ _ f2 (fun arr3 f3 => ?_))
    have c0 := hL1.c0 k hk
    cases htx : (U k).tx with
    | true =>
      rw [htx] at c0
      refine seq_Qp (r15t b o n cp k arr3 w1 _ _ _ _ _ _ _ _ _ _ _ _ _ hk c0 f3 (fun arr4 w4 f4 g4 => ?_))
      obtain ⟨ob, rfl⟩ := g4
      refine x17 b o cp vb n U k X qb ga gc _ w arr4 _ _ _ _ _ _ _ _ _ _ _ _ hn hk (hv.mv ((Chg.refl _ _).alloc ob)) hLv hB (hbig k hk) (by rw [htx]; rfl) f4 (fun arr5 w5 f5 g5 => ?_)
      exact p5 k arr5 w5 _ _ _ _ _ _ _ _ _ _ _ _ _ _ (by omega) f5 (fun arr6 f6 => hK _ _ ⟨_, f6, g5⟩)
    | false =>
      rw [htx] at c0
      refine seq_Qp (r15f b o n cp k arr3 w1 _ _ _ _ _ _ _ _ _ _ _ _ _ hk c0 f3 (fun arr4 f4 => ?_))
      refine x17 b o cp vb n U k X qb ga gc _ w arr4 _ _ _ _ _ _ _ _ _ _ _ _ hn hk hv hLv hB (hbig k hk) (by rw [htx]; rfl) f4 (fun arr5 w5 f5 g5 => ?_)
      exact p5 k arr5 w5 _ _ _ _ _ _ _ _ _ _ _ _ _ _ (by omega) f5 (fun arr6 f6 => hK _ _ ⟨_, f6, g5⟩)
  · rintro arr1 w1 K1 Q1 ⟨u7, f1, hv⟩ hX
    rw [c5a]
    refine seq_Qp (t5x ao n cp arr1 w1 _ _ _ _ _ _ _ _ _ _ _ _ _ f1 (fun arr2 f2 => hX _ _ ⟨_, f2, hv⟩))
  · rintro arr1 w1 ⟨u7, f1, hv⟩
    exact HQ _ _ _ f1 hv

set_option maxHeartbeats 1000000 in
/-- The lengths are summed. -/
theorem l2 (ao : Option Addr) (cp : Nat) (n B : Nat) (U : Nat → Lv) (arr : Array Value) (w : World) (K : Act → World → Prop) (Q : Exit → Act → World → Prop) (R : Ending → World → Prop) (v1 v2 v5 v6 v7 v8 v9 v10 v11 : Value)
    (hn : n ≤ 1048576) (hL : 0 < n → ∃ b o, ao = some ⟨b, o, none⟩ ∧ Lvs w B b o n U) (ht : tot U n ≤ 1048576)
    (hs : Fx arr (.slice ao n cp) v1 v2 (.int .i64 ((0 : Nat) : Int)) (.int .i64 ((0 : Nat) : Int)) v5 v6 v7 v8 v9 v10 v11)
    (HQ : ∀ arr' , Fx arr' (.slice ao n cp) v1 v2 (.int .i64 (tot U n)) (.int .i64 n) v5 v6 v7 v8 v9 v10 v11 → K ⟨arr', []⟩ w) :
    Code.wp Yba.prog (nav [1, 1, 0, 1] (Yba.f3.body.getD .skip)) (Exit.then K (Qp Q R)) ⟨arr, []⟩ w := by
  rw [c2]
  refine loop_up n (fun k arr' w' => Fx arr' (.slice ao n cp) v1 v2 (.int .i64 (tot U k)) (.int .i64 k) v5 v6 v7 v8 v9 v10 v11 ∧ w' = w) (fun arr' w' => Fx arr' (.slice ao n cp) v1 v2 (.int .i64 (tot U n)) (.int .i64 n) v5 v6 v7 v8 v9 v10 v11 ∧ w' = w) ⟨hs, rfl⟩ ?_ ?_ ?_
  · rintro k arr1 w1 K1 Q1 hk ⟨f1, rfl⟩ hK
    obtain ⟨b, o, rfl, hLv⟩ := hL (by omega)
    have hm := tot_mono U n (k + 1) (by omega)
    have e : tot U (k + 1) = tot U k + (U k).n := rfl
    exact r2s b o n cp k (tot U k) (U k).n (U k).cap (U k).a arr1 w1 _ _ _ _ _ _ _ _ _ _ _ _ hn hk (by omega) (hLv.c2 k hk) f1 (fun arr2 f2 => hK _ _ ⟨f2, rfl⟩)
  · rintro arr1 w1 K1 Q1 ⟨f1, rfl⟩ hX
    exact r2x ao n cp arr1 w1 _ _ _ _ _ _ _ _ _ _ _ _ _ f1 (fun arr2 f2 => hX _ _ ⟨f2, rfl⟩)
  · rintro arr1 w1 ⟨f1, rfl⟩
    exact HQ _ f1

/-- The wrapping sum from the back. -/
def sumB (dq : Nat → Int) (n : Nat) : Nat → Int
  | 0 => 0
  | j + 1 => wrap64 (sumB dq n j + dq (n - 1 - j))
def rawF (dq : Nat → Int) : Nat → Int
  | 0 => 0
  | k + 1 => rawF dq k + dq k
def rawB (dq : Nat → Int) (n : Nat) : Nat → Int
  | 0 => 0
  | j + 1 => rawB dq n j + dq (n - 1 - j)
theorem wrap_add (a b : Int) : wrap64 (wrap64 a + b) = wrap64 (a + b) := by unfold wrap64; omega
theorem sumF_raw (dq : Nat → Int) : ∀ k, sumF dq k = wrap64 (rawF dq k)
  | 0 => by unfold sumF rawF wrap64; omega
  | k + 1 => by unfold sumF rawF; rw [sumF_raw dq k, wrap_add]
theorem sumB_raw (dq : Nat → Int) (n : Nat) : ∀ k, sumB dq n k = wrap64 (rawB dq n k)
  | 0 => by unfold sumB rawB wrap64; omega
  | k + 1 => by unfold sumB rawB; rw [sumB_raw dq n k, wrap_add]
theorem raw_both (dq : Nat → Int) (n : Nat) : ∀ j, j ≤ n → rawB dq n j + rawF dq (n - j) = rawF dq n
  | 0, _ => by simp [rawB]
  | j + 1, h => by
    have ih := raw_both dq n j (by omega)
    have e : n - j = (n - (j + 1)) + 1 := by omega
    rw [e] at ih
    have e2 : rawF dq (n - (j + 1) + 1) = rawF dq (n - (j + 1)) + dq (n - (j + 1)) := rfl
    rw [e2] at ih
    have e3 : rawB dq n (j + 1) = rawB dq n j + dq (n - 1 - j) := rfl
    rw [e3, show n - 1 - j = n - (j + 1) by omega]
    omega
theorem sum_both (dq : Nat → Int) (n : Nat) : sumB dq n n = sumF dq n := by
  rw [sumB_raw, sumF_raw]
  have := raw_both dq n n (Nat.le_refl _)
  rw [Nat.sub_self] at this
  have e : rawF dq 0 = 0 := rfl
  rw [e, Int.add_zero] at this
  rw [this]

set_option maxHeartbeats 1000000 in
/-- The counts are summed from the back. -/
theorem l7 (ao : Option Addr) (cp : Nat) (n B : Nat) (U : Nat → Lv) (arr : Array Value) (w : World) (K : Act → World → Prop) (Q : Exit → Act → World → Prop) (R : Ending → World → Prop) (v1 v2 v3 v4 v5 v6 v7 v10 v11 : Value)
    (hn : n ≤ 1048576) (hL : 0 < n → ∃ b o, ao = some ⟨b, o, none⟩ ∧ Lvs w B b o n U)
    (hs : Fx arr (.slice ao n cp) v1 v2 v3 v4 v5 v6 v7 (.int .i64 ((0 : Nat) : Int)) (.int .i64 ((n : Int) - 1)) v10 v11)
    (HQ : ∀ arr' u9, Fx arr' (.slice ao n cp) v1 v2 v3 v4 v5 v6 v7 (.int .i64 (sumB (fun i => (U i).dq) n n)) (u9) v10 v11 → K ⟨arr', []⟩ w) :
    Code.wp Yba.prog (nav [1, 1, 1, 1, 1, 1, 1, 0, 1] (Yba.f3.body.getD .skip)) (Exit.then K (Qp Q R)) ⟨arr, []⟩ w := by
  rw [c7]
  have e0 : ((n : Int) - 1 - ((0 : Nat) : Int)) = (n : Int) - 1 := by omega
  rw [← e0] at hs
  refine loop_up n (fun j arr' w' => Fx arr' (.slice ao n cp) v1 v2 v3 v4 v5 v6 v7 (.int .i64 (sumB (fun i => (U i).dq) n j)) (.int .i64 ((n : Int) - 1 - (j : Int))) v10 v11 ∧ w' = w) (fun arr' w' => (∃ u9, Fx arr' (.slice ao n cp) v1 v2 v3 v4 v5 v6 v7 (.int .i64 (sumB (fun i => (U i).dq) n n)) (u9) v10 v11) ∧ w' = w) ⟨hs, rfl⟩ ?_ ?_ ?_
  · rintro j arr1 w1 K1 Q1 hj ⟨f1, rfl⟩ hK
    obtain ⟨b, o, rfl, hLv⟩ := hL (by omega)
    have e : ((n : Int) - 1 - (j : Int)) = ((n - 1 - j : Nat) : Int) := by omega
    rw [e] at f1
    refine r7s b o n cp (n - 1 - j) (sumB (fun i => (U i).dq) n j) (U (n - 1 - j)).dq (sumB (fun i => (U i).dq) n (j + 1)) arr1 w1 _ _ _ _ _ _ _ _ _ _ _ _ hn (by omega) (hLv.c1 (n - 1 - j) (by omega)) rfl f1 (fun arr2 f2 => ?_)
    have e2 : (((n - 1 - j : Nat) : Int) - 1) = (n : Int) - 1 - ((j + 1 : Nat) : Int) := by omega
    rw [e2] at f2
    exact hK _ _ ⟨f2, rfl⟩
  · rintro arr1 w1 K1 Q1 ⟨f1, rfl⟩ hX
    have e : ((n : Int) - 1 - (n : Int)) = -1 := by omega
    rw [e] at f1
    exact r7x  arr1 w1 _ _ _ _ _ _ _ _ _ _ _ _ _ _ f1 (fun arr2 f2 => hX _ _ ⟨⟨_, f2⟩, rfl⟩)
  · rintro arr1 w1 ⟨⟨u9, f1⟩, rfl⟩
    exact HQ _ _ f1

set_option maxHeartbeats 1000000 in
/-- The view is held against the levels. -/
theorem l11 (ao : Option Addr) (cp : Nat) (vb n B : Nat) (U : Nat → Lv) (X : Nat → Option Addr) (qb : Nat → Nat) (ga : Nat → Option Addr) (gc : Nat → Nat) (arr : Array Value) (w : World) (K : Act → World → Prop) (Q : Exit → Act → World → Prop) (R : Ending → World → Prop) (v1 v2 v3 v4 v6 v7 v8 v9 v10 : Value)
    (hn : n ≤ 1048576) (hL : 0 < n → ∃ b o, ao = some ⟨b, o, none⟩ ∧ Lvs w B b o n U) (hbig : ∀ i, i < n → (U i).n ≤ 1048576)
    (d0 : ∀ i, i < n → w.cell? ⟨vb, i * 2, none⟩ = some (.pointer (X i))) (d1 : ∀ i, i < n → w.cell? ⟨vb, i * 2 + 1, none⟩ = some (.pointer (some ⟨qb i, 0, none⟩)))
    (hq : ∀ i, i < n → w.cell? ⟨qb i, 0, none⟩ = some (.slice (ga i) (U i).n (gc i)) ∧ w.cell? ⟨qb i, 1, none⟩ = some (.int .i64 (U i).dq)) (hi : ∀ i, i < n → 0 < (U i).n → ∃ g, ga i = some ⟨g, 0, none⟩ ∧ ∀ j, j < (U i).n → w.cell? ⟨g, j, none⟩ = some (.int .i64 ((U i).f j))) (hxx : ∀ i, i < n → (X i).isNone = !(U i).tx)
    (hs : Fx arr (.slice ao n cp) v1 v2 v3 v4 (.slice (some ⟨vb, 0, none⟩) n n) v6 v7 v8 v9 v10 (.int .i64 ((0 : Nat) : Int)))
    (HQ : ∀ arr' w', Fx arr' (.slice ao n cp) v1 v2 v3 v4 (.slice (some ⟨vb, 0, none⟩) n n) v6 v7 v8 v9 v10 (.int .i64 n) → (∃ q, w' = w.drewN q) → K ⟨arr', []⟩ w') :
    Code.wp Yba.prog (nav [1, 1, 1, 1, 1, 1, 1, 1, 1, 1, 1, 0, 1] (Yba.f3.body.getD .skip)) (Exit.then K (Qp Q R)) ⟨arr, []⟩ w := by
  rw [c11]
  refine loop_up n (fun k arr' w' => Fx arr' (.slice ao n cp) v1 v2 v3 v4 (.slice (some ⟨vb, 0, none⟩) n n) v6 v7 v8 v9 v10 (.int .i64 k) ∧ ∃ q, w' = w.drewN q) (fun arr' w' => Fx arr' (.slice ao n cp) v1 v2 v3 v4 (.slice (some ⟨vb, 0, none⟩) n n) v6 v7 v8 v9 v10 (.int .i64 n) ∧ ∃ q, w' = w.drewN q) ⟨hs, 0, rfl⟩ ?_ ?_ ?_
  · rintro k arr1 w1 K1 Q1 hk ⟨f1, q, rfl⟩ hK
    obtain ⟨b, o, rfl, hLv⟩ := hL (by omega)
    rw [c11a]
    refine seq_Qp (t11 _ n cp k arr1 _ _ _ _ _ _ _ _ _ _ _ _ _ _ hk f1 (fun arr2 f2 => ?_))
    refine seq_Qp (block_Qp (fun Q' => ?_))
    refine seq_Qp (x31 b o n cp vb n k (qb k) (U k).dq arr2 _ _ _ _ _ _ _ _ _ _ _ _ _ hk (d1 k hk) (hq k hk).2 (hLv.c1 k hk) f2 (fun arr3 w3 f3 g3 => ?_))
    obtain ⟨q1, rfl⟩ := g3
    rw [World.drewN_drewN]
    refine seq_Qp (x33 b o n cp vb n k (qb k) (U k).n (gc k) (U k).cap (ga k) (U k).a arr3 _ _ _ _ _ _ _ _ _ _ _ _ _ hk (d1 k hk) (hq k hk).1 (hLv.c2 k hk) ?_ f3 ?_)
    · intro j
      refine equal_same (ga k) (U k).a (U k).n (gc k) (U k).cap (U k).f _ (hbig k hk) (fun h0 => ?_) (fun h0 => ?_)
      · obtain ⟨g, e, h⟩ := hi k hk h0
        exact ⟨g, 0, e, fun j hj => by rw [Nat.zero_add]; exact h j hj⟩
      · obtain ⟨b', o', e, _, h⟩ := hLv.it k hk h0
        exact ⟨b', o', e, h⟩
    · intro arr4 w4 f4 g4
      obtain ⟨q2, rfl⟩ := g4
      rw [World.drewN_drewN]
      refine x35 b o n cp vb n k (X k) (U k).tx arr4 _ _ _ _ _ _ _ _ _ _ _ _ _ hk (d0 k hk) (hLv.c0 k hk) (hxx k hk) f4 (fun arr5 w5 f5 g5 => ?_)
      obtain ⟨q3, rfl⟩ := g5
      rw [World.drewN_drewN]
      exact p11 k arr5 _ _ _ _ _ _ _ _ _ _ _ _ _ _ _ (by omega) f5 (fun arr6 f6 => hK _ _ ⟨f6, _, rfl⟩)
  · rintro arr1 w1 K1 Q1 ⟨f1, hq1⟩ hX
    rw [c11a]
    refine seq_Qp (t11x ao n cp arr1 _ _ _ _ _ _ _ _ _ _ _ _ _ _ f1 (fun arr2 f2 => hX _ _ ⟨f2, hq1⟩))
  · rintro arr1 w1 ⟨f1, hq1⟩
    exact HQ _ _ f1 hq1

end Go.Proofs.Ybulkdgzo
