/-
  (*tracker).takeUpload (function 7), whole.
-/
import Derived.Test.YbulkdgxkTake
namespace Go.Proofs.Ybulkdgxk
open Go.RowKit C
set_option linter.unusedVariables false
set_option linter.unusedSimpArgs false

set_option maxHeartbeats 400000 in
/-- return u.request() -/
theorem tk8 (T gu gl gg gup gf n np cap capu nf capf x Rb : Nat) (U : Nat → Up) (f : Nat → Value) (s : S) (G : List Nat) (cnt F : Nat → Int) (arr : Array Value) (w : World) (R : Ending → World → Prop) (v6 : Value)
    (hx : x < n) (hU1 : -2147483648 ≤ (U x).peer ∧ (U x).peer ≤ 2147483647) (hU2 : -2147483648 ≤ (U x).place ∧ (U x).place ≤ 2147483647)
    (hs : Fk arr (.pointer (some ⟨T, 0, none⟩)) (.int .i64 x) (.pointer (some ⟨Rb, 0, none⟩)) (.pointer (some ⟨gu, x * 6, none⟩)) v6)
    (h : Tk w T gu gl gg gup gf n np cap capu nf capf U f s G cnt F) (hR : RowF w Rb 81 2 (fun _ => .int .i64 0))
    (HQ : Hid (∀ w', Chg w w' (fun k => k = Rb) → R (.returned (.agg #[.int .i64 (U x).peer, .int .i64 (U x).place])) w')) :
    Code.wp Yba.prog (from_ 8 (Yba.f7.body.getD .skip)) (bodyPost Yba.prog Yba.f7 R) ⟨arr, []⟩ w := by
  have cu0 := (h.k.u.cell (i := x * 6) (by omega)).trans (congrArg some (usF_0 _ _ _ _))
  have cu1 := (h.k.u.cell (i := x * 6 + 1) (by omega)).trans (congrArg some (usF_1 _ _ _ _))
  obtain ⟨pe, hpe⟩ : ∃ v, v = (U x).peer := ⟨_, rfl⟩
  obtain ⟨pl, hpl⟩ : ∃ v, v = (U x).place := ⟨_, rfl⟩
  rw [← hpe, ← hpl] at HQ
  rw [← hpe] at cu0 hU1
  rw [← hpl] at cu1 hU2
  have HR : Hid (RowF w Rb 81 2 (fun _ => .int .i64 0)) := hR
  clear hpe hpl h hR
  refine hs.open (fun t => ?_)
  clear hs
  conv => arg 2; whnf
  go_wp2_with fail
  refine (request_any gu (x * 6) pe pl w cu0 cu1 hU1 hU2).mono ?_
  rintro e w1 ⟨rfl, hchg⟩
  have hR1 := HR.out.chg hchg id
  have r0 := hR1.cell (i := 0) (by omega)
  have r1 := hR1.cell (i := 1) (by omega)
  have f0 := hR1.free 0
  have f1 := hR1.free 1
  clear hR1
  go_wp2
  refine bodyPost_ret (v := .agg #[.int .i64 pe, .int .i64 pl]) (by simp [results, Yba.results7, go_sem, r0, r1]) rfl ?_
  exact HQ.out _ (((hchg.mono (T := fun k => k = Rb) (fun _ _ e => e.elim)).setCell (.inl rfl) _).setCell (.inl rfl) _)

set_option maxHeartbeats 400000 in
theorem tk0 (arr : Array Value) (w : World) (K : Act → World → Prop) (R : Ending → World → Prop) (v0 v1 v4 v5 v6 : Value) (hs : Fk arr v0 v1 v4 v5 v6)
    (HQ : Hid (∀ arr', Fk arr' v0 v1 (.pointer (some ⟨w.heap.size, 0, none⟩)) v5 v6 → K ⟨arr', []⟩ (w.alloc (.cells #[.int .i64 0, .int .i64 0] 81)))) :
    Code.wp Yba.prog (stm 0 (Yba.f7.body.getD .skip)) (Exit.then K (bodyPost Yba.prog Yba.f7 R)) ⟨arr, []⟩ w := by
  refine hs.open (fun t => ?_)
  clear hs
  conv => arg 2; whnf
  go_wp2
  exact HQ.out _ (Fk.mk rfl rfl rfl rfl rfl rfl)

set_option maxHeartbeats 400000 in
theorem tk1 (T gu gl gg n np cap m : Nat) (U : Nat → Up) (f : Nat → Value) (G : List Nat) (arr : Array Value) (w : World) (K : Act → World → Prop) (R : Ending → World → Prop) (v1 v4 v5 v6 : Value)
    (hn : n ≤ 65536) (hp : 1 ≤ np) (hp8 : np ≤ 8) (hm : m ≤ n) (hcap : n ≤ cap) (hcm : cap ≤ maxLen) (hG : G.length = n) (hGn : ∀ i ∈ G, i < n) (hf20 : f 20 = .int .i64 m)
    (h : Trk w T gu gl gg n np cap U f (lnk (own U np) (G.take m)) G) (hs : Fk arr (.pointer (some ⟨T, 0, none⟩)) v1 v4 v5 v6)
    (HQ : Hid (∀ arr' w', Fk arr' (.pointer (some ⟨T, 0, none⟩)) v1 v4 v5 v6 → Trk w' T gu gl gg n np cap U (upd f 20 (.int .i64 n)) (lnk (own U np) G) G → Chg w w' (fun k => k = T ∨ k = gu ∨ k = gl) → K ⟨arr', []⟩ w')) :
    Code.wp Yba.prog (stm 1 (Yba.f7.body.getD .skip)) (Exit.then K (bodyPost Yba.prog Yba.f7 R)) ⟨arr, []⟩ w := by
  refine hs.open (fun t => ?_)
  clear hs
  have H : Hid (Trk w T gu gl gg n np cap U f (lnk (own U np) (G.take m)) G) := h
  have H20 : Hid (f 20 = .int .i64 m) := hf20
  clear h hf20
  conv => arg 2; whnf
  go_wp2_with fail
  refine (link_any T gu gl gg n np cap m U f G w hn hp hp8 hm hcap hcm hG hGn H20.out H.out).mono ?_
  rintro e w1 ⟨rfl, ht, hc⟩
  have HT : Hid (Trk w1 T gu gl gg n np cap U (upd f 20 (.int .i64 n)) (lnk (own U np) G) G) := ht
  clear ht
  go_wp2
  exact HQ.out _ _ (Fk.mk rfl rfl rfl rfl rfl rfl) HT.out hc

set_option maxHeartbeats 400000 in
theorem tk2 (T gu gl gg n np cap x : Nat) (U : Nat → Up) (f : Nat → Value) (s : S) (G : List Nat) (arr : Array Value) (w : World) (K : Act → World → Prop) (R : Ending → World → Prop) (v4 v5 v6 : Value)
    (hn : n ≤ 65536) (hx : x < n) (h : Trk w T gu gl gg n np cap U f s G) (hs : Fk arr (.pointer (some ⟨T, 0, none⟩)) (.int .i64 x) v4 v5 v6)
    (HQ : Hid (∀ arr', Fk arr' (.pointer (some ⟨T, 0, none⟩)) (.int .i64 x) v4 (.pointer (some ⟨gu, x * 6, none⟩)) v6 → K ⟨arr', []⟩ w)) :
    Code.wp Yba.prog (stm 2 (Yba.f7.body.getD .skip)) (Exit.then K (bodyPost Yba.prog Yba.f7 R)) ⟨arr, []⟩ w := by
  refine hs.open (fun t => ?_)
  clear hs
  have c17 := (h.t.cell (i := 17) (by omega)).trans (congrArg some h.f17)
  clear h
  conv => arg 2; whnf
  go_wp2
  exact HQ.out _ (Fk.mk rfl rfl rfl rfl rfl rfl)

theorem f7_split : Yba.f7.body.getD .skip = (.seq (stm 0 (Yba.f7.body.getD .skip)) (.seq (stm 1 (Yba.f7.body.getD .skip)) (.seq (stm 2 (Yba.f7.body.getD .skip)) (.seq (stm 3 (Yba.f7.body.getD .skip)) (.seq (stm 4 (Yba.f7.body.getD .skip)) (.seq (stm 5 (Yba.f7.body.getD .skip)) (.seq (stm 6 (Yba.f7.body.getD .skip)) (.seq (stm 7 (Yba.f7.body.getD .skip)) (from_ 8 (Yba.f7.body.getD .skip)))))))))) := by kernel_rfl
theorem f7_body : Yba.f7.body = some (Yba.f7.body.getD .skip) := by kernel_rfl
theorem f7_enter (a b : Value) : Fk (#[a, b] ++ Array.replicate (Yba.f7.ntmps - #[a, b].size) undef) a b undef undef undef := by
  rw [Yba.ntmps7]; exact Fk.mk (by kernel_rfl) (by kernel_rfl) (by kernel_rfl) (by kernel_rfl) (by kernel_rfl) (by kernel_rfl)

set_option maxHeartbeats 1000000 in
theorem take_any (T gu gl gg gup gf n np cap capu nf m x : Nat) (U : Nat → Up) (f : Nat → Value) (G c1 c2 : List Nat) (cnt F : Nat → Int) (w : World)
    (hn : n ≤ 65536) (hp : 1 ≤ np) (hp8 : np ≤ 8) (hm : m ≤ n) (hcap : n ≤ cap) (hcm : cap ≤ maxLen) (hx : x < n) (hnf : nf ≤ 1048576)
    (hG : G.length = n) (hGn : ∀ i ∈ G, i < n) (hnd : G.Nodup) (hf20 : f 20 = .int .i64 m) (hcnt : ∀ p, p < np → 0 ≤ cnt p ∧ cnt p ≤ 3)
    (hU1 : -2147483648 ≤ (U x).peer ∧ (U x).peer ≤ 2147483647) (hU2 : -2147483648 ≤ (U x).place ∧ (U x).place ≤ 2147483647)
    (hch : chainL (own U np) G (own U np x) = c1 ++ x :: c2)
    (h : Tk w T gu gl gg gup gf n np cap capu nf nf U f (lnk (own U np) (G.take m)) G cnt F) :
    Calls Yba.prog 7 #[.pointer (some ⟨T, 0, none⟩), .int .i64 x] w fun e w' => e = .returned (.agg #[.int .i64 (U x).peer, .int .i64 (U x).place]) ∧
      ∃ gf' capf, w.heap.size < gf' ∧ Tk w' T gu gl gg gup gf' n np cap capu (nf + 1) capf U (upd (upd f 20 (.int .i64 n)) 32 (.slice (some ⟨gf', 0, none⟩) (nf + 1) capf)) (takenS (lnk (own U np) G) x (own U np x) c1) G
          (updI cnt (own U np x) (cnt (own U np x) + 1)) (fun k => if k < nf then F k else own U np x) ∧
        Chg w w' (fun k => k = T ∨ k = gu ∨ k = gl ∨ k = gup) := by
  have hpx := own_lt U np x hp
  have hC := lnk_chain (own U np) G hnd (own U np x)
  rw [hch] at hC
  have hCn := chainL_nodup (own U np) hnd (own U np x)
  rw [hch] at hCn
  have hxc : x ∉ c1 := fun hh => (List.nodup_append.1 hCn).2.2 x hh x (by simp) rfl
  have hlt : ∀ i ∈ c1 ++ x :: c2, i < n := fun i hi => hGn i ((chainL_mem (own U np) G (own U np x) i).1 (by rw [hch]; exact hi)).1
  refine calls_of_wp Yba.func7 f7_body ?_
  rw [f7_split]
  refine wp_seq (tk0 _ w _ _ _ _ undef undef undef (f7_enter _ _) (fun arr1 s1 => ?_))
  have c0 : Chg w (w.alloc (.cells #[.int .i64 0, .int .i64 0] 81)) (fun _ => False) := (Chg.refl _ _).alloc _
  have hR0 : RowF (w.alloc (.cells #[.int .i64 0, .int .i64 0] 81)) w.heap.size 81 2 (fun _ => .int .i64 0) :=
    ⟨#[.int .i64 0, .int .i64 0], by show (w.heap.push _)[w.heap.size]? = _; simp, by simp, fun i hi => by match i, hi with | 0, _ => rfl | 1, _ => rfl⟩
  have h0 := h.still c0
  generalize w.alloc (.cells #[.int .i64 0, .int .i64 0] 81) = w0 at c0 hR0 h0 ⊢
  refine wp_seq (tk1 T gu gl gg n np cap m U f G arr1 w0 _ _ _ _ _ _ hn hp hp8 hm hcap hcm hG hGn hf20 h0.k s1 (fun arr2 w2 s2 t2 g2 => ?_))
  have lT := h.k.t.lt
  have lu := h.k.u.lt
  have ll := h.k.l.lt
  have lg := h.k.g.lt
  have lp := h.up.lt
  have lf := h.fr.lt
  obtain ⟨n1, n2, n3, n4, n5, n6, n7, n8, n9⟩ := h.ne
  have hR2 := hR0.chg g2 (by omega)
  have k2 : Tk w2 T gu gl gg gup gf n np cap capu nf nf U (upd f 20 (.int .i64 n)) (lnk (own U np) G) G cnt F :=
    ⟨t2, h0.up.chg g2 (by omega), h0.fr.chg g2 (by omega), h.f13, h.f32, h.ne⟩
  have q2 : Chg w w2 (fun k => k = T ∨ k = gu ∨ k = gl ∨ k = gup) := (c0.mono (fun _ _ e => e.elim)).trans (g2.mono (fun k _ e => by omega))
  clear g2 t2 h0 hR0 c0
  refine wp_seq (tk2 T gu gl gg n np cap x U _ _ G arr2 w2 _ _ _ _ _ hn hx k2.k s2 (fun arr3 s3 => ?_))
  refine wp_seq (tk3 T gu gl gg gup gf n np cap capu nf nf x U _ _ G cnt F arr3 w2 _ _ _ _ hp hp8 hx s3 k2 (fun arr4 w4 s4 g4 => ?_))
  have k4 := k2.still g4
  have hR4 := hR2.chg g4 id
  refine wp_seq (tk4 T gu gl gg gup gf n np cap capu nf nf x (own U np x) U _ _ G cnt F c1 c2 arr4 w4 _ _ _ _ hn hx hpx s4 k4 hC hlt hxc (fun arr5 w5 s5 g5 => ?_))
  have k5 := k4.still g5
  have hR5 := hR4.chg g5 id
  refine wp_seq (tk5 T gu gl gg gup gf n np cap capu nf nf x (own U np x) U _ _ G cnt F c1 c2 arr5 w5 _ _ _ hn hx hpx s5 k5 hC hlt hxc (fun arr6 w6 s6 k6 g6 => ?_))
  have hR6 := hR5.chg g6 (by omega)
  refine wp_seq (tk6 T gu gl gg gup gf n np cap capu nf nf x (own U np x) U _ _ G cnt F arr6 w6 _ _ _ _ hn hx hpx hp8 rfl (hcnt _ hpx) s6 k6 (fun arr7 w7 s7 k7 g7 => ?_))
  have hR7 := hR6.chg g7 (by omega)
  refine wp_seq (tk7 T gu gl gg gup gf n np cap capu nf x (own U np x) U _ _ G _ F arr7 w7 _ _ _ _ hn hx hpx hp8 hnf rfl s7 k7 (fun arr8 w8 gf' capf s8 l8 k8 g8 => ?_))
  have hR8 := hR7.chg g8 (by omega)
  refine tk8 T gu gl gg gup gf' n np cap capu (nf + 1) capf x w.heap.size U _ _ G _ _ arr8 w8 _ _ hx hU1 hU2 s8 k8 hR8 (fun w9 g9 => ?_)
  have z7 : w.heap.size ≤ w7.heap.size := by have := q2.size; have := g4.size; have := g5.size; have := g6.size; have := g7.size; omega
  have hgf : w.heap.size < gf' := by omega
  have q8 : Chg w w8 (fun k => k = T ∨ k = gu ∨ k = gl ∨ k = gup) :=
    ((((q2.trans (g4.mono (fun _ _ e => e.elim))).trans (g5.mono (fun _ _ e => e.elim))).trans (g6.mono (fun k _ e => by omega))).trans (g7.mono (fun k _ e => by omega))).trans (g8.mono (fun k _ e => by omega))
  refine ⟨rfl, gf', capf, hgf, ?_, ?_⟩
  · exact ⟨k8.k.chg g9 (by omega) (by omega) (by omega) (by omega), k8.up.chg g9 (by omega), k8.fr.chg g9 (by omega), k8.f13, k8.f32, k8.ne⟩
  · refine ⟨g9.os.trans q8.os, g9.tape.trans q8.tape, g9.output.trans q8.output, Nat.le_trans q8.size g9.size, fun k hk hn => (g9.block k (Nat.lt_of_lt_of_le hk q8.size) (by omega)).trans (q8.block k hk hn)⟩
end Go.Proofs.Ybulkdgxk
