/-
  LawS5405CWhole: the statements in a row.
-/
import Derived.Test.YbulkdgxkS7c
import Derived.Test.YbulkdgxkS1
namespace Go.Proofs.Ybulkdgxk
open Go.RowKit C
set_option linter.unusedVariables false
set_option linter.unusedSimpArgs false

theorem Chg.fresh {w w1 w2 : World} {S : Nat → Prop} (h : Chg w w1 (fun _ => False)) (k : Chg w1 w2 S) (hs : ∀ j, j < w.heap.size → ¬ S j) : Chg w w2 (fun _ => False) :=
  ⟨k.os.trans h.os, k.tape.trans h.tape, k.output.trans h.output, Nat.le_trans h.size k.size, fun j hj _ => (k.block j (Nat.lt_of_lt_of_le hj h.size) (hs j hj)).trans (h.block j hj id)⟩

theorem expected (U : Nat → Up) (np n x : Nat) (e el : Nat → Int) (c1 c2 : List Nat) (hp : 1 ≤ np) (hx : x < n) (hch : chainL (own U np) (given (fun i => (U i).pend) n) (own U np x) = c1 ++ x :: c2)
    (hf : ∀ q, q < np → (∀ j i, (seqL (own U np) (fun i => (U i).pend) n x q)[j]? = some i → e i = after (seqL (own U np) (fun i => (U i).pend) n x q) j) ∧ el q = headOr (seqL (own U np) (fun i => (U i).pend) n x q)) :
    (∀ i, i < n → (takenS (lnk (own U np) (given (fun i => (U i).pend) n)) x (own U np x) c1).1 i = updI e x (-2) i) ∧
    ∀ q, q < np → el q = (takenS (lnk (own U np) (given (fun i => (U i).pend) n)) x (own U np x) c1).2 q := by
  have hT := taken_chain (own U np) (given (fun i => (U i).pend) n) (given_nodup _ _) x c1 c2 hch
  have hA : ∀ q, q < np → el q = (takenS (lnk (own U np) (given (fun i => (U i).pend) n)) x (own U np x) c1).2 q ∧ ∀ i ∈ seqL (own U np) (fun i => (U i).pend) n x q, e i = (takenS (lnk (own U np) (given (fun i => (U i).pend) n)) x (own U np x) c1).1 i := by
    intro q hq
    obtain ⟨h1, h2⟩ := hf q hq
    have a := chain_of _ h1
    have b := (hT q).1
    rw [← seqL_eq] at b
    obtain ⟨r1, r2⟩ := Chain.agree a b
    exact ⟨h2.trans r1, r2⟩
  refine ⟨fun i hi => ?_, fun q hq => (hA q hq).1⟩
  by_cases hix : i = x
  · subst hix; rw [updI_same]; exact (hT 0).2
  · rw [updI_ne _ _ _ _ hix]
    refine ((hA (own U np i) (own_lt U np i hp)).2 i ?_).symm
    rw [seqL_eq, List.mem_filter, chainL_mem, given_mem]
    exact ⟨⟨hi, rfl⟩, by simpa using hix⟩

set_option maxRecDepth 100000 in
set_option maxHeartbeats 400000 in
/-- return true -/
theorem s41 (arr : Array Value) (w : World) (R : Ending → World → Prop) (v0 v1 v2 v3 v4 v5 v6 v7 v8 v9 v10 v11 v12 v13 v14 v15 v16 v17 v18 v19 v20 v21 v22 v23 v24 v25 v26 v27 v28 v29 v30 v31 v32 v33 v34 v35 v36 v37 v38 v39 v40 v41 v42 v43 v44 v45 v46 : Value)
    (hs : Fx arr v0 v1 v2 v3 v4 v5 v6 v7 v8 v9 v10 v11 v12 v13 v14 v15 v16 v17 v18 v19 v20 v21 v22 v23 v24 v25 v26 v27 v28 v29 v30 v31 v32 v33 v34 v35 v36 v37 v38 v39 v40 v41 v42 v43 v44 v45 v46) (HQ : Hid (R (.returned (.bool true)) w)) :
    Code.wp Yba.prog (nav [1, 1, 1, 1, 1, 1, 1, 1, 1, 1, 1, 1, 1, 1, 1, 1, 1, 1, 1, 1, 1, 1, 1, 1, 1, 1, 1, 1, 1, 1, 1, 1, 1, 1, 1, 1, 1, 1, 1, 1, 1] (Yba.f4.body.getD .skip)) (bodyPost Yba.prog Yba.f4 R) ⟨arr, []⟩ w := by
  refine hs.open (fun t => ?_)
  clear hs
  conv => arg 2; whnf
  go_wp2
  exact HQ.out

theorem f4_body : Yba.f4.body = some (Yba.f4.body.getD .skip) := by kernel_rfl
theorem f4_split : (Yba.f4.body.getD .skip) = (.seq (stm 0 (Yba.f4.body.getD .skip)) (.seq (stm 1 (Yba.f4.body.getD .skip)) (.seq (stm 2 (Yba.f4.body.getD .skip)) (.seq (stm 3 (Yba.f4.body.getD .skip)) (.seq (stm 4 (Yba.f4.body.getD .skip)) (.seq (stm 5 (Yba.f4.body.getD .skip)) (.seq (stm 6 (Yba.f4.body.getD .skip)) (.seq (stm 7 (Yba.f4.body.getD .skip)) (.seq (stm 8 (Yba.f4.body.getD .skip)) (.seq (stm 9 (Yba.f4.body.getD .skip)) (.seq (stm 10 (Yba.f4.body.getD .skip)) (.seq (stm 11 (Yba.f4.body.getD .skip)) (.seq (nav [1, 1, 1, 1, 1, 1, 1, 1, 1, 1, 1, 1, 0] (Yba.f4.body.getD .skip)) (.seq (nav [1, 1, 1, 1, 1, 1, 1, 1, 1, 1, 1, 1, 1, 0] (Yba.f4.body.getD .skip)) (.seq (nav [1, 1, 1, 1, 1, 1, 1, 1, 1, 1, 1, 1, 1, 1, 0] (Yba.f4.body.getD .skip)) (.seq (nav [1, 1, 1, 1, 1, 1, 1, 1, 1, 1, 1, 1, 1, 1, 1, 0] (Yba.f4.body.getD .skip)) (.seq (nav [1, 1, 1, 1, 1, 1, 1, 1, 1, 1, 1, 1, 1, 1, 1, 1, 0] (Yba.f4.body.getD .skip)) (.seq (nav [1, 1, 1, 1, 1, 1, 1, 1, 1, 1, 1, 1, 1, 1, 1, 1, 1, 0] (Yba.f4.body.getD .skip)) (.seq (nav [1, 1, 1, 1, 1, 1, 1, 1, 1, 1, 1, 1, 1, 1, 1, 1, 1, 1, 0] (Yba.f4.body.getD .skip)) (.seq (nav [1, 1, 1, 1, 1, 1, 1, 1, 1, 1, 1, 1, 1, 1, 1, 1, 1, 1, 1, 0] (Yba.f4.body.getD .skip)) (.seq (nav [1, 1, 1, 1, 1, 1, 1, 1, 1, 1, 1, 1, 1, 1, 1, 1, 1, 1, 1, 1, 0] (Yba.f4.body.getD .skip)) (.seq (nav [1, 1, 1, 1, 1, 1, 1, 1, 1, 1, 1, 1, 1, 1, 1, 1, 1, 1, 1, 1, 1, 0] (Yba.f4.body.getD .skip)) (.seq (nav [1, 1, 1, 1, 1, 1, 1, 1, 1, 1, 1, 1, 1, 1, 1, 1, 1, 1, 1, 1, 1, 1, 0] (Yba.f4.body.getD .skip)) (.seq (nav [1, 1, 1, 1, 1, 1, 1, 1, 1, 1, 1, 1, 1, 1, 1, 1, 1, 1, 1, 1, 1, 1, 1, 0] (Yba.f4.body.getD .skip)) (.seq (nav [1, 1, 1, 1, 1, 1, 1, 1, 1, 1, 1, 1, 1, 1, 1, 1, 1, 1, 1, 1, 1, 1, 1, 1, 0] (Yba.f4.body.getD .skip)) (.seq (nav [1, 1, 1, 1, 1, 1, 1, 1, 1, 1, 1, 1, 1, 1, 1, 1, 1, 1, 1, 1, 1, 1, 1, 1, 1, 0] (Yba.f4.body.getD .skip)) (.seq (nav [1, 1, 1, 1, 1, 1, 1, 1, 1, 1, 1, 1, 1, 1, 1, 1, 1, 1, 1, 1, 1, 1, 1, 1, 1, 1, 0] (Yba.f4.body.getD .skip)) (.seq (nav [1, 1, 1, 1, 1, 1, 1, 1, 1, 1, 1, 1, 1, 1, 1, 1, 1, 1, 1, 1, 1, 1, 1, 1, 1, 1, 1, 0] (Yba.f4.body.getD .skip)) (.seq (nav [1, 1, 1, 1, 1, 1, 1, 1, 1, 1, 1, 1, 1, 1, 1, 1, 1, 1, 1, 1, 1, 1, 1, 1, 1, 1, 1, 1, 0] (Yba.f4.body.getD .skip)) (.seq (nav [1, 1, 1, 1, 1, 1, 1, 1, 1, 1, 1, 1, 1, 1, 1, 1, 1, 1, 1, 1, 1, 1, 1, 1, 1, 1, 1, 1, 1, 0] (Yba.f4.body.getD .skip)) (.seq (nav [1, 1, 1, 1, 1, 1, 1, 1, 1, 1, 1, 1, 1, 1, 1, 1, 1, 1, 1, 1, 1, 1, 1, 1, 1, 1, 1, 1, 1, 1, 0] (Yba.f4.body.getD .skip)) (.seq (nav [1, 1, 1, 1, 1, 1, 1, 1, 1, 1, 1, 1, 1, 1, 1, 1, 1, 1, 1, 1, 1, 1, 1, 1, 1, 1, 1, 1, 1, 1, 1, 0] (Yba.f4.body.getD .skip)) (.seq (nav [1, 1, 1, 1, 1, 1, 1, 1, 1, 1, 1, 1, 1, 1, 1, 1, 1, 1, 1, 1, 1, 1, 1, 1, 1, 1, 1, 1, 1, 1, 1, 1, 0] (Yba.f4.body.getD .skip)) (.seq (nav [1, 1, 1, 1, 1, 1, 1, 1, 1, 1, 1, 1, 1, 1, 1, 1, 1, 1, 1, 1, 1, 1, 1, 1, 1, 1, 1, 1, 1, 1, 1, 1, 1, 0] (Yba.f4.body.getD .skip)) (.seq (nav [1, 1, 1, 1, 1, 1, 1, 1, 1, 1, 1, 1, 1, 1, 1, 1, 1, 1, 1, 1, 1, 1, 1, 1, 1, 1, 1, 1, 1, 1, 1, 1, 1, 1, 0] (Yba.f4.body.getD .skip)) (.seq (nav [1, 1, 1, 1, 1, 1, 1, 1, 1, 1, 1, 1, 1, 1, 1, 1, 1, 1, 1, 1, 1, 1, 1, 1, 1, 1, 1, 1, 1, 1, 1, 1, 1, 1, 1, 0] (Yba.f4.body.getD .skip)) (.seq (nav [1, 1, 1, 1, 1, 1, 1, 1, 1, 1, 1, 1, 1, 1, 1, 1, 1, 1, 1, 1, 1, 1, 1, 1, 1, 1, 1, 1, 1, 1, 1, 1, 1, 1, 1, 1, 0] (Yba.f4.body.getD .skip)) (.seq (nav [1, 1, 1, 1, 1, 1, 1, 1, 1, 1, 1, 1, 1, 1, 1, 1, 1, 1, 1, 1, 1, 1, 1, 1, 1, 1, 1, 1, 1, 1, 1, 1, 1, 1, 1, 1, 1, 0] (Yba.f4.body.getD .skip)) (.seq (nav [1, 1, 1, 1, 1, 1, 1, 1, 1, 1, 1, 1, 1, 1, 1, 1, 1, 1, 1, 1, 1, 1, 1, 1, 1, 1, 1, 1, 1, 1, 1, 1, 1, 1, 1, 1, 1, 1, 0] (Yba.f4.body.getD .skip)) (.seq (nav [1, 1, 1, 1, 1, 1, 1, 1, 1, 1, 1, 1, 1, 1, 1, 1, 1, 1, 1, 1, 1, 1, 1, 1, 1, 1, 1, 1, 1, 1, 1, 1, 1, 1, 1, 1, 1, 1, 1, 0] (Yba.f4.body.getD .skip)) (.seq (nav [1, 1, 1, 1, 1, 1, 1, 1, 1, 1, 1, 1, 1, 1, 1, 1, 1, 1, 1, 1, 1, 1, 1, 1, 1, 1, 1, 1, 1, 1, 1, 1, 1, 1, 1, 1, 1, 1, 1, 1, 0] (Yba.f4.body.getD .skip)) (nav [1, 1, 1, 1, 1, 1, 1, 1, 1, 1, 1, 1, 1, 1, 1, 1, 1, 1, 1, 1, 1, 1, 1, 1, 1, 1, 1, 1, 1, 1, 1, 1, 1, 1, 1, 1, 1, 1, 1, 1, 1] (Yba.f4.body.getD .skip))))))))))))))))))))))))))))))))))))))))))) := by kernel_rfl
theorem own_row {w : World} {B : Nat} {v : Value} {l : List Nat} (h : w.ownsRow B 21 1 v l.length (vals l)) (h0 : 0 < l.length) :
    ∃ gg cap, v = .slice (some ⟨gg, 0, none⟩) l.length cap ∧ B ≤ gg ∧ RowF w gg 21 l.length (intF (fun k => (l.getD k 0 : Nat))) ∧ l.length ≤ cap ∧ cap ≤ maxLen := by
  obtain ⟨_, h2⟩ := id h
  rcases h2 with ⟨_, hz⟩ | ⟨gg, cap, cur, rfl, hg, hh, h3, h4, h5, h6⟩
  · omega
  · refine ⟨gg, cap, rfl, hg, ⟨cur, hh, by omega, fun i hi => ?_⟩, h3, h4⟩
    have := h.cellAt i (by omega)
    rw [cell_of_row w gg i cur 21 (0, 0) hh] at this
    rw [this]
    simp [vals, intF, hi]
theorem addr_add (b o j : Nat) : (⟨b, o, none⟩ : Addr).add j = ⟨b, o + j, none⟩ := by
  unfold Addr.add; split <;> simp_all
theorem fd_src {w : World} {B : Nat} {af : Option Addr} {nf : Nat} {F : Nat → Int} (h : Fd w B af nf F) : 0 < nf → ∃ ad, af = some ad ∧ ∀ j, j < nf → w.cell? (ad.add j) = some (intF F j) := by
  intro h0
  obtain ⟨bf, of, e, _, hc⟩ := h.2 h0
  exact ⟨_, e, fun j hj => by rw [addr_add]; exact hc j hj⟩
theorem cnt_up {w : World} {B nl : Nat} {al : Option Addr} {lf : Nat → Int} (h : Lf w B al nl lf) {q : Nat} (p : Nat) : 0 ≤ updI (cntF nl lf) q (cntF nl lf q + 1) p ∧ updI (cntF nl lf) q (cntF nl lf q + 1) p ≤ 4 := by
  have h1 := cnt_bd h p
  have h2 := cnt_bd h q
  unfold updI
  split <;> omega
set_option maxRecDepth 100000 in
theorem f4_enter (a b c d e : Value) : Fr (#[a, b, c, d, e] ++ Array.replicate (Yba.f4.ntmps - #[a, b, c, d, e].size) undef) a b c d e undef undef undef undef undef undef undef undef undef undef undef undef undef undef undef undef := by
  rw [Yba.ntmps4]; exact Fr.mk (by kernel_rfl) (by kernel_rfl) (by kernel_rfl) (by kernel_rfl) (by kernel_rfl) (by kernel_rfl) (by kernel_rfl) (by kernel_rfl) (by kernel_rfl) (by kernel_rfl) (by kernel_rfl) (by kernel_rfl) (by kernel_rfl) (by kernel_rfl) (by kernel_rfl) (by kernel_rfl) (by kernel_rfl) (by kernel_rfl) (by kernel_rfl) (by kernel_rfl) (by kernel_rfl) (by kernel_rfl)

set_option maxHeartbeats 4000000 in
set_option maxRecDepth 10000 in
theorem main (b0 o0 n c0 nf cf nl cl : Nat) (af al : Option Addr) (peers sel : Int) (U : Nat → Up) (F lf : Nat → Int) (w : World)
    (hn1 : 1 ≤ n) (hn : n ≤ 65536) (hnf : nf ≤ 1048576) (hpe : 0 ≤ peers) (hpe2 : peers ≤ 255) (hsel : 0 ≤ sel) (hU : Ups w b0 o0 n U)
    (hU1 : ∀ x, x < n → -2147483648 ≤ (U x).peer ∧ (U x).peer ≤ 2147483647) (hU2 : ∀ x, x < n → -2147483648 ≤ (U x).place ∧ (U x).place ≤ 2147483647)
    (hF : Fd w w.heap.size af nf F) (hL : Lf w w.heap.size al nl lf) :
    Calls Yba.prog 4 #[.slice (some ⟨b0, o0, none⟩) n c0, .int .u8 peers, .int .u64 sel, .slice af nf cf, .slice al nl cl] w fun e w' => e = .returned (.bool true) ∧ Chg w w' (fun _ => False) := by
  obtain ⟨np, hnp⟩ : ∃ np : Nat, (np : Int) = 1 + peers % 8 := ⟨(1 + peers % 8).toNat, by omega⟩
  have hp1 : 1 ≤ np := by omega
  have hp8 : np ≤ 8 := by omega
  obtain ⟨x, hxe⟩ : ∃ x : Nat, (x : Int) = sel % n := ⟨(sel % n).toNat, by have := Int.emod_nonneg sel (show (n : Int) ≠ 0 by omega); omega⟩
  have hx : x < n := by have := Int.emod_lt_of_pos sel (show (0 : Int) < n by omega); omega
  have lb0 := hU.lt
  have hpx := own_lt U np x hp1
  have hw0 : Chg w w (fun _ => False) := Chg.refl _ _
  refine calls_of_wp Yba.func4 f4_body ?_
  rw [f4_split]
  have f0 := f4_enter (.slice (some ⟨b0, o0, none⟩) n c0) (.int .u8 peers) (.int .u64 sel) (.slice af nf cf) (.slice al nl cl)
  generalize hA : (#[Value.slice (some ⟨b0, o0, none⟩) n c0, .int .u8 peers, .int .u64 sel, .slice af nf cf, .slice al nl cl] ++ Array.replicate (Yba.f4.ntmps - #[Value.slice (some ⟨b0, o0, none⟩) n c0, .int .u8 peers, .int .u64 sel, .slice af nf cf, .slice al nl cl].size) undef) = arr0 at f0 ⊢
  clear hA
  refine wp_seq (st0  arr0 w _ _ _ _ _ _ _ _ _ _ _ _ _ _ _ _ _ _ _ _ _ _ _  f0 (fun arr1  f1  => ?_))
  refine wp_seq (st1 (some ⟨b0, o0, none⟩) af n c0 nf cf arr1 w _ _ _ _ _ _ _ _ _ _ _ _ _ _ _ _ _ _ _ _ _ hn hnf f1 (fun arr2  f2  => ?_))
  refine wp_seq (st2 (some ⟨b0, o0, none⟩) n c0 arr2 w _ _ _ _ _ _ _ _ _ _ _ _ _ _ _ _ _ _ _ _ _ _  f2 (fun arr3  f3  => ?_))
  refine wp_seq (st3 n arr3 w _ _ _ _ _ _ _ _ _ _ _ _ _ _ _ _ _ _ _ _ _ _ hn1 f3 (fun arr4  f4  => ?_))
  refine wp_seq (st4 peers np arr4 w _ _ _ _ _ _ _ _ _ _ _ _ _ _ _ _ _ _ _ _ _ _ hpe hpe2 hnp f4 (fun arr5  f5  => ?_))
  refine wp_seq (st5 sel n x arr5 w _ _ _ _ _ _ _ _ _ _ _ _ _ _ _ _ _ _ _ _ _ hsel hn1 hn hxe f5 (fun arr6  f6  => ?_))
  refine wp_seq (st6 n arr6 w _ _ _ _ _ _ _ _ _ _ _ _ _ _ _ _ _ _ _ _ _ _ (by omega) f6 (fun arr7 f7 => ?_))
  have ro0 := RowF.new w 21 n (.int .i32 0)
  have ca_ro : Chg w (w.alloc (.cells (Array.replicate n (Value.int .i32 0)) 21)) (fun _ => False) := (Chg.refl _ _).alloc _
  obtain ⟨g, hg⟩ : ∃ b, b = w.heap.size := ⟨_, rfl⟩
  rw [← hg] at ro0 f7
  generalize w.alloc (.cells (Array.replicate n (Value.int .i32 0)) 21) = w1 at ca_ro ro0 ⊢
  have z1 := ca_ro.size
  have hw1 := Chg.fresh hw0 ca_ro (fun j hj => by first | exact id | omega)
  have y_ro := ro0.lt
  refine wp_seq (st7 b0 o0 n c0 np g U arr7 w1 _ _ _ _ _ _ _ _ _ _ _ _ _ _ _ _ _ _ _ hn hp1 hp8 (hU.chg hw1 id) (by omega) ro0 f7 (fun arr8 w2 f8 ro_ c7 => ?_))
  have z2 := c7.size
  have hw2 := Chg.fresh hw1 c7 (fun j hj => by first | exact id | omega)
  refine wp_seq (st8 n arr8 w2 _ _ _ _ _ _ _ _ _ _ _ _ _ _ _ _ _ _ _ _ _ _ (by omega) f8 (fun arr9 f9 => ?_))
  have ru0 := RowF.new w2 32 (n * 6) (.int .i32 0)
  have ca_ru : Chg w2 (w2.alloc (.cells (Array.replicate (n * 6) (Value.int .i32 0)) 32)) (fun _ => False) := (Chg.refl _ _).alloc _
  obtain ⟨gu, hgu⟩ : ∃ b, b = w2.heap.size := ⟨_, rfl⟩
  rw [← hgu] at ru0 f9
  generalize w2.alloc (.cells (Array.replicate (n * 6) (Value.int .i32 0)) 32) = w3 at ca_ru ru0 ⊢
  have z3 := ca_ru.size
  have hw3 := Chg.fresh hw2 ca_ru (fun j hj => by first | exact id | omega)
  have ro3 := ro_.chg ca_ru (by first | exact id | omega)
  have y_ru := ru0.lt
  refine wp_seq (st9 np arr9 w3 _ _ _ _ _ _ _ _ _ _ _ _ _ _ _ _ _ _ _ _ _ _ (by omega) f9 (fun arr10 f10 => ?_))
  have rl0 := RowF.new w3 21 np (.int .i32 0)
  have ca_rl : Chg w3 (w3.alloc (.cells (Array.replicate np (Value.int .i32 0)) 21)) (fun _ => False) := (Chg.refl _ _).alloc _
  obtain ⟨gl, hgl⟩ : ∃ b, b = w3.heap.size := ⟨_, rfl⟩
  rw [← hgl] at rl0 f10
  generalize w3.alloc (.cells (Array.replicate np (Value.int .i32 0)) 21) = w4 at ca_rl rl0 ⊢
  have z4 := ca_rl.size
  have hw4 := Chg.fresh hw3 ca_rl (fun j hj => by first | exact id | omega)
  have ro4 := ro3.chg ca_rl (by first | exact id | omega)
  have ru4 := ru0.chg ca_rl (by first | exact id | omega)
  have y_rl := rl0.lt
  refine wp_seq (st10 np gl arr10 w4 _ _ _ _ _ _ _ _ _ _ _ _ _ _ _ _ _ _ _ _ _ hp8 rl0 f10 (fun arr11 w5 f11 rl_ c10 => ?_))
  have z5 := c10.size
  have hw5 := Chg.fresh hw4 c10 (fun j hj => by first | exact id | omega)
  have ro5 := ro4.chg c10 (by first | exact id | omega)
  have ru5 := ru4.chg c10 (by first | exact id | omega)
  refine wp_seq (st11  arr11 w5 _ _ _ _ _ _ _ _ _ _ _ _ _ _ _ _ _ _ _ _ _ _ _  f11 (fun arr12  f12  => ?_))
  have f12x := Fx.ofFr f12
  refine wp_seq (s12 b0 o0 n c0 np g gu gl U arr12 w5 _ _ _ _ _ _ _ _ _ _ _ _ _ _ _ _ _ _ _ _ _ _ _ _ _ _ _ _ _ _ _ _ _ _ _ _ _ _ _ _ _ _ hn hp1 hp8 (hU.chg hw5 id) ro5 ru5 rl_ (by omega) f12x (fun arr13 w6 v12 u20 f13 ru_ rl2 o12 c12 => ?_))
  have z6 := c12.size
  have hw6 := Chg.fresh hw5 c12 (fun j hj => by first | exact id | omega)
  have ro6 := ro5.chg c12 (by first | exact id | omega)
  obtain ⟨ao, cp, hv12⟩ := ownsRow_len o12
  subst hv12
  refine wp_seq (s13 ao (npL U n).length cp arr13 w6 _ _ _ _ _ _ _ _ _ _ _ _ _ _ _ _ _ _ _ _ _ _ _ _ _ _ _ _ _ _ _ _ _ _ _ _ _ _ _ _ _ _ _ _ _ _ _ _  f13 (fun arr14  f14  => ?_))
  obtain ⟨B, hB⟩ : ∃ b, b = w5.heap.size := ⟨_, rfl⟩
  rw [← hB] at o12
  refine wp_seq (s14 b0 o0 n c0 B U arr14 w6 _ _ _ _ _ _ _ _ _ _ _ _ _ _ _ _ _ _ _ _ _ _ _ _ _ _ _ _ _ _ _ _ _ _ _ _ _ _ _ _ _ _ _ _ _ _ _ hn (hU.chg hw6 id) (by omega) (by omega) o12 f14 (fun arr15 w7 v14 u22 f15 o14 c14 => ?_))
  have z7 := c14.size
  have hw7 := Chg.fresh hw6 c14 (fun j hj => by first | exact id | omega)
  have ro7 := ro6.chg c14 (by first | exact id | omega)
  have ru7 := ru_.chg c14 (by first | exact id | omega)
  have rl7 := rl2.chg c14 (by first | exact id | omega)
  obtain ⟨G, hG⟩ : ∃ G, G = given (fun i => (U i).pend) n := ⟨_, rfl⟩
  rw [← hG] at o14
  have hGl : G.length = n := by rw [hG]; exact given_length _ _
  have hGnd : G.Nodup := by rw [hG]; exact given_nodup _ _
  have hGn : ∀ i ∈ G, i < n := fun i hi => (given_mem _ _ i).1 (by rw [← hG]; exact hi)
  obtain ⟨gg, cap, hv14, hgg, rg_, hcap, hcm⟩ := own_row o14 (by omega)
  subst hv14
  rw [hGl] at f15 rg_ hcap
  have y_rg := rg_.lt
  refine wp_seq (s15 (some ⟨gg, 0, none⟩) n cap arr15 w7 _ _ _ _ _ _ _ _ _ _ _ _ _ _ _ _ _ _ _ _ _ _ _ _ _ _ _ _ _ _ _ _ _ _ _ _ _ _ _ _ _ _ _ _ _ _ _ _ (by omega) f15 (fun arr16 f16 => ?_))
  have rc0 := RowF.new w7 21 n (.int .i32 0)
  have ca_rc : Chg w7 (w7.alloc (.cells (Array.replicate n (Value.int .i32 0)) 21)) (fun _ => False) := (Chg.refl _ _).alloc _
  obtain ⟨gc, hgc⟩ : ∃ b, b = w7.heap.size := ⟨_, rfl⟩
  rw [← hgc] at rc0 f16
  generalize w7.alloc (.cells (Array.replicate n (Value.int .i32 0)) 21) = w8 at ca_rc rc0 ⊢
  have z8 := ca_rc.size
  have hw8 := Chg.fresh hw7 ca_rc (fun j hj => by first | exact id | omega)
  have ro8 := ro7.chg ca_rc (by first | exact id | omega)
  have ru8 := ru7.chg ca_rc (by first | exact id | omega)
  have rl8 := rl7.chg ca_rc (by first | exact id | omega)
  have rg8 := rg_.chg ca_rc (by first | exact id | omega)
  have y_rc := rc0.lt
  refine wp_seq (s16 (some ⟨gg, 0, none⟩) n cap gc _ (intF (fun k => (G.getD k 0 : Nat))) arr16 w8 _ _ _ _ _ _ _ _ _ _ _ _ _ _ _ _ _ _ _ _ _ _ _ _ _ _ _ _ _ _ _ _ _ _ _ _ _ _ _ _ _ _ _ _ _ _ _ rc0 (fun _ => ⟨_, rfl, fun j hj => by rw [addr_add, Nat.zero_add]; exact rg8.cell hj⟩) (fun _ _ => rfl) f16 (fun arr17 w9 f17 rc_ c16 => ?_))
  have z9 := c16.size
  have hw9 := Chg.fresh hw8 c16 (fun j hj => by first | exact id | omega)
  have ro9 := ro8.chg c16 (by first | exact id | omega)
  have ru9 := ru8.chg c16 (by first | exact id | omega)
  have rl9 := rl8.chg c16 (by first | exact id | omega)
  have rg9 := rg8.chg c16 (by first | exact id | omega)
  refine wp_seq (s17 af nf cf arr17 w9 _ _ _ _ _ _ _ _ _ _ _ _ _ _ _ _ _ _ _ _ _ _ _ _ _ _ _ _ _ _ _ _ _ _ _ _ _ _ _ _ _ _ _ _ _ _ _ _ (by omega) f17 (fun arr18 f18 => ?_))
  have rf0 := RowF.new w9 21 nf (.int .i32 0)
  have ca_rf : Chg w9 (w9.alloc (.cells (Array.replicate nf (Value.int .i32 0)) 21)) (fun _ => False) := (Chg.refl _ _).alloc _
  obtain ⟨gf, hgf⟩ : ∃ b, b = w9.heap.size := ⟨_, rfl⟩
  rw [← hgf] at rf0 f18
  generalize w9.alloc (.cells (Array.replicate nf (Value.int .i32 0)) 21) = w10 at ca_rf rf0 ⊢
  have z10 := ca_rf.size
  have hw10 := Chg.fresh hw9 ca_rf (fun j hj => by first | exact id | omega)
  have ro10 := ro9.chg ca_rf (by first | exact id | omega)
  have ru10 := ru9.chg ca_rf (by first | exact id | omega)
  have rl10 := rl9.chg ca_rf (by first | exact id | omega)
  have rg10 := rg9.chg ca_rf (by first | exact id | omega)
  have rc10 := rc_.chg ca_rf (by first | exact id | omega)
  have y_rf := rf0.lt
  refine wp_seq (s18 af nf cf gf _ (intF F) arr18 w10 _ _ _ _ _ _ _ _ _ _ _ _ _ _ _ _ _ _ _ _ _ _ _ _ _ _ _ _ _ _ _ _ _ _ _ _ _ _ _ _ _ _ _ _ _ _ _ rf0 (fd_src (hF.chg hw10 (fun _ _ => id))) (fun _ _ => rfl) f18 (fun arr19 w11 f19 rf_ c18 => ?_))
  have z11 := c18.size
  have hw11 := Chg.fresh hw10 c18 (fun j hj => by first | exact id | omega)
  have ro11 := ro10.chg c18 (by first | exact id | omega)
  have ru11 := ru10.chg c18 (by first | exact id | omega)
  have rl11 := rl10.chg c18 (by first | exact id | omega)
  have rg11 := rg10.chg c18 (by first | exact id | omega)
  have rc11 := rc10.chg c18 (by first | exact id | omega)
  obtain ⟨T, hT⟩ : ∃ b, b = w11.heap.size := ⟨_, rfl⟩
  refine wp_seq (s19 (some ⟨gu, 0, none⟩) (some ⟨gl, 0, none⟩) (some ⟨gf, 0, none⟩) (some ⟨gg, 0, none⟩) n n np np n cap nf nf ((npL U n).length : Int) arr19 w11 _ _ _ _ _ _ _ _ _ _ _ _ _ _ _ _ _ _ _ _ _ _ _ _ _ _ _ _ _ _ _ _ _ _ _ _ _ _ _ _ _ _ _ _ f19 (fun arr20 w12 f20 hrow c19 => ?_))
  rw [← hT] at hrow f20
  obtain ⟨ft, rt_, e13, e17, e18, e20, e22, e32⟩ := hrow
  have y_rt := rt_.lt
  have z12 := c19.size
  have hw12 := Chg.fresh hw11 c19 (fun j hj => by first | exact id | omega)
  have ro12 := ro11.chg c19 (by first | exact id | omega)
  have ru12 := ru11.chg c19 (by first | exact id | omega)
  have rl12 := rl11.chg c19 (by first | exact id | omega)
  have rg12 := rg11.chg c19 (by first | exact id | omega)
  have rc12 := rc11.chg c19 (by first | exact id | omega)
  have rf12 := rf_.chg c19 (by first | exact id | omega)
  refine wp_seq (s20 np arr20 w12 _ _ _ _ _ _ _ _ _ _ _ _ _ _ _ _ _ _ _ _ _ _ _ _ _ _ _ _ _ _ _ _ _ _ _ _ _ _ _ _ _ _ _ _ _ _ _ _ (by omega) f20 (fun arr21 f21 => ?_))
  have rn0 := RowF.new w12 3 np (.int .i64 0)
  have ca_rn : Chg w12 (w12.alloc (.cells (Array.replicate np (Value.int .i64 0)) 3)) (fun _ => False) := (Chg.refl _ _).alloc _
  obtain ⟨gn, hgn⟩ : ∃ b, b = w12.heap.size := ⟨_, rfl⟩
  rw [← hgn] at rn0 f21
  generalize w12.alloc (.cells (Array.replicate np (Value.int .i64 0)) 3) = w13 at ca_rn rn0 ⊢
  have z13 := ca_rn.size
  have hw13 := Chg.fresh hw12 ca_rn (fun j hj => by first | exact id | omega)
  have ro13 := ro12.chg ca_rn (by first | exact id | omega)
  have ru13 := ru12.chg ca_rn (by first | exact id | omega)
  have rl13 := rl12.chg ca_rn (by first | exact id | omega)
  have rg13 := rg12.chg ca_rn (by first | exact id | omega)
  have rc13 := rc12.chg ca_rn (by first | exact id | omega)
  have rf13 := rf12.chg ca_rn (by first | exact id | omega)
  have rt13 := rt_.chg ca_rn (by first | exact id | omega)
  have y_rn := rn0.lt
  refine wp_seq (s21 np T gn nl cl w13.heap.size w.heap.size al lf ft arr21 w13 _ _ _ _ _ _ _ _ _ _ _ _ _ _ _ _ _ _ _ _ _ _ _ _ _ _ _ _ _ _ _ _ _ _ _ _ _ _ _ _ _ _ _ _ _ hp1 hp8 rfl (hL.chg hw13 (fun _ _ => id)) (by omega) e13 rt13 rn0 (by omega) f21 (fun arr22 w14 u27 u28 u29 gup capu f22 hgup rt2 rp_ rn_ c21 => ?_))
  have y_rp := rp_.lt
  have z14 := c21.size
  have hw14 := Chg.fresh hw13 c21 (fun j hj => by first | exact id | omega)
  have ro14 := ro13.chg c21 (by first | exact id | omega)
  have ru14 := ru13.chg c21 (by first | exact id | omega)
  have rl14 := rl13.chg c21 (by first | exact id | omega)
  have rg14 := rg13.chg c21 (by first | exact id | omega)
  have rc14 := rc13.chg c21 (by first | exact id | omega)
  have rf14 := rf13.chg c21 (by first | exact id | omega)
  refine wp_seq (s22 n g x np U arr22 w14 _ _ _ _ _ _ _ _ _ _ _ _ _ _ _ _ _ _ _ _ _ _ _ _ _ _ _ _ _ _ _ _ _ _ _ _ _ _ _ _ _ _ _ _ _ _ _ hx ro14 f22 (fun arr23  f23  => ?_))
  refine wp_seq (s23 n arr23 w14 _ _ _ _ _ _ _ _ _ _ _ _ _ _ _ _ _ _ _ _ _ _ _ _ _ _ _ _ _ _ _ _ _ _ _ _ _ _ _ _ _ _ _ _ _ _ _ _ (by omega) f23 (fun arr24 f24 => ?_))
  have re0 := RowF.new w14 21 n (.int .i32 0)
  have ca_re : Chg w14 (w14.alloc (.cells (Array.replicate n (Value.int .i32 0)) 21)) (fun _ => False) := (Chg.refl _ _).alloc _
  obtain ⟨ge, hge⟩ : ∃ b, b = w14.heap.size := ⟨_, rfl⟩
  rw [← hge] at re0 f24
  generalize w14.alloc (.cells (Array.replicate n (Value.int .i32 0)) 21) = w15 at ca_re re0 ⊢
  have z15 := ca_re.size
  have hw15 := Chg.fresh hw14 ca_re (fun j hj => by first | exact id | omega)
  have ro15 := ro14.chg ca_re (by first | exact id | omega)
  have ru15 := ru14.chg ca_re (by first | exact id | omega)
  have rl15 := rl14.chg ca_re (by first | exact id | omega)
  have rg15 := rg14.chg ca_re (by first | exact id | omega)
  have rc15 := rc14.chg ca_re (by first | exact id | omega)
  have rf15 := rf14.chg ca_re (by first | exact id | omega)
  have rt15 := rt2.chg ca_re (by first | exact id | omega)
  have rn15 := rn_.chg ca_re (by first | exact id | omega)
  have rp15 := rp_.chg ca_re (by first | exact id | omega)
  have y_re := re0.lt
  refine wp_seq (s24 np arr24 w15 _ _ _ _ _ _ _ _ _ _ _ _ _ _ _ _ _ _ _ _ _ _ _ _ _ _ _ _ _ _ _ _ _ _ _ _ _ _ _ _ _ _ _ _ _ _ _ _ (by omega) f24 (fun arr25 f25 => ?_))
  have rq0 := RowF.new w15 21 np (.int .i32 0)
  have ca_rq : Chg w15 (w15.alloc (.cells (Array.replicate np (Value.int .i32 0)) 21)) (fun _ => False) := (Chg.refl _ _).alloc _
  obtain ⟨gel, hgel⟩ : ∃ b, b = w15.heap.size := ⟨_, rfl⟩
  rw [← hgel] at rq0 f25
  generalize w15.alloc (.cells (Array.replicate np (Value.int .i32 0)) 21) = w16 at ca_rq rq0 ⊢
  have z16 := ca_rq.size
  have hw16 := Chg.fresh hw15 ca_rq (fun j hj => by first | exact id | omega)
  have ro16 := ro15.chg ca_rq (by first | exact id | omega)
  have ru16 := ru15.chg ca_rq (by first | exact id | omega)
  have rl16 := rl15.chg ca_rq (by first | exact id | omega)
  have rg16 := rg15.chg ca_rq (by first | exact id | omega)
  have rc16 := rc15.chg ca_rq (by first | exact id | omega)
  have rf16 := rf15.chg ca_rq (by first | exact id | omega)
  have rt16 := rt15.chg ca_rq (by first | exact id | omega)
  have rn16 := rn15.chg ca_rq (by first | exact id | omega)
  have rp16 := rp15.chg ca_rq (by first | exact id | omega)
  have re16 := re0.chg ca_rq (by first | exact id | omega)
  have y_rq := rq0.lt
  refine wp_seq (s25 b0 o0 n c0 g np x ge gel U w16.heap.size (fun _ => 0) (fun _ => 0) arr25 w16 _ _ _ _ _ _ _ _ _ _ _ _ _ _ _ _ _ _ _ _ _ _ _ _ _ _ _ _ _ _ _ _ _ _ _ _ _ _ _ _ _ _ hn1 hn hp8 (hU.chg hw16 id) ro16 rfl re16 rq0 (by omega) f25 (fun arr26 w17 u33 u34 u35 u36 u37 u38 e25 el25 f26 re2 rq2 hexp c25 => ?_))
  have z17 := c25.size
  have hw17 := Chg.fresh hw16 c25 (fun j hj => by first | exact id | omega)
  have ro17 := ro16.chg c25 (by first | exact id | omega)
  have ru17 := ru16.chg c25 (by first | exact id | omega)
  have rl17 := rl16.chg c25 (by first | exact id | omega)
  have rg17 := rg16.chg c25 (by first | exact id | omega)
  have rc17 := rc16.chg c25 (by first | exact id | omega)
  have rf17 := rf16.chg c25 (by first | exact id | omega)
  have rt17 := rt16.chg c25 (by first | exact id | omega)
  have rn17 := rn16.chg c25 (by first | exact id | omega)
  have rp17 := rp16.chg c25 (by first | exact id | omega)
  refine wp_seq (s26 n ge x arr26 w17 _ _ _ _ _ _ _ _ _ _ _ _ _ _ _ _ _ _ _ _ _ _ _ _ _ _ _ _ _ _ _ _ _ _ _ _ _ _ _ _ _ _ _ _ _ _ _ e25 hx re2 f26 (fun arr27 w18 f27 re3 c26 => ?_))
  have z18 := c26.size
  have hw18 := Chg.fresh hw17 c26 (fun j hj => by first | exact id | omega)
  have ro18 := ro17.chg c26 (by first | exact id | omega)
  have ru18 := ru17.chg c26 (by first | exact id | omega)
  have rl18 := rl17.chg c26 (by first | exact id | omega)
  have rg18 := rg17.chg c26 (by first | exact id | omega)
  have rc18 := rc17.chg c26 (by first | exact id | omega)
  have rf18 := rf17.chg c26 (by first | exact id | omega)
  have rt18 := rt17.chg c26 (by first | exact id | omega)
  have rn18 := rn17.chg c26 (by first | exact id | omega)
  have rp18 := rp17.chg c26 (by first | exact id | omega)
  have rq18 := rq2.chg c26 (by first | exact id | omega)
  skip
  obtain ⟨c1, c2, hch⟩ := List.append_of_mem ((chainL_mem (own U np) G (own U np x) x).2 ⟨by rw [hG]; exact (given_mem _ _ x).2 hx, rfl⟩)
  have hGt : G.take (npL U n).length = npL U n := by rw [hG]; unfold given; exact List.take_left
  have hm : (npL U n).length ≤ n := npL_le U n
  have tk : Tk w18 T gu gl gg gup gf n np cap capu nf nf U (upd ft 13 (.slice (some ⟨gup, 0, none⟩) np capu)) (lnk (own U np) (G.take (npL U n).length)) G (cntF nl lf) F := by
    rw [hGt]
    exact ⟨⟨rt18, ru18, rl18, rg18, e17, e18, e22, by omega⟩, rp18, rf18, rfl, e32, by omega⟩
  have hcall := take_any T gu gl gg gup gf n np cap capu nf (npL U n).length x U (upd ft 13 (.slice (some ⟨gup, 0, none⟩) np capu)) G c1 c2 (cntF nl lf) F w18 hn hp1 hp8 hm hcap hcm hx hnf hGl hGn hGnd e20 (fun p _ => cnt_bd hL p) (hU1 x hx) (hU2 x hx) hch tk
  refine wp_seq (s27 T x (U x).peer (U x).place _ arr27 w18 _ _ _ _ _ _ _ _ _ _ _ _ _ _ _ _ _ _ _ _ _ _ _ _ _ _ _ _ _ _ _ _ _ _ _ _ _ _ _ _ _ _ _ _ _ _ _ hcall f27 (fun arr28 w20 w19 gr f28 hz c27 hgr rr_ => ?_))
  obtain ⟨gf2, capf, hgf2, tk2, c26b⟩ := hz
  have y_f2 := tk2.fr.lt
  have y_rr := rr_.lt
  have z19 := c26b.size
  have hw19 := Chg.fresh hw18 c26b (fun j hj => by first | exact id | omega)
  have ro19 := ro18.chg c26b (by first | exact id | omega)
  have rc19 := rc18.chg c26b (by first | exact id | omega)
  have rn19 := rn18.chg c26b (by first | exact id | omega)
  have rq19 := rq18.chg c26b (by first | exact id | omega)
  have re19 := re3.chg c26b (by first | exact id | omega)
  have z20 := c27.size
  have hw20 := Chg.fresh hw19 c27 (fun j hj => by first | exact id | omega)
  have ro20 := ro19.chg c27 (by first | exact id | omega)
  have rc20 := rc19.chg c27 (by first | exact id | omega)
  have rn20 := rn19.chg c27 (by first | exact id | omega)
  have rq20 := rq19.chg c27 (by first | exact id | omega)
  have re20 := re19.chg c27 (by first | exact id | omega)
  have tk3 := tk2.still c27
  obtain ⟨⟨t3, u3, l3, g3, e17b, e18b, e22b, ne1⟩, p3, fr3, e13b, e32b, ne2⟩ := tk3
  have hexp2 := expected U np n x e25 el25 c1 c2 hp1 hx (by rw [← hG]; exact hch) hexp
  rw [← hG] at hexp2
  refine wp_seq (of_Qp (R := fun e w' => e = .returned (.bool true) ∧ Chg w w' (fun _ => False)) (fun _ _ _ h => h) (s28 b0 o0 n c0 x gr U arr28 w20 _ _ _ _ _ _ _ _ _ _ _ _ _ _ _ _ _ _ _ _ _ _ _ _ _ _ _ _ _ _ _ _ _ _ _ _ _ _ _ _ _ _ _ _ _ _ _ hx (hU.chg hw20 id) (hU1 x hx) (hU2 x hx) rr_ f28 (fun arr29 w21 f29 c28 => ?_)))
  have z21 := c28.size
  have hw21 := Chg.fresh hw20 c28 (fun j hj => by first | exact id | omega)
  have ro21 := ro20.chg c28 (by first | exact id | omega)
  have rc21 := rc20.chg c28 (by first | exact id | omega)
  have rn21 := rn20.chg c28 (by first | exact id | omega)
  have rq21 := rq20.chg c28 (by first | exact id | omega)
  have re21 := re20.chg c28 (by first | exact id | omega)
  have rr21 := rr_.chg c28 (by first | exact id | omega)
  have qt21 := t3.chg c28 (by first | exact id | omega)
  have qu21 := u3.chg c28 (by first | exact id | omega)
  have ql21 := l3.chg c28 (by first | exact id | omega)
  have qg21 := g3.chg c28 (by first | exact id | omega)
  have qp21 := p3.chg c28 (by first | exact id | omega)
  have qf21 := fr3.chg c28 (by first | exact id | omega)
  refine wp_seq (s29 T n gu _ arr29 w21 _ _ _ _ _ _ _ _ _ _ _ _ _ _ _ _ _ _ _ _ _ _ _ _ _ _ _ _ _ _ _ _ _ _ _ _ _ _ _ _ _ _ _ _ _ _ _ e17b qt21 f29 (fun arr30  f30  => ?_))
  refine wp_seq (l30 b0 o0 n c0 g ge T gu np U _ (updI e25 x (-2)) _ arr30 w21 _ _ _ _ _ _ _ _ _ _ _ _ _ _ _ _ _ _ _ _ _ _ _ _ _ _ _ _ _ _ _ _ _ _ _ _ _ _ _ _ _ _ _ _ hn (hU.chg hw21 id) ro21 re21 hexp2.1 e17b qt21 qu21 f30 (fun arr31 w22 u40 u41 f31 c30 => ?_))
  have z22 := c30.size
  have hw22 := Chg.fresh hw21 c30 (fun j hj => by first | exact id | omega)
  have ro22 := ro21.chg c30 (by first | exact id | omega)
  have rc22 := rc21.chg c30 (by first | exact id | omega)
  have rn22 := rn21.chg c30 (by first | exact id | omega)
  have rq22 := rq21.chg c30 (by first | exact id | omega)
  have re22 := re21.chg c30 (by first | exact id | omega)
  have rr22 := rr21.chg c30 (by first | exact id | omega)
  have qt22 := qt21.chg c30 (by first | exact id | omega)
  have qu22 := qu21.chg c30 (by first | exact id | omega)
  have ql22 := ql21.chg c30 (by first | exact id | omega)
  have qg22 := qg21.chg c30 (by first | exact id | omega)
  have qp22 := qp21.chg c30 (by first | exact id | omega)
  have qf22 := qf21.chg c30 (by first | exact id | omega)
  refine wp_seq (s31 T np gl _ arr31 w22 _ _ _ _ _ _ _ _ _ _ _ _ _ _ _ _ _ _ _ _ _ _ _ _ _ _ _ _ _ _ _ _ _ _ _ _ _ _ _ _ _ _ _ _ _ _ _ e22b qt22 f31 (fun arr32  f32  => ?_))
  refine wp_seq (l32 T gl gel np _ _ el25 arr32 w22 _ _ _ _ _ _ _ _ _ _ _ _ _ _ _ _ _ _ _ _ _ _ _ _ _ _ _ _ _ _ _ _ _ _ _ _ _ _ _ _ _ _ _ _ _ _ hp8 e22b qt22 ql22 rq22 hexp2.2 f32 (fun arr33 w23 u42 f33 c32 => ?_))
  have z23 := c32.size
  have hw23 := Chg.fresh hw22 c32 (fun j hj => by first | exact id | omega)
  have ro23 := ro22.chg c32 (by first | exact id | omega)
  have rc23 := rc22.chg c32 (by first | exact id | omega)
  have rn23 := rn22.chg c32 (by first | exact id | omega)
  have rq23 := rq22.chg c32 (by first | exact id | omega)
  have re23 := re22.chg c32 (by first | exact id | omega)
  have rr23 := rr22.chg c32 (by first | exact id | omega)
  have qt23 := qt22.chg c32 (by first | exact id | omega)
  have qu23 := qu22.chg c32 (by first | exact id | omega)
  have ql23 := ql22.chg c32 (by first | exact id | omega)
  have qg23 := qg22.chg c32 (by first | exact id | omega)
  have qp23 := qp22.chg c32 (by first | exact id | omega)
  have qf23 := qf22.chg c32 (by first | exact id | omega)
  refine wp_seq (s33 T n cap gg gc _ arr33 w23 _ _ _ _ _ _ _ _ _ _ _ _ _ _ _ _ _ _ _ _ _ _ _ _ _ _ _ _ _ _ _ _ _ _ _ _ _ _ _ _ _ _ _ _ _ _ _ e18b (by simp [upd]) qt23 f33 (fun arr34  f34  => ?_))
  refine wp_seq (l34 T gg gc n cap _ _ arr34 w23 _ _ _ _ _ _ _ _ _ _ _ _ _ _ _ _ _ _ _ _ _ _ _ _ _ _ _ _ _ _ _ _ _ _ _ _ _ _ _ _ _ _ _ _ _ _ _ hn e18b qt23 qg23 rc23 f34 (fun arr35 w24 u43 f35 c34 => ?_))
  have z24 := c34.size
  have hw24 := Chg.fresh hw23 c34 (fun j hj => by first | exact id | omega)
  have ro24 := ro23.chg c34 (by first | exact id | omega)
  have rc24 := rc23.chg c34 (by first | exact id | omega)
  have rn24 := rn23.chg c34 (by first | exact id | omega)
  have rq24 := rq23.chg c34 (by first | exact id | omega)
  have re24 := re23.chg c34 (by first | exact id | omega)
  have rr24 := rr23.chg c34 (by first | exact id | omega)
  have qt24 := qt23.chg c34 (by first | exact id | omega)
  have qu24 := qu23.chg c34 (by first | exact id | omega)
  have ql24 := ql23.chg c34 (by first | exact id | omega)
  have qg24 := qg23.chg c34 (by first | exact id | omega)
  have qp24 := qp23.chg c34 (by first | exact id | omega)
  have qf24 := qf23.chg c34 (by first | exact id | omega)
  refine wp_seq (s35 T nf cf capf gf2 af _ arr35 w24 _ _ _ _ _ _ _ _ _ _ _ _ _ _ _ _ _ _ _ _ _ _ _ _ _ _ _ _ _ _ _ _ _ _ _ _ _ _ _ _ _ _ _ _ _ _ _ hnf e32b qt24 f35 (fun arr36  f36  => ?_))
  refine wp_seq (l36 T gf2 nf cf capf w.heap.size af _ F _ arr36 w24 _ _ _ _ _ _ _ _ _ _ _ _ _ _ _ _ _ _ _ _ _ _ _ _ _ _ _ _ _ _ _ _ _ _ _ _ _ _ _ _ _ _ _ _ _ _ _ hnf e32b qt24 qf24 (hF.chg hw24 (fun _ _ => id)) (fun j hj => by rw [if_pos hj]) f36 (fun arr37 w25 u44 f37 c36 => ?_))
  have z25 := c36.size
  have hw25 := Chg.fresh hw24 c36 (fun j hj => by first | exact id | omega)
  have ro25 := ro24.chg c36 (by first | exact id | omega)
  have rc25 := rc24.chg c36 (by first | exact id | omega)
  have rn25 := rn24.chg c36 (by first | exact id | omega)
  have rq25 := rq24.chg c36 (by first | exact id | omega)
  have re25 := re24.chg c36 (by first | exact id | omega)
  have rr25 := rr24.chg c36 (by first | exact id | omega)
  have qt25 := qt24.chg c36 (by first | exact id | omega)
  have qu25 := qu24.chg c36 (by first | exact id | omega)
  have ql25 := ql24.chg c36 (by first | exact id | omega)
  have qg25 := qg24.chg c36 (by first | exact id | omega)
  have qp25 := qp24.chg c36 (by first | exact id | omega)
  have qf25 := qf24.chg c36 (by first | exact id | omega)
  have q37 := qf25.cell (i := nf) (by omega)
  simp only [intF, Nat.lt_irrefl, if_false] at q37
  refine wp_seq (s37 T nf cf capf gf2 _ af _ arr37 w25 _ _ _ _ _ _ _ _ _ _ _ _ _ _ _ _ _ _ _ _ _ _ _ _ _ _ _ _ _ _ _ _ _ _ _ _ _ _ _ _ _ _ _ _ _ _ hnf e32b qt25 q37 f37 (fun arr38  f38  => ?_))
  refine wp_seq (s38 T np gup capu _ arr38 w25 _ _ _ _ _ _ _ _ _ _ _ _ _ _ _ _ _ _ _ _ _ _ _ _ _ _ _ _ _ _ _ _ _ _ _ _ _ _ _ _ _ _ _ _ _ _ _ e13b qt25 f38 (fun arr39  f39  => ?_))
  refine wp_seq (s39 np gn (own U np x) (cntF nl lf (own U np x)) _ arr39 w25 _ _ _ _ _ _ _ _ _ _ _ _ _ _ _ _ _ _ _ _ _ _ _ _ _ _ _ _ _ _ _ _ _ _ _ _ _ _ _ _ _ _ _ _ _ _ _ hpx hp8 (cnt_bd hL _) rfl rn25 f39 (fun arr40 w26 f40 rn2 c39 => ?_))
  have z26 := c39.size
  have hw26 := Chg.fresh hw25 c39 (fun j hj => by first | exact id | omega)
  have ro26 := ro25.chg c39 (by first | exact id | omega)
  have rc26 := rc25.chg c39 (by first | exact id | omega)
  have rq26 := rq25.chg c39 (by first | exact id | omega)
  have re26 := re25.chg c39 (by first | exact id | omega)
  have rr26 := rr25.chg c39 (by first | exact id | omega)
  have qt26 := qt25.chg c39 (by first | exact id | omega)
  have qu26 := qu25.chg c39 (by first | exact id | omega)
  have ql26 := ql25.chg c39 (by first | exact id | omega)
  have qg26 := qg25.chg c39 (by first | exact id | omega)
  have qp26 := qp25.chg c39 (by first | exact id | omega)
  have qf26 := qf25.chg c39 (by first | exact id | omega)
  have rn3 : RowF w26 gn 3 np (fun j => .int .i64 (updI (cntF nl lf) (own U np x) (cntF nl lf (own U np x) + 1) j)) := rn2.congr (fun j _ => by unfold upd updI; split <;> rfl)
  refine wp_seq (l40 T gup gn np capu _ _ arr40 w26 _ _ _ _ _ _ _ _ _ _ _ _ _ _ _ _ _ _ _ _ _ _ _ _ _ _ _ _ _ _ _ _ _ _ _ _ _ _ _ _ _ _ _ _ _ _ hp8 (fun p _ => cnt_up hL p) e13b qt26 qp26 rn3 (by omega) f40 (fun arr41 w27 u45 u46 f41 c40 => ?_))
  have hwz := Chg.fresh hw26 c40 (fun j hj => by omega)
  exact s41 arr41 w27 _ _ _ _ _ _ _ _ _ _ _ _ _ _ _ _ _ _ _ _ _ _ _ _ _ _ _ _ _ _ _ _ _ _ _ _ _ _ _ _ _ _ _ _ _ _ _ _ f41 ⟨rfl, hwz⟩
end Go.Proofs.Ybulkdgxk
