/-
  LawS5408BWhole: the statements in a row, from 14 on.
-/
import Derived.Test.YbulkdgzaDoorS9
namespace Go.Proofs.YbulkdgzaDoor
open Go.RowKit B
set_option linter.unusedVariables false
set_option linter.unusedSimpArgs false

theorem mn_le (T : Nat → Nat) : ∀ k i, i < k → mn T k ≤ T i
  | k + 1, i, h => by
    unfold mn
    by_cases e : i = k
    · subst e; split <;> omega
    · have := mn_le T k i (by omega)
      split <;> omega
theorem mn_mem (T : Nat → Nat) (hT : ∀ i, T i < 9223372036854775808) : ∀ k, 0 < k → ∃ i, i < k ∧ T i = mn T k
  | k + 1, _ => by
    unfold mn
    by_cases h : T k < mn T k
    · rw [if_pos h]; exact ⟨k, by omega, rfl⟩
    · rw [if_neg h]
      by_cases h0 : k = 0
      · subst h0
        refine ⟨0, by omega, ?_⟩
        have h1 := hT 0
        have h2 : mn T 0 = 9223372036854775807 := rfl
        omega
      · obtain ⟨i, h1, h2⟩ := mn_mem T hT k (by omega)
        exact ⟨i, by omega, h2⟩
theorem cn_len (T : Nat → Nat) (v : Nat) : ∀ k, cn T v k = ((List.range k).filter (fun i => decide (T i = v))).length
  | 0 => rfl
  | k + 1 => by
    unfold cn
    rw [List.range_succ, List.filter_append, List.length_append, ← cn_len T v k]
    by_cases h : T k = v
    · rw [if_pos h]; simp [h]
    · rw [if_neg h]; simp [h]
theorem got_len (T : Nat → Nat) (v n : Nat) (got : List Nat) (hd : got.Nodup) (h : ∀ i, i ∈ got ↔ i < n ∧ T i = v) : got.length = cn T v n := by
  rw [cn_len]
  have h1 := len_le got ((List.range n).filter (fun i => decide (T i = v))) hd (fun i hi => by
    have := (h i).1 hi
    rw [List.mem_filter]; exact ⟨List.mem_range.2 this.1, by simpa using this.2⟩)
  have h2 := len_le ((List.range n).filter (fun i => decide (T i = v))) got (List.Pairwise.filter _ List.nodup_range) (fun i hi => by
    rw [List.mem_filter] at hi
    exact (h i).2 ⟨List.mem_range.1 hi.1, by simpa using hi.2⟩)
  omega
theorem Mem.chg {w w' : World} {S : Nat} {tb : Nat → Nat} {n : Nat} {T : Nat → Nat} {z : Nat → Value} {nx pv : Nat → Option Nat} {ps occ : Nat → Nat} {cur : Nat} {L : Nat → Nat → List Nat} {Z : Nat → Prop} (h : Mem w S tb n T z nx pv ps occ cur L) (hc : Chg w w' Z) (hz : ∀ j, Own S tb n j → ¬ Z j) : Mem w' S tb n T z nx pv ps occ cur L :=
  ⟨h.s.chg hc (hz _ (.inl rfl)), fun i hi => (h.t i hi).chg hc (hz _ (.inr ⟨i, hi, rfl⟩)), h.ne, h.inj⟩
theorem seq_B {x y : Code} {R : Ending → World → Prop} {a : Act} {w : World} (h : x.wp Ybad.prog (Exit.then (fun a w => y.wp Ybad.prog (bodyPost Ybad.prog Ybad.f4 R) a w) (Qp (bodyPost Ybad.prog Ybad.f4 R) R)) a w) :
    (Code.seq x y).wp Ybad.prog (bodyPost Ybad.prog Ybad.f4 R) a w := wp_seq (of_Qp (fun _ _ _ h => h) h)
theorem c20on : nav [1, 1, 1, 1, 1, 1, 1, 1, 1, 1, 1, 1, 1, 1, 1, 1, 1, 1, 1, 1] (Ybad.f4.body.getD .skip) = (.seq (nav [1, 1, 1, 1, 1, 1, 1, 1, 1, 1, 1, 1, 1, 1, 1, 1, 1, 1, 1, 1, 0] (Ybad.f4.body.getD .skip)) (.seq (.seq (nav [1, 1, 1, 1, 1, 1, 1, 1, 1, 1, 1, 1, 1, 1, 1, 1, 1, 1, 1, 1, 1, 0, 0] (Ybad.f4.body.getD .skip)) (nav [1, 1, 1, 1, 1, 1, 1, 1, 1, 1, 1, 1, 1, 1, 1, 1, 1, 1, 1, 1, 1, 0, 1] (Ybad.f4.body.getD .skip))) (.seq (nav [1, 1, 1, 1, 1, 1, 1, 1, 1, 1, 1, 1, 1, 1, 1, 1, 1, 1, 1, 1, 1, 1, 0] (Ybad.f4.body.getD .skip)) (.seq (nav [1, 1, 1, 1, 1, 1, 1, 1, 1, 1, 1, 1, 1, 1, 1, 1, 1, 1, 1, 1, 1, 1, 1, 0] (Ybad.f4.body.getD .skip)) (nav [1, 1, 1, 1, 1, 1, 1, 1, 1, 1, 1, 1, 1, 1, 1, 1, 1, 1, 1, 1, 1, 1, 1, 1] (Ybad.f4.body.getD .skip)))))) := by kernel_rfl
theorem c14on : nav [1, 1, 1, 1, 1, 1, 1, 1, 1, 1, 1, 1, 1, 1] (Ybad.f4.body.getD .skip) = (.seq (nav [1, 1, 1, 1, 1, 1, 1, 1, 1, 1, 1, 1, 1, 1, 0] (Ybad.f4.body.getD .skip)) (.seq (nav [1, 1, 1, 1, 1, 1, 1, 1, 1, 1, 1, 1, 1, 1, 1, 0] (Ybad.f4.body.getD .skip)) (.seq (nav [1, 1, 1, 1, 1, 1, 1, 1, 1, 1, 1, 1, 1, 1, 1, 1, 0] (Ybad.f4.body.getD .skip)) (.seq (.seq (nav [1, 1, 1, 1, 1, 1, 1, 1, 1, 1, 1, 1, 1, 1, 1, 1, 1, 0, 0] (Ybad.f4.body.getD .skip)) (nav [1, 1, 1, 1, 1, 1, 1, 1, 1, 1, 1, 1, 1, 1, 1, 1, 1, 0, 1] (Ybad.f4.body.getD .skip))) (.seq (nav [1, 1, 1, 1, 1, 1, 1, 1, 1, 1, 1, 1, 1, 1, 1, 1, 1, 1, 0] (Ybad.f4.body.getD .skip)) (.seq (nav [1, 1, 1, 1, 1, 1, 1, 1, 1, 1, 1, 1, 1, 1, 1, 1, 1, 1, 1, 0] (Ybad.f4.body.getD .skip)) (nav [1, 1, 1, 1, 1, 1, 1, 1, 1, 1, 1, 1, 1, 1, 1, 1, 1, 1, 1, 1] (Ybad.f4.body.getD .skip)))))))) := by kernel_rfl
theorem c0on : (Ybad.f4.body.getD .skip) = (.seq (nav [0] (Ybad.f4.body.getD .skip)) (.seq (nav [1, 0] (Ybad.f4.body.getD .skip)) (.seq (nav [1, 1, 0] (Ybad.f4.body.getD .skip)) (.seq (nav [1, 1, 1, 0] (Ybad.f4.body.getD .skip)) (.seq (nav [1, 1, 1, 1, 0] (Ybad.f4.body.getD .skip)) (.seq (nav [1, 1, 1, 1, 1, 0] (Ybad.f4.body.getD .skip)) (.seq (nav [1, 1, 1, 1, 1, 1, 0] (Ybad.f4.body.getD .skip)) (.seq (nav [1, 1, 1, 1, 1, 1, 1, 0] (Ybad.f4.body.getD .skip)) (.seq (.seq (nav [1, 1, 1, 1, 1, 1, 1, 1, 0, 0] (Ybad.f4.body.getD .skip)) (nav [1, 1, 1, 1, 1, 1, 1, 1, 0, 1] (Ybad.f4.body.getD .skip))) (.seq (nav [1, 1, 1, 1, 1, 1, 1, 1, 1, 0] (Ybad.f4.body.getD .skip)) (.seq (nav [1, 1, 1, 1, 1, 1, 1, 1, 1, 1, 0] (Ybad.f4.body.getD .skip)) (.seq (nav [1, 1, 1, 1, 1, 1, 1, 1, 1, 1, 1, 0] (Ybad.f4.body.getD .skip)) (.seq (nav [1, 1, 1, 1, 1, 1, 1, 1, 1, 1, 1, 1, 0] (Ybad.f4.body.getD .skip)) (.seq (nav [1, 1, 1, 1, 1, 1, 1, 1, 1, 1, 1, 1, 1, 0] (Ybad.f4.body.getD .skip)) (nav [1, 1, 1, 1, 1, 1, 1, 1, 1, 1, 1, 1, 1, 1] (Ybad.f4.body.getD .skip)))))))))))))))) := by kernel_rfl

set_option maxHeartbeats 1000000 in
theorem tail20 (S : Nat) (tb : Nat → Nat) (n : Nat) (T : Nat → Nat) (nx pv : Nat → Option Nat) (ps occ : Nat → Nat) (wh : Wh) (A D E : Nat) (got : List Nat) (arr : Array Value) (w : World) (R : Ending → World → Prop) (v0 v1 v2 v3 v4 v5 v6 v7 v8 v9 v10 v15 v16 v17 v18 v19 v20 v21 v22 v23 v26 v27 v28 v29 v30 v31 v32 v33 v34 v35 v36 v37 v38 : Value)
    (hn : n ≤ 4096) (hx : Cx w S tb n T nx pv ps occ wh A E got) (hd : RowF w D 2 n (tkF T n)) (eD : ¬ D = E) (he : RowF w E 4 n (seenF got))
    (hs : Fx arr v0 v1 v2 v3 v4 v5 v6 v7 v8 v9 v10 (.int .i64 n) (.slice (some ⟨A, 0, none⟩) n n) (.slice (some ⟨D, 0, none⟩) n n) (.pointer (some ⟨S, 0, none⟩)) v15 v16 v17 v18 v19 v20 v21 v22 v23 (.slice (some ⟨E, 0, none⟩) n n) (.int .i64 got.length) v26 v27 v28 v29 v30 v31 v32 v33 v34 v35 v36 v37 v38)
    (HQ : ∀ w', Chg w w' (fun k => k = E) → R (.returned (.bool true)) w') :
    Code.wp Ybad.prog (nav [1, 1, 1, 1, 1, 1, 1, 1, 1, 1, 1, 1, 1, 1, 1, 1, 1, 1, 1, 1] (Ybad.f4.body.getD .skip)) (bodyPost Ybad.prog Ybad.f4 R) ⟨arr, []⟩ w := by
  rw [c20on]
  refine seq_B (st20  arr w _ _ _ _ _ _ _ _ _ _ _ _ _ _ _ _ _ _ _ _ _ _ _ _ _ _ _ _ _ _ _ _ _ _ _ _ _ _ _ _ _ _ hs (fun arr1 f1 => ?_))
  refine seq_B (seq_Qp (r56  arr1 w _ _ _ _ _ _ _ _ _ _ _ _ _ _ _ _ _ _ _ _ _ _ _ _ _ _ _ _ _ _ _ _ _ _ _ _ _ _ _ _ _ _ f1 (fun arr2 f2 => ?_)))
  refine l21 S tb n T nx pv ps occ wh A E got w arr2 w _ _ _ _ _ _ _ _ _ _ _ _ _ _ _ _ _ _ _ _ _ _ _ _ _ _ _ _ _ _ _ _ _ _ _ hn hx (Chg.refl _ _) he f2 (fun arr3 w3 x30 x31 x32 x33 x34 x35 x36 x37 f3 h3 => ?_)
  have ra := hx.a.chg h3 hx.eA
  have rd := hd.chg h3 eD
  refine seq_B (st22 n _ got.length arr3 w3 _ _ _ _ _ _ _ _ _ _ _ _ _ _ _ _ _ _ _ _ _ _ _ _ _ _ _ _ _ _ _ _ _ _ _ _ _ _ _ hn hx.all f3 (fun arr4 f4 => ?_))
  refine seq_B (st23 n A D tb T arr4 w3 _ _ _ _ _ _ _ _ _ _ _ _ _ _ _ _ _ _ _ _ _ _ _ _ _ _ _ _ _ _ _ _ _ _ _ _ _ _ _ hn (fun k hk => (ra.cell hk).trans (congrArg some (ts_at tb n k hk))) (fun k hk => (rd.cell hk).trans (congrArg some (tkF_cell T n k hk))) (fun k hk => (((hx.m.t k hk).chg h3 (hx.et k hk)).cell (i := 5) (by omega)).trans (congrArg some (tm5 ..))) f4 (fun arr5 w5 x38 x8 f5 g5 => ?_))
  obtain ⟨q, rfl⟩ := g5
  exact st24 arr5 _ R _ _ _ _ _ _ _ _ _ _ _ _ _ _ _ _ _ _ _ _ _ _ _ _ _ _ _ _ _ _ _ _ _ _ _ _ _ _ _ f5 (HQ _ (h3.drewN q))

set_option maxHeartbeats 1000000 in
theorem tail14 (S : Nat) (tb : Nat → Nat) (n : Nat) (T : Nat → Nat) (nx : Nat → Option Nat) (wh : Wh) (A D B0 c mt want : Nat) (last : Int) (d : Bool) (arr : Array Value) (w : World) (R : Ending → World → Prop) (v0 v1 v2 v4 v5 v6 v7 v8 v10 v15 v16 v17 v19 v22 v23 v24 v25 v26 v27 v28 v29 v30 v31 v32 v33 v34 v35 v36 v37 v38 : Value)
    (hn : n ≤ 4096) (hst : Sta w S tb n T z0 (fun j => j < n) wh nx) (hcur : wh.cur = c) (hc : c < 9223372036854775808) (ha : RowF w A 45 n (tsF tb n)) (hd : RowF w D 2 n (tkF T n)) (hlo : ∀ j, j < n → S < tb j) (hB : 2 < B0) (hA : B0 ≤ A) (hAD : A < D) (hDS : D < S)
    (m1 : ∀ i, i < n → mt ≤ T i) (m2 : 0 < n → ∃ i, i < n ∧ T i = mt) (hdue : d = true ↔ 0 < n ∧ (mt : Int) ≤ last) (hw : want = if d then cn T mt n else 0)
    (hs : Fx arr v0 v1 v2 (.int .i64 last) v4 v5 v6 v7 v8 (.int .i64 c) v10 (.int .i64 n) (.slice (some ⟨A, 0, none⟩) n n) (.slice (some ⟨D, 0, none⟩) n n) (.pointer (some ⟨S, 0, none⟩)) v15 v16 v17 (.int .i64 mt) v19 (.bool d) (.int .i64 want) v22 v23 v24 v25 v26 v27 v28 v29 v30 v31 v32 v33 v34 v35 v36 v37 v38)
    (HQ : ∀ w', Chg w w' (fun k => B0 ≤ k) → R (.returned (.bool true)) w') :
    Code.wp Ybad.prog (nav [1, 1, 1, 1, 1, 1, 1, 1, 1, 1, 1, 1, 1, 1] (Ybad.f4.body.getD .skip)) (bodyPost Ybad.prog Ybad.f4 R) ⟨arr, []⟩ w := by
  have hOw : ∀ j, Own S tb n j → S ≤ j := by
    rintro j (rfl | ⟨i, hi, rfl⟩)
    · omega
    · have := hlo i hi; omega
  have hSz : S < w.heap.size := by obtain ⟨pv, ps, occ, hm, _⟩ := hst.ex; exact hm.s.lt
  have hex := expire_any S tb n T z0 (fun j => j < n) wh nx last w (fun h => by have := hOw 2 h; omega) (by omega) (fun i hi => hi) (by omega) hst
  rw [c14on]
  refine seq_B (st14 S last (fun v w1 => ExpPost S tb n T z0 (fun j => j < n) wh.cur last w (.returned v) w1) arr w _ _ _ _ _ _ _ _ _ _ _ _ _ _ _ _ _ _ _ _ _ _ _ _ _ _ _ _ _ _ _ _ _ _ _ _ _ _ _ _ (hex.mono (fun e w1 h => by obtain ⟨got, wh', nx', hv, r⟩ := id h; exact ⟨_, hv, by rw [← hv]; exact h⟩)) hs (fun arr1 w1 x23 f1 g1 => ?_))
  obtain ⟨got, wh', nx', hv, hch, hst', hnxl, hnd, hcase⟩ := g1
  injection hv with hv
  rw [hv, ptr_eq, List.head?_eq_getElem?] at f1
  obtain ⟨pv, ps, occ, hm, hl⟩ := hst'.ex
  have hsz := hch.size
  have gl : ∀ i, i ∈ got → i < n := by
    intro i hi
    rcases hcase with ⟨rfl, _⟩ | ⟨_, _, _, h⟩
    · simp at hi
    · exact ((h i).1 hi).1
  -- the two cases
  have two : (d = false ∧ got = [] ∧ (n = 0 → wh'.cur = c) ∧ c ≤ wh'.cur ∧ (0 < n → wh'.cur ≤ mt) ∧ (wh'.cur = c ∨ (wh'.cur : Int) ≤ last)) ∨ (d = true ∧ wh'.cur = mt ∧ ∀ i, i ∈ got ↔ i < n ∧ T i = mt) := by
    rcases hcase with ⟨rfl, h1, h2, h3, h4⟩ | ⟨h1, h2, h3, h4⟩
    · left
      refine ⟨?_, rfl, fun h0 => hcur ▸ h4 (fun i hi => by have : i < n := hi; omega), hcur ▸ h2, fun h0 => ?_, hcur ▸ h3⟩
      · cases d with
        | false => rfl
        | true =>
          obtain ⟨h0, hm⟩ := hdue.1 rfl
          obtain ⟨i, hi, e⟩ := m2 h0
          have := h1 i hi
          omega
      · obtain ⟨i, hi, e⟩ := m2 h0
        have := hst'.inv.ge i ⟨hi, by simp⟩
        omega
    · right
      obtain ⟨i0, hi0⟩ := List.exists_mem_of_ne_nil _ h1
      obtain ⟨hin, hT0⟩ := (h4 i0).1 hi0
      have hin' : i0 < n := hin
      obtain ⟨i, hi, e⟩ := m2 (by omega)
      have e2 : wh'.cur = mt := by
        have a1 := h3 i hi
        have a2 := m1 i0 hin'
        omega
      exact ⟨hdue.2 ⟨by omega, by omega⟩, e2, fun i => by rw [← e2]; exact h4 i⟩
  have gt : ∀ i, i ∈ got → T i = mt := by
    intro i hi
    rcases two with ⟨_, rfl, _⟩ | ⟨_, _, h⟩
    · simp at hi
    · exact ((h i).1 hi).2
  have hlen : got.length = want := by
    rcases two with ⟨rfl, rfl, _⟩ | ⟨rfl, _, h⟩
    · rw [hw]; rfl
    · rw [hw, if_pos rfl]; exact got_len T mt n got hnd h
  refine seq_B (st15 n arr1 w1 _ _ _ _ _ _ _ _ _ _ _ _ _ _ _ _ _ _ _ _ _ _ _ _ _ _ _ _ _ _ _ _ _ _ _ _ _ _ _ _ _ hn f1 (fun arr2 f2 => ?_))
  have hE0 := RowF.new w1 4 n (.bool false)
  have hch2 : Chg w1 (w1.alloc (.cells (Array.replicate n (Value.bool false)) 4)) (fun _ => False) := (Chg.refl _ _).alloc _
  generalize (w1.alloc (.cells (Array.replicate n (Value.bool false)) 4)) = w2 at hE0 hch2 ⊢
  generalize hEE : w1.heap.size = E at hE0 f2
  have hSl := hm.s.lt
  have nSE : ¬ S = E := by omega
  have nAE : ¬ A = E := by omega
  have nDE : ¬ D = E := by omega
  have ntE : ∀ i, i < n → ¬ tb i = E := fun i hi e => by have := (hm.t i hi).lt; omega
  have hm2 := hm.chg hch2 (fun _ _ h => h)
  have ha1 := ha.chg hch (fun h => by have := hOw _ h; omega)
  have hd1 := hd.chg hch (fun h => by have := hOw _ h; omega)
  have ha2 := ha1.chg hch2 (fun h => h)
  have hd2 := hd1.chg hch2 (fun h => h)
  have he2 : RowF w2 E 4 n (seenF []) := hE0.congr (fun i hi => by unfold seenF; simp)
  refine seq_B (st16  arr2 w2 _ _ _ _ _ _ _ _ _ _ _ _ _ _ _ _ _ _ _ _ _ _ _ _ _ _ _ _ _ _ _ _ _ _ _ _ _ _ _ _ _ _ f2 (fun arr3 f3 => ?_))
  refine seq_B (seq_Qp (r17i _ arr3 w2 _ _ _ _ _ _ _ _ _ _ _ _ _ _ _ _ _ _ _ _ _ _ _ _ _ _ _ _ _ _ _ _ _ _ _ _ _ _ _ _ _ f3 (fun arr4 f4 => ?_)))
  refine l17 S tb n T nx' pv ps occ wh'.cur wh'.L A E mt got arr4 w2 _ _ _ _ _ _ _ _ _ _ _ _ _ _ _ _ _ _ _ _ _ _ _ _ _ _ _ _ _ _ _ _ _ _ _ _ hn hm2 ha2 hnxl hnd gl gt ntE nAE he2 f4 (fun arr5 w5 x26 x27 f5 r5 h5 => ?_)
  have hm5 := hm2.chg h5 (by
    rintro j (rfl | ⟨i, hi, rfl⟩)
    · exact nSE
    · exact ntE i hi)
  have hx : Cx w5 S tb n T nx' pv ps occ wh' A E got := ⟨hm5, hl, hst'.inv, ha2.chg h5 nAE, nSE, ntE, nAE, hnd, gl⟩
  have hd5 := hd2.chg h5 nDE
  have hfin : ∀ w', Chg w5 w' (fun k => k = E) → R (.returned (.bool true)) w' := fun w' h => by
    refine HQ w' (((hch.mono (fun j _ h => ?_)).trans (hch2.mono (fun _ _ h => h.elim))).trans ((h5.trans h).mono (fun j _ h => ?_)))
    · have := hOw j h; omega
    · have h' : j = E := h
      omega
  rw [hlen] at f5
  refine seq_B (st18 want arr5 w5 _ _ _ _ _ _ _ _ _ _ _ _ _ _ _ _ _ _ _ _ _ _ _ _ _ _ _ _ _ _ _ _ _ _ _ _ _ _ _ _ f5 (fun arr6 f6 => ?_))
  have c0 := (hm5.s.cell (i := 0) (by omega)).trans (congrArg some (slF_cur ..))
  rcases two with ⟨rfl, hgot, h1, h2, h3, h4⟩ | ⟨rfl, e2, h⟩
  · refine seq_B (st19n S mt n c wh'.cur last arr6 w5 _ _ _ _ _ _ _ _ _ _ _ _ _ _ _ _ _ _ _ _ _ _ _ _ _ _ _ _ _ _ _ _ _ _ _ _ c0 h1 h2 h3 h4 f6 (fun arr7 f7 => ?_))
    rw [← hlen] at f7
    exact tail20 S tb n T nx' pv ps occ wh' A D E got arr7 w5 R _ _ _ _ _ _ _ _ _ _ _ _ _ _ _ _ _ _ _ _ _ _ _ _ _ _ _ _ _ _ _ _ _ hn hx hd5 nDE r5 f7 hfin
  · rw [e2] at c0
    refine seq_B (st19d S mt arr6 w5 _ _ _ _ _ _ _ _ _ _ _ _ _ _ _ _ _ _ _ _ _ _ _ _ _ _ _ _ _ _ _ _ _ _ _ _ _ _ _ c0 f6 (fun arr7 f7 => ?_))
    rw [← hlen] at f7
    exact tail20 S tb n T nx' pv ps occ wh' A D E got arr7 w5 R _ _ _ _ _ _ _ _ _ _ _ _ _ _ _ _ _ _ _ _ _ _ _ _ _ _ _ _ _ _ _ _ _ hn hx hd5 nDE r5 f7 hfin

end Go.Proofs.YbulkdgzaDoor
