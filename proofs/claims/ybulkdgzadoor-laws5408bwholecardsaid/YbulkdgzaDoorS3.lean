/-
  LawS5408BWhole, its statement 8: the loop.
-/
import Derived.Test.YbulkdgzaDoorS2
namespace Go.Proofs.YbulkdgzaDoor
open Go.RowKit B
set_option linter.unusedVariables false
set_option linter.unusedSimpArgs false

/-- The tick of a timer. -/
def tkOf (c off : Nat) : Nat := if c + off ≤ 9223372036854775807 then c + off else 9223372036854775807
theorem tkOf_ge (c off : Nat) (hc : c ≤ 9223372036854775807) : c ≤ tkOf c off := by unfold tkOf; split <;> omega
theorem tkOf_lt (c off : Nat) : tkOf c off < 9223372036854775808 := by unfold tkOf; split <;> omega
/-- The other cells of a timer. -/
def z0 : Nat → Value := fun j => if j = 0 then .chan none else if j = 1 then .pointer none else if j = 2 then .nilFunc else if j = 3 then .chan none else if j = 4 then .int .i64 0 else .int .u8 0
def tsF (tb : Nat → Nat) (k : Nat) : Nat → Value := fun j => if j < k then .pointer (some ⟨tb j, 0, none⟩) else .pointer none
def tkF (T : Nat → Nat) (k : Nat) : Nat → Value := fun j => if j < k then .int .i64 (T j) else .int .i64 0

theorem ptr_upd (tb : Nat → Nat) (k b : Nat) (v : Option Nat) (h : ∀ j, v = some j → ¬ j = k) : ptr (updN tb k b) v = ptr tb v := by
  cases v with
  | none => rfl
  | some j => simp only [ptr]; rw [updN_ne _ _ _ _ (h j rfl)]

theorem tm_new (w : World) (tb : Nat → Nat) (t k : Nat) : RowF (w.alloc (.cells #[.chan none, .pointer none, .nilFunc, .chan none, .int .i64 0, .int .i64 t, .int .u64 k, .pointer none, .pointer none, .int .i32 0, .int .u8 0, .int .u8 0] 75)) w.heap.size 75 12 (tmF tb t k z0 none none 0) := by
  refine RowF.newA w 75 _ 12 _ rfl ?_
  intro i hi
  match i, hi with
  | 0, _ => rfl
  | 1, _ => rfl
  | 2, _ => rfl
  | 3, _ => rfl
  | 4, _ => rfl
  | 5, _ => rfl
  | 6, _ => rfl
  | 7, _ => rfl
  | 8, _ => rfl
  | 9, _ => rfl
  | 10, _ => rfl
  | 11, _ => rfl

/-- One more timer, in no list yet. -/
theorem Mem.grow {w w' : World} {S : Nat} {tb : Nat → Nat} {k : Nat} {T : Nat → Nat} {z : Nat → Value} {nx pv : Nat → Option Nat} {ps occ : Nat → Nat} {cur : Nat} {L : Nat → Nat → List Nat} {Z : Nat → Prop} {b : Nat}
    (h : Mem w S tb k T z nx pv ps occ cur L) (hl : Lk k nx pv ps occ L) (hin : ∀ i, i < k → ∃ l s, i ∈ L l s) (hc : Chg w w' Z) (hZ : ∀ j, Own S tb k j → ¬ Z j) (hb : w.heap.size ≤ b) (hr : RowF w' b 75 12 (tmF (updN tb k b) (T k) k z none none 0)) :
    Mem w' S (updN tb k b) (k + 1) T z (updN nx k none) (updN pv k none) (updN ps k 0) occ cur L ∧ Lk (k + 1) (updN nx k none) (updN pv k none) (updN ps k 0) occ L := by
  have hne : ∀ l s i, i ∈ L l s → ¬ i = k := fun l s i hi e => by have := hl.lt l s i hi; omega
  have hS : ¬ S = b := fun e => by have := h.s.lt; omega
  have htb : ∀ i, i < k → ¬ tb i = b := fun i hi e => by have := (h.t i hi).lt; omega
  have e1 : ∀ i, i < k → updN tb k b i = tb i := fun i hi => updN_ne _ _ _ _ (by omega)
  refine ⟨⟨?_, ?_, ?_, ?_⟩, ?_⟩
  · refine (h.s.chg hc (hZ S (.inl rfl))).congr (fun i hi => ?_)
    unfold slF
    by_cases h0 : i = 0
    · rw [if_pos h0, if_pos h0]
    · rw [if_neg h0, if_neg h0]
      by_cases h1 : i < 12
      · rw [if_pos h1, if_pos h1]
      · rw [if_neg h1, if_neg h1]
        exact (ptr_upd tb k b _ (fun j hj => hne _ _ j (List.mem_of_mem_head? hj))).symm
  · intro i hi
    by_cases hik : i = k
    · subst hik; rw [updN_same, updN_same, updN_same, updN_same]; exact hr
    · have hi' : i < k := by omega
      rw [e1 i hi', updN_ne _ _ _ _ hik, updN_ne _ _ _ _ hik, updN_ne _ _ _ _ hik]
      refine ((h.t i hi').chg hc (hZ _ (.inr ⟨i, hi', rfl⟩))).congr (fun j hj => ?_)
      obtain ⟨l, s, hm⟩ := hin i hi'
      obtain ⟨q, hq⟩ := List.mem_iff_getElem?.1 hm
      have n1 := hl.nxt l s q i hq
      have n2 := hl.prv l s q i hq
      have p1 : ptr (updN tb k b) (nx i) = ptr tb (nx i) := ptr_upd tb k b _ (fun j hj => hne l s j (by rw [n1] at hj; exact List.mem_of_getElem? hj))
      have p2 : ptr (updN tb k b) (pv i) = ptr tb (pv i) := ptr_upd tb k b _ (fun j hj => hne l s j (by
        rw [n2] at hj
        split at hj
        · cases hj
        · exact List.mem_of_getElem? hj))
      unfold tmF
      rw [p1, p2]
  · intro i hi
    by_cases hik : i = k
    · subst hik; rw [updN_same]; exact fun e => hS e.symm
    · rw [e1 i (by omega)]; exact h.ne i (by omega)
  · intro i j hi hj hij
    by_cases hik : i = k
    · subst hik; rw [updN_same, e1 j (by omega)]; exact fun e => htb j (by omega) e.symm
    · rw [e1 i (by omega)]
      by_cases hjk : j = k
      · subst hjk; rw [updN_same]; exact htb i (by omega)
      · rw [e1 j (by omega)]; exact h.inj i j (by omega) (by omega) hij
  · refine ⟨?_, ?_, ?_, hl.bit, hl.bnd, fun l s i hi => by have := hl.lt l s i hi; omega, hl.dj, hl.nd⟩
    · intro l s q i hq; rw [updN_ne _ _ _ _ (hne l s i (List.mem_of_getElem? hq))]; exact hl.nxt l s q i hq
    · intro l s q i hq; rw [updN_ne _ _ _ _ (hne l s i (List.mem_of_getElem? hq))]; exact hl.prv l s q i hq
    · intro l s i hi; rw [updN_ne _ _ _ _ (hne l s i hi)]; exact hl.pos l s i hi

/-- Ahead of the k-th round. -/
def A8 (w0 : World) (B0 A D S n c : Nat) (T : Nat → Nat) (k : Nat) (w : World) : Prop :=
  Chg w0 w (fun j => B0 ≤ j) ∧ ∃ tb nx wh, Sta w S tb k T z0 (fun j => j < k) wh nx ∧ wh.cur = c ∧ RowF w A 45 n (tsF tb k) ∧ RowF w D 2 n (tkF T k) ∧ ∀ j, j < k → S < tb j

theorem tsF_upd (tb : Nat → Nat) (k b : Nat) : upd (tsF tb k) k (.pointer (some ⟨b, 0, none⟩)) = tsF (updN tb k b) (k + 1) := by
  funext j
  unfold upd tsF
  by_cases e : j = k
  · subst e; rw [if_pos rfl, if_pos (by omega), updN_same]
  · rw [if_neg e, updN_ne _ _ _ _ e]
    by_cases h : j < k
    · rw [if_pos h, if_pos (by omega)]
    · rw [if_neg h, if_neg (by omega)]
theorem tkF_upd (T : Nat → Nat) (k : Nat) : upd (tkF T k) k (.int .i64 (T k)) = tkF T (k + 1) := by
  funext j
  unfold upd tkF
  by_cases e : j = k
  · subst e; rw [if_pos rfl, if_pos (by omega)]
  · rw [if_neg e]
    by_cases h : j < k
    · rw [if_pos h, if_pos (by omega)]
    · rw [if_neg h, if_neg (by omega)]

theorem A8.step {w0 w : World} {B0 A D S n c : Nat} {T : Nat → Nat} {k : Nat} (h : A8 w0 B0 A D S n c T k w) (h2 : 2 < B0) (hB : B0 ≤ w0.heap.size) (hA : B0 ≤ A) (hAD : A < D) (hDS : D < S) (hk : k < n) (hc : c ≤ T k) (hT : T k < 9223372036854775808) :
    Calls Ybad.prog 11 #[.pointer (some ⟨S, 0, none⟩), .pointer (some ⟨w.heap.size, 0, none⟩)] (((w.setCell ⟨D, k, none⟩ (.int .i64 (T k))).setCell ⟨A, k, none⟩ (.pointer (some ⟨w.heap.size, 0, none⟩))).alloc (.cells #[.chan none, .pointer none, .nilFunc, .chan none, .int .i64 0, .int .i64 (T k), .int .u64 k, .pointer none, .pointer none, .int .i32 0, .int .u8 0, .int .u8 0] 75)) (fun e w' => e = .returned (.tuple #[]) ∧ A8 w0 B0 A D S n c T (k + 1) w') := by
  obtain ⟨hch, tb, nx, wh, hst, hcur, hra, hrd, hlo⟩ := h
  obtain ⟨pv, ps, occ, hm, hl⟩ := hst.ex
  have hSl := hm.s.lt
  have hsz := hch.size
  generalize hW1 : ((w.setCell ⟨D, k, none⟩ (.int .i64 (T k))).setCell ⟨A, k, none⟩ (.pointer (some ⟨w.heap.size, 0, none⟩))) = W1
  have s1 : W1.heap.size = w.heap.size := by rw [← hW1]; simp [World.setCell]
  have c1 : Chg w W1 (fun j => j = A ∨ j = D) := by rw [← hW1]; exact ((Chg.refl _ _).setCell (.inl (.inr rfl)) _).setCell (.inl (.inl rfl)) _
  have ra1 : RowF W1 A 45 n (tsF (updN tb k w.heap.size) (k + 1)) := by rw [← hW1, ← tsF_upd]; exact (hra.other (by show D ≠ A; omega) _).set k _
  have rd1 : RowF W1 D 2 n (tkF T (k + 1)) := by rw [← hW1, ← tkF_upd]; exact (hrd.set k _).other (by show A ≠ D; omega) _
  have tn := tm_new W1 (updN tb k w.heap.size) (T k) k
  rw [s1] at tn
  generalize hW2 : (W1.alloc (.cells #[.chan none, .pointer none, .nilFunc, .chan none, .int .i64 0, .int .i64 (T k), .int .u64 k, .pointer none, .pointer none, .int .i32 0, .int .u8 0, .int .u8 0] 75)) = W2 at tn ⊢
  have c2 : Chg w W2 (fun j => j = A ∨ j = D) := by rw [← hW2]; exact c1.alloc _
  have ra2 : RowF W2 A 45 n (tsF (updN tb k w.heap.size) (k + 1)) := by rw [← hW2]; exact ra1.alloc _
  have rd2 : RowF W2 D 2 n (tkF T (k + 1)) := by rw [← hW2]; exact rd1.alloc _
  have hin : ∀ i, i < k → ∃ l s, i ∈ wh.L l s := fun i hi => ⟨_, _, hst.inv.place i hi⟩
  obtain ⟨m2, l2⟩ := hm.grow hl hin c2 (by
    rintro j (rfl | ⟨i, hi, rfl⟩)
    · rintro (e | e) <;> omega
    · have := hlo i hi; rintro (e | e) <;> omega) (Nat.le_refl _) tn
  have hOw : ∀ j, Own S (updN tb k w.heap.size) (k + 1) j → S ≤ j := by
    rintro j (rfl | ⟨i, hi, rfl⟩)
    · omega
    · by_cases e : i = k
      · subst e; rw [updN_same]; omega
      · rw [updN_ne _ _ _ _ e]; have := hlo i (by omega); omega
  have sta : Sta W2 S (updN tb k w.heap.size) (k + 1) T z0 (fun j => j < k + 1 ∧ j ∉ k :: []) wh (updN nx k none) := by
    refine ⟨⟨_, _, _, m2, l2⟩, hst.inv.congr (fun i => ?_), tab_chg hst.tab (by omega) c2 (by rintro (e | e) <;> omega)⟩
    simp; omega
  have hb : updN tb k w.heap.size k = w.heap.size := updN_same _ _ _
  have ca := sta.add (i := k) (rest := []) (R := fun j => j < k + 1) (by omega) (by show k < k + 1; omega) (by simp) (by omega) (by omega) (fun h => by have := hOw 2 h; omega) (by have := c2.size; omega)
  rw [hb] at ca
  refine ca.mono ?_
  rintro e w' ⟨he, nx', st', hn', c'⟩
  refine ⟨he, (hch.trans (c2.mono (fun j _ h => by rcases h with e | e <;> omega))).trans (c'.mono (fun j _ h => by have := hOw j h; omega)), updN tb k w.heap.size, nx', addW T wh k, ⟨st'.ex, st'.inv.congr (fun i => by simp), st'.tab⟩, hcur, ra2.chg c' (fun h => by have := hOw _ h; omega), rd2.chg c' (fun h => by have := hOw _ h; omega), fun j hj => ?_⟩
  by_cases e : j = k
  · subst e; rw [updN_same]; omega
  · rw [updN_ne _ _ _ _ e]; exact hlo j (by omega)

theorem c8 : nav [1, 1, 1, 1, 1, 1, 1, 1, 0, 1] (Ybad.f4.body.getD .skip) = .block 0 (.loop (nav [1, 1, 1, 1, 1, 1, 1, 1, 0, 1, 2, 2] (Ybad.f4.body.getD .skip))) := by kernel_rfl
set_option maxHeartbeats 1000000 in
/-- The loop that makes and adds the timers. -/
theorem l8 (ao : Option Addr) (n cp c m A D S B0 : Nat) (F : Nat → Nat) (arr : Array Value) (w : World) (K : Act → World → Prop) (Q : Exit → Act → World → Prop) (R : Ending → World → Prop) (v0 v2 v3 v4 v5 v6 v7 v8 v16 v17 v18 v19 v20 v21 v22 v23 v24 v25 v26 v27 v28 v29 v30 v31 v32 v33 v34 v35 v36 v37 v38 : Value)
    (hn : n ≤ 4096) (hc : c ≤ 9223372036854775807) (hm : m ≤ 16777216) (hF : ∀ i, F i < 4294967296) (hsrc : 0 < n → ∃ b o, ao = some ⟨b, o, none⟩ ∧ b < B0 ∧ ∀ j, j < n → w.cell? ⟨b, o + j, none⟩ = some (.int .u32 (F j)))
    (h2 : 2 < B0) (hB : B0 ≤ w.heap.size) (hA : B0 ≤ A) (hAD : A < D) (hDS : D < S)
    (h8 : A8 w B0 A D S n c (fun i => tkOf c (F i * m)) 0 w)
    (hs : Fx arr v0 (.slice ao n cp) v2 v3 v4 v5 v6 v7 v8 (.int .i64 c) (.int .u64 m) (.int .i64 n) (.slice (some ⟨A, 0, none⟩) n n) (.slice (some ⟨D, 0, none⟩) n n) (.pointer (some ⟨S, 0, none⟩)) (.int .i64 ((0 : Nat) : Int)) v16 v17 v18 v19 v20 v21 v22 v23 v24 v25 v26 v27 v28 v29 v30 v31 v32 v33 v34 v35 v36 v37 v38)
    (HQ : ∀ arr' w' u16 u17, Fx arr' v0 (.slice ao n cp) v2 v3 v4 v5 v6 v7 v8 (.int .i64 c) (.int .u64 m) (.int .i64 n) (.slice (some ⟨A, 0, none⟩) n n) (.slice (some ⟨D, 0, none⟩) n n) (.pointer (some ⟨S, 0, none⟩)) (.int .i64 n) (u16) (u17) v18 v19 v20 v21 v22 v23 v24 v25 v26 v27 v28 v29 v30 v31 v32 v33 v34 v35 v36 v37 v38 → A8 w B0 A D S n c (fun i => tkOf c (F i * m)) n w' → K ⟨arr', []⟩ w') :
    Code.wp Ybad.prog (nav [1, 1, 1, 1, 1, 1, 1, 1, 0, 1] (Ybad.f4.body.getD .skip)) (Exit.then K (Qp Q R)) ⟨arr, []⟩ w := by
  rw [c8]
  refine loop_up n (fun k arr' w' => ∃ u16 u17, Fx arr' v0 (.slice ao n cp) v2 v3 v4 v5 v6 v7 v8 (.int .i64 c) (.int .u64 m) (.int .i64 n) (.slice (some ⟨A, 0, none⟩) n n) (.slice (some ⟨D, 0, none⟩) n n) (.pointer (some ⟨S, 0, none⟩)) (.int .i64 k) (u16) (u17) v18 v19 v20 v21 v22 v23 v24 v25 v26 v27 v28 v29 v30 v31 v32 v33 v34 v35 v36 v37 v38 ∧ A8 w B0 A D S n c (fun i => tkOf c (F i * m)) k w') (fun arr' w' => ∃ u16 u17, Fx arr' v0 (.slice ao n cp) v2 v3 v4 v5 v6 v7 v8 (.int .i64 c) (.int .u64 m) (.int .i64 n) (.slice (some ⟨A, 0, none⟩) n n) (.slice (some ⟨D, 0, none⟩) n n) (.pointer (some ⟨S, 0, none⟩)) (.int .i64 n) (u16) (u17) v18 v19 v20 v21 v22 v23 v24 v25 v26 v27 v28 v29 v30 v31 v32 v33 v34 v35 v36 v37 v38 ∧ A8 w B0 A D S n c (fun i => tkOf c (F i * m)) n w') ⟨_, _, hs, h8⟩ ?_ ?_ ?_
  · rintro k arr1 w1 K1 Q1 hk ⟨u16, u17, f1, a1⟩ hK
    obtain ⟨b, o, rfl, hb, hcell⟩ := hsrc (by omega)
    obtain ⟨hch, tb, nx, wh, hst, hcur, hra, hrd, hlo⟩ := id a1
    have hsl : b < w.heap.size := by omega
    have hca := a1.step h2 hB hA hAD hDS hk (tkOf_ge c (F k * m) hc) (tkOf_lt c (F k * m))
    exact r8s b o n cp c m A D S k (F k) (F k * m) (tkOf c (F k * m)) _ _ (A8 w B0 A D S n c (fun i => tkOf c (F i * m)) (k + 1)) arr1 w1 _ _ _ _ _ _ _ _ _ _ _ _ _ _ _ _ _ _ _ _ _ _ _ _ _ _ _ _ _ _ _ _ _ _ hn hk hc (hF k) hm rfl rfl ((hch.cell hsl (by omega)).trans (hcell k hk)) hra hrd (by omega) hca f1 (fun arr2 w2 x16 x17 f2 g2 => hK _ _ ⟨_, _, f2, g2⟩)
  · rintro arr1 w1 K1 Q1 ⟨u16, u17, f1, a1⟩ hX
    exact r8x n arr1 w1 _ _ _ _ _ _ _ _ _ _ _ _ _ _ _ _ _ _ _ _ _ _ _ _ _ _ _ _ _ _ _ _ _ _ _ _ _ _ _ _ f1 (fun arr2 f2 => hX _ _ ⟨_, _, f2, a1⟩)
  · rintro arr1 w1 ⟨u16, u17, f1, a1⟩
    exact HQ _ _ _ _ f1 a1

end Go.Proofs.YbulkdgzaDoor
