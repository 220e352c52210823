/-
  LawS5405CWhole, its statement 12: the uploads are laid; those not pending are linked and given.
-/
import Derived.Test.YbulkdgxkFx
namespace Go.Proofs.Ybulkdgxk
open Go.RowKit C
set_option linter.unusedVariables false
set_option linter.unusedSimpArgs false

/-- The uploads' row while the first k are laid. -/
def usK (U : Nat → Up) (np k : Nat) (next : Nat → Int) : Nat → Value := fun j => if j < k * 6 then usF U np next j else .int .i32 0
/-- Those of the first k that are not pending. -/
def npL (U : Nat → Up) (k : Nat) : List Nat := (List.range k).filter (fun i => !(U i).pend)
theorem npL_succ (U : Nat → Up) (k : Nat) : npL U (k + 1) = if (U k).pend then npL U k else npL U k ++ [k] := by
  unfold npL; rw [List.range_succ, List.filter_append]; cases h : (U k).pend <;> simp [h]
theorem npL_le (U : Nat → Up) (k : Nat) : (npL U k).length ≤ k := by
  have := List.length_filter_le (fun i => !(U i).pend) (List.range k); simpa [npL] using this
def vals (l : List Nat) : List Value := l.map (fun (i : Nat) => Value.int .i32 (i : Int))


theorem ownsRow_chg {w w' : World} {base : Nat} {v : Value} {n : Nat} {xs : List Value} (h : w.ownsRow base 21 1 v n xs) {Z : Nat → Prop} (hc : Chg w w' Z) (hz : ∀ k, base ≤ k → ¬ Z k) : w'.ownsRow base 21 1 v n xs := by
  obtain ⟨h1, h2⟩ := h
  refine ⟨h1, ?_⟩
  rcases h2 with h2 | ⟨g, cap, cur, hv, hg, hh, r⟩
  · exact .inl h2
  · exact .inr ⟨g, cap, cur, hv, hg, (hc.block g (Array.getElem?_eq_some_iff.1 hh).1 (hz g hg)).trans hh, r⟩

/-- append(l, i), l the call's own. -/
theorem wl_app {w : World} {ops : Array Oper} {rest : List Oper} {o : Oper} {a : Act} {Q : Exit → Act → World → Prop} (hg : o.guard = none) (s x : Operand)
    (hop : o.op = .call { callee := .builtin .append, args := #[s, x], argTypes := #[27, 27] }) (base : Nat) (v : Value) (l : List Nat) (i ad : Nat) (hs : a.eval s = v) (hown : w.ownsRow base 21 1 v l.length (vals l))
    (hx : a.eval x = .slice (some ⟨ad, 0, none⟩) 1 1) (hc : w.cell? ⟨ad, 0, none⟩ = some (.int .i32 (i : Int))) (hlen : l.length ≤ 140000) (hb : base ≤ w.heap.size)
    (h : ∀ v' w', w'.ownsRow base 21 1 v' (l ++ [i]).length (vals (l ++ [i])) → Chg w w' (fun k => base ≤ k) → wpList Yba.prog ops Q rest (a.put o.dst v') w') : wpList Yba.prog ops Q (o :: rest) a w := by
  obtain ⟨i0, hi, hz0, hz1, hz2⟩ := info_parts info21
  refine wpList_append_own w hg s x 27 hop base 21 i0 (.int .i32 0) 1 4 Yba.underlying27 hi hz0 hz1 hz2 rfl (by decide) v l.length (vals l) hs hown ⟨ad, 0, none⟩ 1 1 [.int .i32 (i : Int)] hx rfl ?_ ?_ (by unfold maxLen; omega) (by omega) hb ?_
  · intro j u hj
    match j, hj with
    | 0, hj => simp at hj; subst hj; rw [addr_zero]; exact hc
  · intro u hu; simp at hu; subst hu; rfl
  · intro v' w' h1 h2 _
    refine h v' w' (by simpa [vals] using h1) ⟨h2.os, h2.tape, h2.output, h2.size, fun k hk hn => h2.block k hk (fun e => hn ?_)⟩
    obtain ⟨_, h3⟩ := hown
    rcases h3 with ⟨rfl, _⟩ | ⟨g, cap, cur, hv, hg, _⟩
    · cases e
    · subst hv; cases e; exact hg

theorem gen_world {P : World → Prop} (W : World) (h : ∀ W', W' = W → P W') : P W := h W rfl

theorem lnk_off (on : Nat → Nat) (L : List Nat) (i : Nat) (h : i ∉ L) : (lnk on L).1 i = -1 := by
  revert h
  refine snoc_ind (P := fun L => i ∉ L → (lnk on L).1 i = -1) (fun _ => rfl) (fun L j ih hn => ?_) L
  rw [lnk_snoc]
  have h1 : i ≠ j := fun e => hn (by simp [e])
  show updI _ _ _ _ = _
  rw [updI_ne _ _ _ _ h1]
  exact ih (fun h => hn (by simp [h]))
theorem npL_off (U : Nat → Up) (k : Nat) : k ∉ npL U k := by simp [npL]

/-- The six stores of one upload. -/
theorem lay6 {wr W : World} {gu n np k : Nat} {U : Nat → Up} {next : Nat → Int} {x0 x1 x2 x3 : Int} {p : Nat} (h : RowF wr gu 32 (n * 6) (usK U np k next)) (hx : x0 = (U k).peer ∧ x1 = (U k).place ∧ x2 = (U k).seg ∧ x3 = (U k).start ∧ p = own U np k) (hk : next k = -1)
    (hW : W = ((((((wr.setCell ⟨gu, k * 6, none⟩ (.int .i32 x0)).setCell ⟨gu, k * 6 + 1, none⟩ (.int .i32 x1)).setCell ⟨gu, k * 6 + 2, none⟩ (.int .i32 (p : Int))).setCell ⟨gu, k * 6 + 3, none⟩ (.int .i32 (-1))).setCell ⟨gu, k * 6 + 4, none⟩ (.int .i32 x2)).setCell ⟨gu, k * 6 + 5, none⟩ (.int .i32 x3)).drew) :
    RowF W gu 32 (n * 6) (usK U np (k + 1) next) ∧ Chg wr W (fun j => j = gu) := by
  subst hW
  obtain ⟨rfl, rfl, rfl, rfl, rfl⟩ := hx
  refine ⟨?_, ((((((((Chg.refl wr (fun j => j = gu)).setCell (.inl rfl) _).setCell (.inl rfl) _).setCell (.inl rfl) _).setCell (.inl rfl) _).setCell (.inl rfl) _).setCell (.inl rfl) _).drew)⟩
  refine (((((((h.set (k * 6) _).set (k * 6 + 1) _).set (k * 6 + 2) _).set (k * 6 + 3) _).set (k * 6 + 4) _).set (k * 6 + 5) _).congr (fun j hj => ?_)).drew
  unfold upd
  by_cases e5 : j = k * 6 + 5
  · subst e5; rw [if_pos rfl, usK, if_pos (by omega), usF_5]
  rw [if_neg e5]
  by_cases e4 : j = k * 6 + 4
  · subst e4; rw [if_pos rfl, usK, if_pos (by omega), usF_4]
  rw [if_neg e4]
  by_cases e3 : j = k * 6 + 3
  · subst e3; rw [if_pos rfl, usK, if_pos (by omega), usF_3, hk]
  rw [if_neg e3]
  by_cases e2 : j = k * 6 + 2
  · subst e2; rw [if_pos rfl, usK, if_pos (by omega), usF_2]
  rw [if_neg e2]
  by_cases e1 : j = k * 6 + 1
  · subst e1; rw [if_pos rfl, usK, if_pos (by omega), usF_1]
  rw [if_neg e1]
  by_cases e0 : j = k * 6
  · subst e0; rw [if_pos rfl, usK, if_pos (by omega), usF_0]
  rw [if_neg e0]
  unfold usK
  by_cases hjk : j < k * 6
  · rw [if_pos hjk, if_pos (by omega)]
  · rw [if_neg hjk, if_neg (by omega)]

theorem upd_usK (U : Nat → Up) (np k : Nat) (next : Nat → Int) (v : Int) : upd (usK U np (k + 1) next) (k * 6 + 3) (.int .i32 v) = usK U np (k + 1) (updI next k v) := by
  funext j
  have h := congrFun (upd_usF U np next k v) j
  unfold upd at h ⊢
  unfold usK
  by_cases e : j = k * 6 + 3
  · rw [if_pos e, if_pos (by omega)]; rw [if_pos e] at h; exact h
  · rw [if_neg e]; rw [if_neg e] at h
    split
    · exact h
    · rfl


set_option maxRecDepth 100000 in
set_option maxHeartbeats 1000000 in
/-- us[i] = upload{..} -/
theorem s12a (b0 o0 n c0 np g gu gl k : Nat) (U : Nat → Up) (arr : Array Value) (w : World) (K : Act → World → Prop) (Q : Exit → Act → World → Prop) (R : Ending → World → Prop) (v1 v2 v3 v4 v5 v6 v7 v8 v9 v10 v13 v15 v18 v19 v21 v22 v23 v24 v25 v26 v27 v28 v29 v30 v31 v32 v33 v34 v35 v36 v37 v38 v39 v40 v41 v42 v43 v44 v45 v46 : Value)
    (next : Nat → Int) (hn : n ≤ 65536) (hp : 1 ≤ np) (hp8 : np ≤ 8) (hlt : k < n) (hU : Ups w b0 o0 n U) (ho : RowF w g 21 n (ownF U np)) (hur : RowF w gu 32 (n * 6) (usK U np k next)) (hnk : next k = -1)
    (hs : Fx arr (.slice (some ⟨b0, o0, none⟩) n c0) v1 v2 v3 v4 v5 v6 v7 v8 v9 v10 (.int .i64 n) (.int .i64 np) v13 (.slice (some ⟨g, 0, none⟩) n n) v15 (.slice (some ⟨gu, 0, none⟩) n n) (.slice (some ⟨gl, 0, none⟩) np np) v18 v19 (.int .i64 k) v21 v22 v23 v24 v25 v26 v27 v28 v29 v30 v31 v32 v33 v34 v35 v36 v37 v38 v39 v40 v41 v42 v43 v44 v45 v46)
    (HQ : Hid (∀ arr' w', Fx arr' (.slice (some ⟨b0, o0, none⟩) n c0) v1 v2 v3 v4 v5 v6 v7 v8 v9 v10 (.int .i64 n) (.int .i64 np) v13 (.slice (some ⟨g, 0, none⟩) n n) v15 (.slice (some ⟨gu, 0, none⟩) n n) (.slice (some ⟨gl, 0, none⟩) np np) v18 v19 (.int .i64 k) v21 v22 v23 v24 v25 v26 v27 v28 v29 v30 v31 v32 v33 v34 v35 v36 v37 v38 v39 v40 v41 v42 v43 v44 v45 v46 → RowF w' gu 32 (n * 6) (usK U np (k + 1) next) → Chg w w' (fun j => j = gu) → K ⟨arr', []⟩ w')) :
    Code.wp Yba.prog (nav [1, 1, 1, 1, 1, 1, 1, 1, 1, 1, 1, 1, 0, 1, 2, 2, 1, 0, 2, 0] (Yba.f4.body.getD .skip)) (Exit.then K (Qp Q R)) ⟨arr, []⟩ w := by
  refine hs.open (fun t => ?_)
  clear hs
  conv => arg 2; whnf
  have k0 := hU.peer k hlt
  have k1 := hU.place k hlt
  have k2 := hU.seg k hlt
  have k3 := hU.start k hlt
  have co := ho.cell hlt
  simp only [ownF, intF] at co
  have d0 := hur.cell (i := k * 6) (by omega)
  have d1 := hur.cell (i := k * 6 + 1) (by omega)
  have d2 := hur.cell (i := k * 6 + 2) (by omega)
  have d3 := hur.cell (i := k * 6 + 3) (by omega)
  have d4 := hur.cell (i := k * 6 + 4) (by omega)
  have d5 := hur.cell (i := k * 6 + 5) (by omega)
  have g0 := hur.free (k * 6)
  have g1 := hur.free (k * 6 + 1)
  have g2 := hur.free (k * 6 + 2)
  have g3 := hur.free (k * 6 + 3)
  have g4 := hur.free (k * 6 + 4)
  have g5 := hur.free (k * 6 + 5)
  obtain ⟨x0, hx0⟩ : ∃ v, v = (U k).peer := ⟨_, rfl⟩
  obtain ⟨x1, hx1⟩ : ∃ v, v = (U k).place := ⟨_, rfl⟩
  obtain ⟨x2, hx2⟩ : ∃ v, v = (U k).seg := ⟨_, rfl⟩
  obtain ⟨x3, hx3⟩ : ∃ v, v = (U k).start := ⟨_, rfl⟩
  obtain ⟨p, hp0⟩ : ∃ v, v = own U np k := ⟨_, rfl⟩
  rw [← hx0] at k0; rw [← hx1] at k1; rw [← hx2] at k2; rw [← hx3] at k3; rw [← hp0] at co
  obtain ⟨y0, z0⟩ : ∃ v, v = usK U np k next (k * 6) := ⟨_, rfl⟩
  obtain ⟨y1, z1⟩ : ∃ v, v = usK U np k next (k * 6 + 1) := ⟨_, rfl⟩
  obtain ⟨y2, z2⟩ : ∃ v, v = usK U np k next (k * 6 + 2) := ⟨_, rfl⟩
  obtain ⟨y3, z3⟩ : ∃ v, v = usK U np k next (k * 6 + 3) := ⟨_, rfl⟩
  obtain ⟨y4, z4⟩ : ∃ v, v = usK U np k next (k * 6 + 4) := ⟨_, rfl⟩
  obtain ⟨y5, z5⟩ : ∃ v, v = usK U np k next (k * 6 + 5) := ⟨_, rfl⟩
  rw [← z0] at d0; rw [← z1] at d1; rw [← z2] at d2; rw [← z3] at d3; rw [← z4] at d4; rw [← z5] at d5
  have H0 : Hid (x0 = (U k).peer ∧ x1 = (U k).place ∧ x2 = (U k).seg ∧ x3 = (U k).start ∧ p = own U np k) := ⟨hx0, hx1, hx2, hx3, hp0⟩
  have HU : Hid (RowF w gu 32 (n * 6) (usK U np k next)) := hur
  have HN : Hid (next k = -1) := hnk
  clear hx0 hx1 hx2 hx3 hp0 z0 z1 z2 z3 z4 z5 hur hnk hU ho
  go_wp2
  go_region
  obtain ⟨q1, q2⟩ := lay6 HU.out H0.out HN.out rfl
  refine HQ.out _ _ ?_ ?_ ?_
  · exact (Fx.mk rfl rfl rfl rfl rfl rfl rfl rfl rfl rfl rfl rfl rfl rfl rfl rfl rfl rfl rfl rfl rfl rfl rfl rfl rfl rfl rfl rfl rfl rfl rfl rfl rfl rfl rfl rfl rfl rfl rfl rfl rfl rfl rfl rfl rfl rfl rfl rfl)
  · exact q1
  · exact q2

end Go.Proofs.Ybulkdgxk
