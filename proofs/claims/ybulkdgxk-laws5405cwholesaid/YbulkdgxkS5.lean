/-
  LawS5405CWhole, its statement 21: the free uploads a peer.
-/
import Derived.Test.YbulkdgxkS4
import Derived.Deep.DeepMust
namespace Go.Proofs.Ybulkdgxk
open Go.RowKit C
set_option linter.unusedVariables false
set_option linter.unusedSimpArgs false

theorem info5' : (Yba.prog.info? 5).map (fun i => (i.zero, i.size, i.bytes)) = some (some (.int .u8 0), 1, 1) := by kernel_rfl
/-- A row of bytes. -/
def bts (l : List Int) : List Value := l.map (Value.int .u8)

theorem ownsB_chg {w w' : World} {base : Nat} {v : Value} {n : Nat} {xs : List Value} (h : w.ownsRow base 5 1 v n xs) {Z : Nat → Prop} (hc : Chg w w' Z) (hz : ∀ k, base ≤ k → ¬ Z k) : w'.ownsRow base 5 1 v n xs := by
  obtain ⟨h1, h2⟩ := h
  refine ⟨h1, ?_⟩
  rcases h2 with h2 | ⟨g, cap, cur, hv, hg, hh, r⟩
  · exact .inl h2
  · exact .inr ⟨g, cap, cur, hv, hg, (hc.block g (Array.getElem?_eq_some_iff.1 hh).1 (hz g hg)).trans hh, r⟩

/-- append(l, 0), l a row of bytes of the call's own. -/
theorem wl_appb {w : World} {ops : Array Oper} {rest : List Oper} {o : Oper} {a : Act} {Q : Exit → Act → World → Prop} (hg : o.guard = none) (s x : Operand)
    (hop : o.op = .call { callee := .builtin .append, args := #[s, x], argTypes := #[22, 22] }) (base : Nat) (v : Value) (l : List Int) (i : Int) (ad : Nat) (hs : a.eval s = v) (hown : w.ownsRow base 5 1 v l.length (bts l))
    (hx : a.eval x = .slice (some ⟨ad, 0, none⟩) 1 1) (hc : w.cell? ⟨ad, 0, none⟩ = some (.int .u8 i)) (hlen : l.length ≤ 140000) (hb : base ≤ w.heap.size)
    (h : ∀ g cap w', base ≤ g → w'.ownsRow base 5 1 (.slice (some ⟨g, 0, none⟩) (l.length + 1) cap) (l.length + 1) (bts (l ++ [i])) → Chg w w' (fun k => base ≤ k) → wpList Yba.prog ops Q rest (a.put o.dst (.slice (some ⟨g, 0, none⟩) (l.length + 1) cap)) w') : wpList Yba.prog ops Q (o :: rest) a w := by
  obtain ⟨i0, hi, hz0, hz1, hz2⟩ := info_parts info5'
  refine wpList_append_own w hg s x 22 hop base 5 i0 (.int .u8 0) 1 1 Yba.underlying22 hi hz0 hz1 hz2 rfl (by decide) v l.length (bts l) hs hown ⟨ad, 0, none⟩ 1 1 [.int .u8 i] hx rfl ?_ ?_ (by unfold maxLen; omega) (by omega) hb ?_
  · intro j u hj
    match j, hj with
    | 0, hj => simp at hj; subst hj; rw [addr_zero]; exact hc
  · intro u hu; simp at hu; subst hu; rfl
  · intro v' w' h1 h2 _
    obtain ⟨h4, h5⟩ := id h1
    rcases h5 with ⟨_, h0⟩ | ⟨g, cap, cur, hv, hgb, r⟩
    · omega
    subst hv
    refine h g cap w' hgb (by simpa [bts] using h1) ⟨h2.os, h2.tape, h2.output, h2.size, fun k hk hn => h2.block k hk (fun e => hn ?_)⟩
    obtain ⟨_, h3⟩ := hown
    rcases h3 with ⟨rfl, _⟩ | ⟨g, cap, cur, hv, hg, _⟩
    · cases e
    · subst hv; cases e; exact hg

/-- The bytes of 'left' that came in. -/
def Lf (w : World) (B : Nat) (al : Option Addr) (nl : Nat) (lf : Nat → Int) : Prop :=
  B ≤ w.heap.size ∧ (0 < nl → ∃ bl ol, al = some ⟨bl, ol, none⟩ ∧ bl < B ∧ ∀ j, j < nl → w.cell? ⟨bl, ol + j, none⟩ = some (.int .u8 (lf j)) ∧ 0 ≤ lf j ∧ lf j ≤ 255)
theorem Lf.chg {w w' : World} {B : Nat} {al : Option Addr} {nl : Nat} {lf : Nat → Int} (h : Lf w B al nl lf) {Z : Nat → Prop} (hc : Chg w w' Z) (hz : ∀ k, k < B → ¬ Z k) : Lf w' B al nl lf := by
  obtain ⟨h1, h2⟩ := h
  refine ⟨Nat.le_trans h1 hc.size, fun h0 => ?_⟩
  obtain ⟨bl, ol, e, hb, hl⟩ := h2 h0
  exact ⟨bl, ol, e, hb, fun j hj => ⟨(hc.cell (by omega) (hz _ hb)).trans (hl j hj).1, (hl j hj).2⟩⟩
/-- How many free uploads peer p has. -/
def cntF (nl : Nat) (lf : Nat → Int) (p : Nat) : Int := if p < nl then lf p % 4 else 0

set_option maxRecDepth 100000 in
set_option maxHeartbeats 400000 in
/-- counter := 0 -/
theorem s21i  (arr : Array Value) (w : World) (K : Act → World → Prop) (Q : Exit → Act → World → Prop) (v0 v1 v2 v3 v4 v5 v6 v7 v8 v9 v10 v11 v12 v13 v14 v15 v16 v17 v18 v19 v20 v21 v22 v23 v24 v25 v26 v27 v28 v29 v30 v31 v32 v33 v34 v35 v36 v37 v38 v39 v40 v41 v42 v43 v44 v45 v46 : Value)
    
    (hs : Fx arr v0 v1 v2 v3 v4 v5 v6 v7 v8 v9 v10 v11 v12 v13 v14 v15 v16 v17 v18 v19 v20 v21 v22 v23 v24 v25 v26 v27 v28 v29 v30 v31 v32 v33 v34 v35 v36 v37 v38 v39 v40 v41 v42 v43 v44 v45 v46)
    (HQ : Hid (∀ arr', Fx arr' v0 v1 v2 v3 v4 v5 v6 v7 v8 v9 v10 v11 v12 v13 v14 v15 v16 v17 v18 v19 v20 v21 v22 v23 v24 v25 v26 (.int .i64 ((0 : Nat) : Int)) v28 v29 v30 v31 v32 v33 v34 v35 v36 v37 v38 v39 v40 v41 v42 v43 v44 v45 v46 → K ⟨arr', []⟩ w)) :
    Code.wp Yba.prog (nav [1, 1, 1, 1, 1, 1, 1, 1, 1, 1, 1, 1, 1, 1, 1, 1, 1, 1, 1, 1, 1, 0, 0] (Yba.f4.body.getD .skip)) (Exit.then K Q) ⟨arr, []⟩ w := by
  refine hs.open (fun t => ?_)
  clear hs
  conv => arg 2; whnf
  go_wp2
  refine HQ.out _ ?_
  exact (Fx.mk rfl rfl rfl rfl rfl rfl rfl rfl rfl rfl rfl rfl rfl rfl rfl rfl rfl rfl rfl rfl rfl rfl rfl rfl rfl rfl rfl rfl rfl rfl rfl rfl rfl rfl rfl rfl rfl rfl rfl rfl rfl rfl rfl rfl rfl rfl rfl rfl)

set_option maxRecDepth 100000 in
set_option maxHeartbeats 400000 in
/-- counter < limit -/
theorem s21t (n k : Nat) (arr : Array Value) (w : World) (K : Act → World → Prop) (Q : Exit → Act → World → Prop) (v0 v1 v2 v3 v4 v5 v6 v7 v8 v9 v10 v11 v13 v14 v15 v16 v17 v18 v19 v20 v21 v22 v23 v24 v25 v26 v28 v29 v30 v31 v32 v33 v34 v35 v36 v37 v38 v39 v40 v41 v42 v43 v44 v45 v46 : Value)
    (hlt : k < n ∨ k = n)
    (hs : Fx arr v0 v1 v2 v3 v4 v5 v6 v7 v8 v9 v10 v11 (.int .i64 n) v13 v14 v15 v16 v17 v18 v19 v20 v21 v22 v23 v24 v25 v26 (.int .i64 k) v28 v29 v30 v31 v32 v33 v34 v35 v36 v37 v38 v39 v40 v41 v42 v43 v44 v45 v46)
    (HQ : Hid (∀ arr', Fx arr' v0 v1 v2 v3 v4 v5 v6 v7 v8 v9 v10 v11 (.int .i64 n) v13 v14 v15 v16 v17 v18 v19 v20 v21 v22 v23 v24 v25 v26 (.int .i64 k) v28 v29 v30 v31 v32 v33 v34 v35 v36 v37 v38 v39 v40 v41 v42 v43 v44 v45 v46 → k < n → K ⟨arr', []⟩ w))
    (HX : Hid (∀ arr', Fx arr' v0 v1 v2 v3 v4 v5 v6 v7 v8 v9 v10 v11 (.int .i64 n) v13 v14 v15 v16 v17 v18 v19 v20 v21 v22 v23 v24 v25 v26 (.int .i64 k) v28 v29 v30 v31 v32 v33 v34 v35 v36 v37 v38 v39 v40 v41 v42 v43 v44 v45 v46 → k = n → Q (.exit 8) ⟨arr', []⟩ w)) :
    Code.wp Yba.prog (nav [1, 1, 1, 1, 1, 1, 1, 1, 1, 1, 1, 1, 1, 1, 1, 1, 1, 1, 1, 1, 1, 0, 1, 2, 2, 0] (Yba.f4.body.getD .skip)) (Exit.then K Q) ⟨arr, []⟩ w := by
  refine hs.open (fun t => ?_)
  clear hs
  conv => arg 2; whnf
  by_cases h : k < n
  · have h' : (k : Int) < (n : Int) := by omega
    go_wp2
    refine HQ.out _ ?_ h
    exact (Fx.mk rfl rfl rfl rfl rfl rfl rfl rfl rfl rfl rfl rfl rfl rfl rfl rfl rfl rfl rfl rfl rfl rfl rfl rfl rfl rfl rfl rfl rfl rfl rfl rfl rfl rfl rfl rfl rfl rfl rfl rfl rfl rfl rfl rfl rfl rfl rfl rfl)
  · have h' : ¬ (k : Int) < (n : Int) := by omega
    go_wp2
    refine HX.out _ ?_ (by omega)
    exact (Fx.mk rfl rfl rfl rfl rfl rfl rfl rfl rfl rfl rfl rfl rfl rfl rfl rfl rfl rfl rfl rfl rfl rfl rfl rfl rfl rfl rfl rfl rfl rfl rfl rfl rfl rfl rfl rfl rfl rfl rfl rfl rfl rfl rfl rfl rfl rfl rfl rfl)

set_option maxRecDepth 100000 in
set_option maxHeartbeats 400000 in
/-- counter++ -/
theorem s21p (k : Nat) (arr : Array Value) (w : World) (K : Act → World → Prop) (Q : Exit → Act → World → Prop) (v0 v1 v2 v3 v4 v5 v6 v7 v8 v9 v10 v11 v12 v13 v14 v15 v16 v17 v18 v19 v20 v21 v22 v23 v24 v25 v26 v28 v29 v30 v31 v32 v33 v34 v35 v36 v37 v38 v39 v40 v41 v42 v43 v44 v45 v46 : Value)
    (hk : k ≤ 2000000)
    (hs : Fx arr v0 v1 v2 v3 v4 v5 v6 v7 v8 v9 v10 v11 v12 v13 v14 v15 v16 v17 v18 v19 v20 v21 v22 v23 v24 v25 v26 (.int .i64 k) v28 v29 v30 v31 v32 v33 v34 v35 v36 v37 v38 v39 v40 v41 v42 v43 v44 v45 v46)
    (HQ : Hid (∀ arr', Fx arr' v0 v1 v2 v3 v4 v5 v6 v7 v8 v9 v10 v11 v12 v13 v14 v15 v16 v17 v18 v19 v20 v21 v22 v23 v24 v25 v26 (.int .i64 ((k + 1 : Nat) : Int)) v28 v29 v30 v31 v32 v33 v34 v35 v36 v37 v38 v39 v40 v41 v42 v43 v44 v45 v46 → K ⟨arr', []⟩ w)) :
    Code.wp Yba.prog (nav [1, 1, 1, 1, 1, 1, 1, 1, 1, 1, 1, 1, 1, 1, 1, 1, 1, 1, 1, 1, 1, 0, 1, 2, 2, 1, 1] (Yba.f4.body.getD .skip)) (Exit.then K Q) ⟨arr, []⟩ w := by
  refine hs.open (fun t => ?_)
  clear hs
  conv => arg 2; whnf
  go_wp2
  refine HQ.out _ ?_
  exact (Fx.mk rfl rfl rfl rfl rfl rfl rfl rfl rfl rfl rfl rfl rfl rfl rfl rfl rfl rfl rfl rfl rfl rfl rfl rfl rfl rfl rfl rfl (by go_num) rfl rfl rfl rfl rfl rfl rfl rfl rfl rfl rfl rfl rfl rfl rfl rfl rfl rfl rfl)

set_option maxRecDepth 100000 in
set_option maxHeartbeats 400000 in
/-- t.upLeft = append(t.upLeft, 0) -/
theorem s21a (T : Nat) (arr : Array Value) (w : World) (K : Act → World → Prop) (Q : Exit → Act → World → Prop) (v0 v1 v2 v3 v4 v5 v6 v7 v8 v9 v10 v11 v12 v13 v14 v15 v16 v17 v18 v19 v20 v21 v22 v23 v24 v26 v27 v28 v29 v30 v31 v32 v33 v34 v35 v36 v37 v38 v39 v40 v41 v42 v43 v44 v45 v46 : Value)
    (v : Value) (l : List Int) (B : Nat) (f : Nat → Value) (hf : f 13 = v) (ht : RowF w T 79 140 f) (hown : w.ownsRow B 5 1 v l.length (bts l)) (hlen : l.length ≤ 140000) (hB : B ≤ w.heap.size) (hT : T < B)
    (hs : Fx arr v0 v1 v2 v3 v4 v5 v6 v7 v8 v9 v10 v11 v12 v13 v14 v15 v16 v17 v18 v19 v20 v21 v22 v23 v24 (.pointer (some ⟨T, 0, none⟩)) v26 v27 v28 v29 v30 v31 v32 v33 v34 v35 v36 v37 v38 v39 v40 v41 v42 v43 v44 v45 v46)
    (HQ : Hid (∀ arr' w' g cap, Fx arr' v0 v1 v2 v3 v4 v5 v6 v7 v8 v9 v10 v11 v12 v13 v14 v15 v16 v17 v18 v19 v20 v21 v22 v23 v24 (.pointer (some ⟨T, 0, none⟩)) v26 v27 v28 v29 v30 v31 v32 v33 v34 v35 v36 v37 v38 v39 v40 v41 v42 v43 v44 v45 v46 → B ≤ g → RowF w' T 79 140 (upd f 13 (.slice (some ⟨g, 0, none⟩) (l.length + 1) cap)) → w'.ownsRow B 5 1 (.slice (some ⟨g, 0, none⟩) (l.length + 1) cap) (l.length + 1) (bts (l ++ [0])) → Chg w w' (fun j => j = T ∨ B ≤ j) → K ⟨arr', []⟩ w')) :
    Code.wp Yba.prog (nav [1, 1, 1, 1, 1, 1, 1, 1, 1, 1, 1, 1, 1, 1, 1, 1, 1, 1, 1, 1, 1, 0, 1, 2, 2, 1, 0, 2, 0] (Yba.f4.body.getD .skip)) (Exit.then K Q) ⟨arr, []⟩ w := by
  refine hs.open (fun t => ?_)
  clear hs
  conv => arg 2; whnf
  have c13 := (ht.cell (i := 13) (by omega)).trans (congrArg some hf)
  have lT := ht.lt
  have HO : Hid (w.ownsRow B 5 1 v l.length (bts l)) := hown
  have HT : Hid (RowF w T 79 140 f) := ht
  clear hown ht hf
  go_wp2_with (at_builtin; go_must (refine wl_appb rfl (.tmp 209) (.tmp 210) rfl B v l 0 w.heap.size rfl ?o1 rfl ?o2 ?o3 ?o4 ?_))
  case o1 => exact ownsB_chg HO.out ((Chg.refl w (fun _ => False)).alloc _) (fun j hj e => e)
  case o2 => go_simp
  case o3 => exact hlen
  case o4 => simp; omega
  · intro g cap w2 hg hown2 hchg2
    have t2 : RowF w2 T 79 140 f := (HT.out.alloc _).chg hchg2 (by omega)
    have c13' := t2.cell (i := 13) (by omega)
    have f13' := t2.free 13
    obtain ⟨y, hy⟩ : ∃ y, y = f 13 := ⟨_, rfl⟩
    rw [← hy] at c13'
    have G1 : Hid (RowF w2 T 79 140 f) := t2
    have G3 : Hid (w2.ownsRow B 5 1 (.slice (some ⟨g, 0, none⟩) (l.length + 1) cap) (l.length + 1) (bts (l ++ [0]))) := hown2
    have G4 : Hid (Chg w w2 (fun j => j = T ∨ B ≤ j)) := ((Chg.refl w (fun j => j = T ∨ B ≤ j)).alloc _).trans (hchg2.mono (fun _ _ e => .inr e))
    clear hown2 hchg2 t2 hy
    go_wp2
    refine HQ.out _ _ g cap ?_ hg (G1.out.set 13 _) (ownsB_chg G3.out ((Chg.refl w2 (fun j => j = T)).setCell (.inl rfl) _) (fun j hj e => by omega)) (G4.out.setCell (.inl (.inl rfl)) _)
    exact (Fx.mk rfl rfl rfl rfl rfl rfl rfl rfl rfl rfl rfl rfl rfl rfl rfl rfl rfl rfl rfl rfl rfl rfl rfl rfl rfl rfl rfl rfl rfl rfl rfl rfl rfl rfl rfl rfl rfl rfl rfl rfl rfl rfl rfl rfl rfl rfl rfl rfl)

set_option maxRecDepth 100000 in
set_option maxHeartbeats 400000 in
/-- c := 0 -/
theorem s21b  (arr : Array Value) (w : World) (K : Act → World → Prop) (Q : Exit → Act → World → Prop) (v0 v1 v2 v3 v4 v5 v6 v7 v8 v9 v10 v11 v12 v13 v14 v15 v16 v17 v18 v19 v20 v21 v22 v23 v24 v25 v26 v27 v28 v29 v30 v31 v32 v33 v34 v35 v36 v37 v38 v39 v40 v41 v42 v43 v44 v45 v46 : Value)
    
    (hs : Fx arr v0 v1 v2 v3 v4 v5 v6 v7 v8 v9 v10 v11 v12 v13 v14 v15 v16 v17 v18 v19 v20 v21 v22 v23 v24 v25 v26 v27 v28 v29 v30 v31 v32 v33 v34 v35 v36 v37 v38 v39 v40 v41 v42 v43 v44 v45 v46)
    (HQ : Hid (∀ arr', Fx arr' v0 v1 v2 v3 v4 v5 v6 v7 v8 v9 v10 v11 v12 v13 v14 v15 v16 v17 v18 v19 v20 v21 v22 v23 v24 v25 v26 v27 (.int .i64 (0 : Int)) v29 v30 v31 v32 v33 v34 v35 v36 v37 v38 v39 v40 v41 v42 v43 v44 v45 v46 → K ⟨arr', []⟩ w)) :
    Code.wp Yba.prog (nav [1, 1, 1, 1, 1, 1, 1, 1, 1, 1, 1, 1, 1, 1, 1, 1, 1, 1, 1, 1, 1, 0, 1, 2, 2, 1, 0, 2, 1, 0] (Yba.f4.body.getD .skip)) (Exit.then K Q) ⟨arr, []⟩ w := by
  refine hs.open (fun t => ?_)
  clear hs
  conv => arg 2; whnf
  go_wp2
  refine HQ.out _ ?_
  exact (Fx.mk rfl rfl rfl rfl rfl rfl rfl rfl rfl rfl rfl rfl rfl rfl rfl rfl rfl rfl rfl rfl rfl rfl rfl rfl rfl rfl rfl rfl rfl rfl rfl rfl rfl rfl rfl rfl rfl rfl rfl rfl rfl rfl rfl rfl rfl rfl rfl rfl)

set_option maxRecDepth 100000 in
set_option maxHeartbeats 400000 in
/-- if p < len(left) { c = int(left[p] % 4) } -/
theorem s21c (B p nl cl : Nat) (al : Option Addr) (lf : Nat → Int) (arr : Array Value) (w : World) (K : Act → World → Prop) (Q : Exit → Act → World → Prop) (v0 v1 v2 v3 v5 v6 v7 v8 v9 v10 v11 v12 v13 v14 v15 v16 v17 v18 v19 v20 v21 v22 v23 v24 v25 v26 v29 v30 v31 v32 v33 v34 v35 v36 v37 v38 v39 v40 v41 v42 v43 v44 v45 v46 : Value)
    (h : Lf w B al nl lf)
    (hs : Fx arr v0 v1 v2 v3 (.slice al nl cl) v5 v6 v7 v8 v9 v10 v11 v12 v13 v14 v15 v16 v17 v18 v19 v20 v21 v22 v23 v24 v25 v26 (.int .i64 p) (.int .i64 (0 : Int)) v29 v30 v31 v32 v33 v34 v35 v36 v37 v38 v39 v40 v41 v42 v43 v44 v45 v46)
    (HQ : Hid (∀ arr', Fx arr' v0 v1 v2 v3 (.slice al nl cl) v5 v6 v7 v8 v9 v10 v11 v12 v13 v14 v15 v16 v17 v18 v19 v20 v21 v22 v23 v24 v25 v26 (.int .i64 p) (.int .i64 (cntF nl lf p)) v29 v30 v31 v32 v33 v34 v35 v36 v37 v38 v39 v40 v41 v42 v43 v44 v45 v46 → K ⟨arr', []⟩ w)) :
    Code.wp Yba.prog (nav [1, 1, 1, 1, 1, 1, 1, 1, 1, 1, 1, 1, 1, 1, 1, 1, 1, 1, 1, 1, 1, 0, 1, 2, 2, 1, 0, 2, 1, 1, 0] (Yba.f4.body.getD .skip)) (Exit.then K Q) ⟨arr, []⟩ w := by
  refine hs.open (fun t => ?_)
  clear hs
  conv => arg 2; whnf
  by_cases hlt : p < nl
  · obtain ⟨bl, ol, rfl, hb, hl⟩ := h.2 (by omega)
    obtain ⟨hc, h0, h1⟩ := hl p hlt
    have hlt' : (p : Int) < (nl : Int) := by omega
    have HC : Hid (cntF nl lf p = lf p % 4) := by unfold cntF; exact if_pos hlt
    obtain ⟨y, hy⟩ : ∃ y, y = lf p := ⟨_, rfl⟩
    rw [← hy] at hc h0 h1 HC
    clear hl h hy
    go_wp2
    refine HQ.out _ ?_
    exact (Fx.mk rfl rfl rfl rfl rfl rfl rfl rfl rfl rfl rfl rfl rfl rfl rfl rfl rfl rfl rfl rfl rfl rfl rfl rfl rfl rfl rfl rfl rfl (by rw [HC.out]; rfl) rfl rfl rfl rfl rfl rfl rfl rfl rfl rfl rfl rfl rfl rfl rfl rfl rfl rfl)
  · have hlt' : ¬ (p : Int) < (nl : Int) := by omega
    have HC : Hid (cntF nl lf p = 0) := by unfold cntF; exact if_neg hlt
    clear h
    go_wp2
    refine HQ.out _ ?_
    exact (Fx.mk rfl rfl rfl rfl rfl rfl rfl rfl rfl rfl rfl rfl rfl rfl rfl rfl rfl rfl rfl rfl rfl rfl rfl rfl rfl rfl rfl rfl rfl (by rw [HC.out]; rfl) rfl rfl rfl rfl rfl rfl rfl rfl rfl rfl rfl rfl rfl rfl rfl rfl rfl rfl)

set_option maxRecDepth 100000 in
set_option maxHeartbeats 400000 in
/-- counts[p] = c -/
theorem s21d (np p gc : Nat) (c : Int) (arr : Array Value) (w : World) (K : Act → World → Prop) (Q : Exit → Act → World → Prop) (v0 v1 v2 v3 v4 v5 v6 v7 v8 v9 v10 v11 v12 v13 v14 v15 v16 v17 v18 v19 v20 v21 v22 v23 v24 v25 v29 v30 v31 v32 v33 v34 v35 v36 v37 v38 v39 v40 v41 v42 v43 v44 v45 v46 : Value)
    (z : Nat → Value) (hp : p < np) (hr : RowF w gc 3 np z)
    (hs : Fx arr v0 v1 v2 v3 v4 v5 v6 v7 v8 v9 v10 v11 v12 v13 v14 v15 v16 v17 v18 v19 v20 v21 v22 v23 v24 v25 (.slice (some ⟨gc, 0, none⟩) np np) (.int .i64 p) (.int .i64 c) v29 v30 v31 v32 v33 v34 v35 v36 v37 v38 v39 v40 v41 v42 v43 v44 v45 v46)
    (HQ : Hid (∀ arr' w', Fx arr' v0 v1 v2 v3 v4 v5 v6 v7 v8 v9 v10 v11 v12 v13 v14 v15 v16 v17 v18 v19 v20 v21 v22 v23 v24 v25 (.slice (some ⟨gc, 0, none⟩) np np) (.int .i64 p) (.int .i64 c) v29 v30 v31 v32 v33 v34 v35 v36 v37 v38 v39 v40 v41 v42 v43 v44 v45 v46 → RowF w' gc 3 np (upd z p (.int .i64 c)) → Chg w w' (fun k => k = gc) → K ⟨arr', []⟩ w')) :
    Code.wp Yba.prog (nav [1, 1, 1, 1, 1, 1, 1, 1, 1, 1, 1, 1, 1, 1, 1, 1, 1, 1, 1, 1, 1, 0, 1, 2, 2, 1, 0, 2, 1, 1, 1, 0] (Yba.f4.body.getD .skip)) (Exit.then K Q) ⟨arr, []⟩ w := by
  refine hs.open (fun t => ?_)
  clear hs
  conv => arg 2; whnf
  have hp' : (p : Int) < (np : Int) := by omega
  have cc := hr.cell hp
  have fc := hr.free p
  obtain ⟨y, hy⟩ : ∃ y, y = z p := ⟨_, rfl⟩
  rw [← hy] at cc
  have HR : Hid (RowF w gc 3 np z) := hr
  clear hr hy
  go_wp2
  refine HQ.out _ _ ?_ (HR.out.set p _) ((Chg.refl w (fun k => k = gc)).setCell (.inl rfl) _)
  exact (Fx.mk rfl rfl rfl rfl rfl rfl rfl rfl rfl rfl rfl rfl rfl rfl rfl rfl rfl rfl rfl rfl rfl rfl rfl rfl rfl rfl rfl rfl rfl rfl rfl rfl rfl rfl rfl rfl rfl rfl rfl rfl rfl rfl rfl rfl rfl rfl rfl rfl)

set_option maxRecDepth 100000 in
set_option maxHeartbeats 400000 in
/-- k := 0 -/
theorem s21e  (arr : Array Value) (w : World) (K : Act → World → Prop) (Q : Exit → Act → World → Prop) (v0 v1 v2 v3 v4 v5 v6 v7 v8 v9 v10 v11 v12 v13 v14 v15 v16 v17 v18 v19 v20 v21 v22 v23 v24 v25 v26 v27 v28 v29 v30 v31 v32 v33 v34 v35 v36 v37 v38 v39 v40 v41 v42 v43 v44 v45 v46 : Value)
    
    (hs : Fx arr v0 v1 v2 v3 v4 v5 v6 v7 v8 v9 v10 v11 v12 v13 v14 v15 v16 v17 v18 v19 v20 v21 v22 v23 v24 v25 v26 v27 v28 v29 v30 v31 v32 v33 v34 v35 v36 v37 v38 v39 v40 v41 v42 v43 v44 v45 v46)
    (HQ : Hid (∀ arr', Fx arr' v0 v1 v2 v3 v4 v5 v6 v7 v8 v9 v10 v11 v12 v13 v14 v15 v16 v17 v18 v19 v20 v21 v22 v23 v24 v25 v26 v27 v28 (.int .i64 ((0 : Nat) : Int)) v30 v31 v32 v33 v34 v35 v36 v37 v38 v39 v40 v41 v42 v43 v44 v45 v46 → K ⟨arr', []⟩ w)) :
    Code.wp Yba.prog (nav [1, 1, 1, 1, 1, 1, 1, 1, 1, 1, 1, 1, 1, 1, 1, 1, 1, 1, 1, 1, 1, 0, 1, 2, 2, 1, 0, 2, 1, 1, 1, 1, 0] (Yba.f4.body.getD .skip)) (Exit.then K Q) ⟨arr, []⟩ w := by
  refine hs.open (fun t => ?_)
  clear hs
  conv => arg 2; whnf
  go_wp2
  refine HQ.out _ ?_
  exact (Fx.mk rfl rfl rfl rfl rfl rfl rfl rfl rfl rfl rfl rfl rfl rfl rfl rfl rfl rfl rfl rfl rfl rfl rfl rfl rfl rfl rfl rfl rfl rfl rfl rfl rfl rfl rfl rfl rfl rfl rfl rfl rfl rfl rfl rfl rfl rfl rfl rfl)

set_option maxRecDepth 100000 in
set_option maxHeartbeats 400000 in
/-- k < c -/
theorem s21ft (c : Int) (k : Nat) (arr : Array Value) (w : World) (K : Act → World → Prop) (Q : Exit → Act → World → Prop) (v0 v1 v2 v3 v4 v5 v6 v7 v8 v9 v10 v11 v12 v13 v14 v15 v16 v17 v18 v19 v20 v21 v22 v23 v24 v25 v26 v27 v30 v31 v32 v33 v34 v35 v36 v37 v38 v39 v40 v41 v42 v43 v44 v45 v46 : Value)
    (hk : (k : Int) ≤ c) (hc : c ≤ 3)
    (hs : Fx arr v0 v1 v2 v3 v4 v5 v6 v7 v8 v9 v10 v11 v12 v13 v14 v15 v16 v17 v18 v19 v20 v21 v22 v23 v24 v25 v26 v27 (.int .i64 c) (.int .i64 k) v30 v31 v32 v33 v34 v35 v36 v37 v38 v39 v40 v41 v42 v43 v44 v45 v46)
    (HQ : Hid (∀ arr', Fx arr' v0 v1 v2 v3 v4 v5 v6 v7 v8 v9 v10 v11 v12 v13 v14 v15 v16 v17 v18 v19 v20 v21 v22 v23 v24 v25 v26 v27 (.int .i64 c) (.int .i64 k) v30 v31 v32 v33 v34 v35 v36 v37 v38 v39 v40 v41 v42 v43 v44 v45 v46 → (k : Int) < c → K ⟨arr', []⟩ w))
    (HX : Hid (∀ arr', Fx arr' v0 v1 v2 v3 v4 v5 v6 v7 v8 v9 v10 v11 v12 v13 v14 v15 v16 v17 v18 v19 v20 v21 v22 v23 v24 v25 v26 v27 (.int .i64 c) (.int .i64 k) v30 v31 v32 v33 v34 v35 v36 v37 v38 v39 v40 v41 v42 v43 v44 v45 v46 → (k : Int) = c → Q (.exit 10) ⟨arr', []⟩ w)) :
    Code.wp Yba.prog (nav [1, 1, 1, 1, 1, 1, 1, 1, 1, 1, 1, 1, 1, 1, 1, 1, 1, 1, 1, 1, 1, 0, 1, 2, 2, 1, 0, 2, 1, 1, 1, 1, 1, 2, 2, 0] (Yba.f4.body.getD .skip)) (Exit.then K Q) ⟨arr, []⟩ w := by
  refine hs.open (fun t => ?_)
  clear hs
  conv => arg 2; whnf
  by_cases h : (k : Int) < c
  · go_wp2
    refine HQ.out _ ?_ h
    exact (Fx.mk rfl rfl rfl rfl rfl rfl rfl rfl rfl rfl rfl rfl rfl rfl rfl rfl rfl rfl rfl rfl rfl rfl rfl rfl rfl rfl rfl rfl rfl rfl rfl rfl rfl rfl rfl rfl rfl rfl rfl rfl rfl rfl rfl rfl rfl rfl rfl rfl)
  · go_wp2
    refine HX.out _ ?_ (by omega)
    exact (Fx.mk rfl rfl rfl rfl rfl rfl rfl rfl rfl rfl rfl rfl rfl rfl rfl rfl rfl rfl rfl rfl rfl rfl rfl rfl rfl rfl rfl rfl rfl rfl rfl rfl rfl rfl rfl rfl rfl rfl rfl rfl rfl rfl rfl rfl rfl rfl rfl rfl)

set_option maxRecDepth 100000 in
set_option maxHeartbeats 400000 in
/-- k++ -/
theorem s21fp (k : Nat) (arr : Array Value) (w : World) (K : Act → World → Prop) (Q : Exit → Act → World → Prop) (v0 v1 v2 v3 v4 v5 v6 v7 v8 v9 v10 v11 v12 v13 v14 v15 v16 v17 v18 v19 v20 v21 v22 v23 v24 v25 v26 v27 v28 v30 v31 v32 v33 v34 v35 v36 v37 v38 v39 v40 v41 v42 v43 v44 v45 v46 : Value)
    (hk : k ≤ 2000000)
    (hs : Fx arr v0 v1 v2 v3 v4 v5 v6 v7 v8 v9 v10 v11 v12 v13 v14 v15 v16 v17 v18 v19 v20 v21 v22 v23 v24 v25 v26 v27 v28 (.int .i64 k) v30 v31 v32 v33 v34 v35 v36 v37 v38 v39 v40 v41 v42 v43 v44 v45 v46)
    (HQ : Hid (∀ arr', Fx arr' v0 v1 v2 v3 v4 v5 v6 v7 v8 v9 v10 v11 v12 v13 v14 v15 v16 v17 v18 v19 v20 v21 v22 v23 v24 v25 v26 v27 v28 (.int .i64 ((k + 1 : Nat) : Int)) v30 v31 v32 v33 v34 v35 v36 v37 v38 v39 v40 v41 v42 v43 v44 v45 v46 → K ⟨arr', []⟩ w)) :
    Code.wp Yba.prog (nav [1, 1, 1, 1, 1, 1, 1, 1, 1, 1, 1, 1, 1, 1, 1, 1, 1, 1, 1, 1, 1, 0, 1, 2, 2, 1, 0, 2, 1, 1, 1, 1, 1, 2, 2, 1, 1] (Yba.f4.body.getD .skip)) (Exit.then K Q) ⟨arr, []⟩ w := by
  refine hs.open (fun t => ?_)
  clear hs
  conv => arg 2; whnf
  go_wp2
  refine HQ.out _ ?_
  exact (Fx.mk rfl rfl rfl rfl rfl rfl rfl rfl rfl rfl rfl rfl rfl rfl rfl rfl rfl rfl rfl rfl rfl rfl rfl rfl rfl rfl rfl rfl rfl rfl (by go_num) rfl rfl rfl rfl rfl rfl rfl rfl rfl rfl rfl rfl rfl rfl rfl rfl rfl)

set_option maxRecDepth 100000 in
set_option maxHeartbeats 400000 in
/-- t.upLeft[p]++ -/
theorem s21fb (T p gup cap : Nat) (y : Int) (arr : Array Value) (w : World) (K : Act → World → Prop) (Q : Exit → Act → World → Prop) (v0 v1 v2 v3 v4 v5 v6 v7 v8 v9 v10 v11 v12 v13 v14 v15 v16 v17 v18 v19 v20 v21 v22 v23 v24 v26 v28 v29 v30 v31 v32 v33 v34 v35 v36 v37 v38 v39 v40 v41 v42 v43 v44 v45 v46 : Value)
    (f : Nat → Value) (hp : p ≤ 8) (hy : 0 ≤ y ∧ y ≤ 3) (hf : f 13 = .slice (some ⟨gup, 0, none⟩) (p + 1) cap) (ht : RowF w T 79 140 f) (hc : w.cell? ⟨gup, p, none⟩ = some (.int .u8 y)) (hfr : w.frozen? ⟨gup, p, none⟩ = false)
    (hs : Fx arr v0 v1 v2 v3 v4 v5 v6 v7 v8 v9 v10 v11 v12 v13 v14 v15 v16 v17 v18 v19 v20 v21 v22 v23 v24 (.pointer (some ⟨T, 0, none⟩)) v26 (.int .i64 p) v28 v29 v30 v31 v32 v33 v34 v35 v36 v37 v38 v39 v40 v41 v42 v43 v44 v45 v46)
    (HQ : Hid (∀ arr', Fx arr' v0 v1 v2 v3 v4 v5 v6 v7 v8 v9 v10 v11 v12 v13 v14 v15 v16 v17 v18 v19 v20 v21 v22 v23 v24 (.pointer (some ⟨T, 0, none⟩)) v26 (.int .i64 p) v28 v29 v30 v31 v32 v33 v34 v35 v36 v37 v38 v39 v40 v41 v42 v43 v44 v45 v46 → K ⟨arr', []⟩ (w.setCell ⟨gup, p, none⟩ (.int .u8 (y + 1))))) :
    Code.wp Yba.prog (nav [1, 1, 1, 1, 1, 1, 1, 1, 1, 1, 1, 1, 1, 1, 1, 1, 1, 1, 1, 1, 1, 0, 1, 2, 2, 1, 0, 2, 1, 1, 1, 1, 1, 2, 2, 1, 0, 2] (Yba.f4.body.getD .skip)) (Exit.then K Q) ⟨arr, []⟩ w := by
  refine hs.open (fun t => ?_)
  clear hs
  conv => arg 2; whnf
  have c13 := (ht.cell (i := 13) (by omega)).trans (congrArg some hf)
  have hwr : IntKind.u8.wrap (y + 1) = y + 1 := by rw [IntKind.wrap_u8]; omega
  have hp' : (p : Int) < ((p + 1 : Nat) : Int) := by omega
  clear ht hf
  go_wp2
  refine HQ.out _ ?_
  exact (Fx.mk rfl rfl rfl rfl rfl rfl rfl rfl rfl rfl rfl rfl rfl rfl rfl rfl rfl rfl rfl rfl rfl rfl rfl rfl rfl rfl rfl rfl rfl rfl rfl rfl rfl rfl rfl rfl rfl rfl rfl rfl rfl rfl rfl rfl rfl rfl rfl rfl)
end Go.Proofs.Ybulkdgxk
