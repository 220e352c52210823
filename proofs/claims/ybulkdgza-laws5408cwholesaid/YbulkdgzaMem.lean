/-
  The memory of the law as a plain state: where everything lies (Lay), and what stands there (Sta); the steps on it.
-/
import Derived.Test.YbulkdgzaS2
namespace Go.Proofs.Ybulkdgza
open Go.RowKit B
set_option linter.unusedVariables false
set_option linter.unusedSimpArgs false

/-- What stays: where everything lies, and the numbers of the run. -/
structure Lay where
  lo : Nat
  hi : Nat
  Cb : Nat
  Wb : Nat
  Tb : Nat
  Ob : Nat
  Db : Nat
  tick : Nat
  n : Nat
  s : Nat
  oT : Nat
  sq : Int
  cl : Bool
  ch : Option Nat
structure Lay.Ok (L : Lay) : Prop where
  c : L.lo ≤ L.Cb
  w : L.Cb < L.Wb
  t : L.Wb < L.Tb
  o : L.Tb < L.Ob
  h : L.Ob < L.hi
  k : ∀ j, L.ch = some j → L.Tb < j ∧ j < L.Ob
  oT : L.oT < 9223372036854775808
/-- What turns. tq: the tick at which t is queued. -/
structure Sta where
  calls : Nat
  mu : Int
  due : Value
  p : Int
  tq : Option Nat
  dl : Int
  tk : Int
  sq : Int
  ps : Int
  st : Int
  full : Bool
/-- The place of a tick among the 704 heads. -/
def kix (x : Nat) : Nat := lev x 0 * 64 + slot x (lev x 0)
def hdF (L : Lay) (tq : Option Nat) (k : Nat) : Value := if tq.map kix = some k then PT L.Tb else if k = kix L.oT then PT L.Ob else .pointer none
def ocF (oT : Nat) (tq : Option Nat) (l : Nat) : Nat := (if l = lev oT 0 then 2 ^ slot oT (lev oT 0) else 0) ||| (match tq with | some x => if l = lev x 0 then 2 ^ slot x (lev x 0) else 0 | none => 0)
def nxF (L : Lay) (tq : Option Nat) : Value := if tq.map kix = some (kix L.oT) then PT L.Ob else .pointer none
def pvF (L : Lay) (tq : Option Nat) : Value := if tq.map kix = some (kix L.oT) then PT L.Tb else .pointer none
abbrev zT : Value := .agg #[.int .u64 0, .int .i64 0, .pointer none]
def bufF (b : Bool) : Array Value := if b then #[zT] else #[]
abbrev Lay.Own (L : Lay) (j : Nat) : Prop := L.lo ≤ j ∧ j < L.hi
abbrev Lay.wh (L : Lay) (s : Sta) : Nat → Value := whF L.Cb L.tick L.Db L.cl s.mu (ocF L.oT s.tq) (hdF L s.tq) s.due s.p
abbrev Lay.tm (L : Lay) (s : Sta) : Nat → Value := tmF L.Wb (.chan L.ch) s.dl s.tk s.sq (nxF L s.tq) (.pointer none) s.ps s.st
abbrev Lay.ot (L : Lay) (s : Sta) : Nat → Value := tmF L.Wb (.chan none) 0 L.oT 0 (.pointer none) (pvF L s.tq) (kix L.oT) 1
/-- All but the wheel and the timer. -/
structure Rest (L : Lay) (s : Sta) (w0 w : World) : Prop where
  hC : RowF w L.Cb 31 5 (clF L.n L.s L.sq s.calls)
  hO : RowF w L.Ob 59 12 (L.ot s)
  hH : ∀ j, L.ch = some j → ∃ a b, w.heap[j]? = some (.chan 1 (bufF s.full) false a b false)
  chg : Chg w0 w L.Own
structure Mem (L : Lay) (s : Sta) (w0 w : World) : Prop where
  hW : RowF w L.Wb 55 729 (L.wh s)
  hT : RowF w L.Tb 59 12 (L.tm s)
  r : Rest L s w0 w

theorem kix_lt (x : Nat) (hx : x < 9223372036854775808) : lev x 0 < 11 := by
  have h := lev_spec x 0
  obtain ⟨h1, h2⟩ := h
  rcases h2 with h2 | h2
  · omega
  · apply Decidable.byContradiction
    intro hn
    apply h2
    have : (64 : Nat) ^ 11 ≤ 64 ^ lev x 0 := Nat.pow_le_pow_right (by omega) (by omega)
    have h3 : (64 : Nat) ^ 11 = 73786976294838206464 := by decide
    rw [Nat.zero_div, Nat.div_eq_of_lt (by omega)]
theorem kix_eq (x y : Nat) : kix x = kix y ↔ lev x 0 = lev y 0 ∧ slot x (lev x 0) = slot y (lev y 0) := by
  have h1 := slot_lt x (lev x 0)
  have h2 := slot_lt y (lev y 0)
  unfold kix
  constructor
  · intro h
    constructor <;> omega
  · rintro ⟨h, k⟩
    omega

section
variable {L : Lay} {s : Sta} {w0 w : World}
theorem Rest.setCell (R : Rest L s w0 w) (ok : L.Ok) {b : Nat} (hb : b = L.Wb ∨ b = L.Tb ∨ (L.Ob < b ∧ b < L.hi)) (i : Nat) (v : Value) : Rest L s w0 (w.setCell ⟨b, i, none⟩ v) := by
  obtain ⟨c, ww, t, o, h, k, _⟩ := ok
  have h1 : ¬ b = L.Cb := by rcases hb with e | e | e <;> omega
  have h2 : ¬ b = L.Ob := by rcases hb with e | e | e <;> omega
  refine ⟨R.hC.other (by exact h1) _, R.hO.other (by exact h2) _, fun j hj => ?_, R.chg.setCell (.inl ⟨by show L.lo ≤ b; rcases hb with e | e | e <;> omega, by show b < L.hi; rcases hb with e | e | e <;> omega⟩) _⟩
  obtain ⟨a, e, hh⟩ := R.hH j hj
  have := k j hj
  exact ⟨a, e, by rw [Below.heap_setCell _ _ _ _ (by show j ≠ b; rcases hb with e | e | e <;> omega)]; exact hh⟩
theorem Rest.drewN (R : Rest L s w0 w) (n : Nat) : Rest L s w0 (w.drewN n) := ⟨R.hC, R.hO, R.hH, R.chg.drewN n⟩
theorem Rest.drew (R : Rest L s w0 w) : Rest L s w0 w.drew := ⟨R.hC, R.hO, R.hH, R.chg.drew⟩
theorem Rest.to {w' : World} {S : Nat → Prop} (R : Rest L s w0 w) (ok : L.Ok) (hc : Chg w w' S) (h1 : ∀ j, S j → j = L.Wb ∨ j = L.Tb ∨ j = L.Ob) {s' : Sta} (hO : RowF w' L.Ob 59 12 (L.ot s')) (e1 : s'.calls = s.calls) (e2 : s'.full = s.full) : Rest L s' w0 w' := by
  obtain ⟨c, ww, t, o, h, k, _⟩ := ok
  refine ⟨?_, hO, fun j hj => ?_, ?_⟩
  · rw [e1]; exact R.hC.chg hc (fun x => by rcases h1 _ x with e | e | e <;> omega)
  · obtain ⟨a, e, hh⟩ := R.hH j hj
    have := k j hj
    have hl : j < w.heap.size := (Array.getElem?_eq_some_iff.1 hh).1
    exact ⟨a, e, by rw [hc.block j hl (fun x => by rcases h1 _ x with e | e | e <;> omega), e2]; exact hh⟩
  · exact R.chg.trans (hc.mono (fun j _ x => by rcases h1 _ x with e | e | e <;> exact ⟨by omega, by omega⟩))
theorem Rest.alloc (R : Rest L s w0 w) (o : Obj) : Rest L s w0 (w.alloc o) := by
  refine ⟨R.hC.alloc o, R.hO.alloc o, fun j hj => ?_, R.chg.alloc o⟩
  obtain ⟨a, e, hh⟩ := R.hH j hj
  have hl : j < w.heap.size := (Array.getElem?_eq_some_iff.1 hh).1
  exact ⟨a, e, by rw [Below.heap_alloc _ _ _ hl]; exact hh⟩
theorem Mem.alloc (M : Mem L s w0 w) (o : Obj) : Mem L s w0 (w.alloc o) := ⟨M.hW.alloc o, M.hT.alloc o, M.r.alloc o⟩
theorem Mem.drew (M : Mem L s w0 w) : Mem L s w0 w.drew := ⟨M.hW, M.hT, M.r.drew⟩
theorem Mem.drewN (M : Mem L s w0 w) (n : Nat) : Mem L s w0 (w.drewN n) := ⟨M.hW, M.hT, M.r.drewN n⟩
/-- Nothing of ours turned. -/
theorem Mem.same {w' : World} {S : Nat → Prop} (M : Mem L s w0 w) (ok : L.Ok) (hc : Chg w w' S) (h1 : ∀ j, j < L.hi → ¬ S j) (h2 : ∀ j, S j → j < w.heap.size → False) : Mem L s w0 w' := by
  have ok' := ok
  obtain ⟨c, ww, t, o, h, k, _⟩ := ok'
  refine ⟨M.hW.chg hc (h1 _ (by omega)), M.hT.chg hc (h1 _ (by omega)), M.r.to ok (hc.mono (T := fun _ => False) (fun j hj x => h2 j x hj)) (fun j x => x.elim) ?_ rfl rfl⟩
  exact M.r.hO.chg hc (h1 _ (by omega))
end
section
variable (Cb tick Db : Nat) (cl : Bool) (mu : Int) (occ : Nat → Nat) (hd : Nat → Value) (due : Value) (p : Int)
theorem wh_7 (x : Int) (i : Nat) : upd (whF Cb tick Db cl mu occ hd due p) 7 (.int .i32 x) i = whF Cb tick Db cl x occ hd due p i := by
  unfold upd
  by_cases h : i = 7
  · subst h; rfl
  · rw [if_neg h]; unfold whF; simp only [if_neg h]
theorem wh_725 (x : Value) (i : Nat) : upd (whF Cb tick Db cl mu occ hd due p) 725 x i = whF Cb tick Db cl mu occ hd x p i := by
  unfold upd
  by_cases h : i = 725
  · subst h; rfl
  · rw [if_neg h]; unfold whF; simp only [if_neg h]
theorem wh_726 (x : Int) (i : Nat) : upd (whF Cb tick Db cl mu occ hd due p) 726 (.int .i64 x) i = whF Cb tick Db cl mu occ hd due x i := by
  unfold upd
  by_cases h : i = 726
  · subst h; rfl
  · rw [if_neg h]; unfold whF; simp only [if_neg h]
theorem wh_hd (k : Nat) (hk : k < 704) (v : Value) (i : Nat) : upd (whF Cb tick Db cl mu occ hd due p) (21 + k) v i = whF Cb tick Db cl mu occ (upd hd k v) due p i := by
  unfold upd
  by_cases h : i = 21 + k
  · subst h
    rw [if_pos rfl]; unfold whF; dsimp only
    rw [if_neg (by omega), if_neg (by omega), if_neg (by omega), if_neg (by omega), if_neg (by omega), if_neg (by omega), if_neg (by omega), if_neg (by omega), if_neg (by omega), if_neg (by omega), if_neg (by omega), if_pos (by omega)]
    rw [show 21 + k - 21 = k by omega, if_pos rfl]
  · rw [if_neg h]; unfold whF; dsimp only
    by_cases h2 : 21 ≤ i ∧ i < 725
    · rw [if_neg (show ¬ i - 21 = k by omega)]
    · by_cases h3 : i < 21
      · simp only [if_pos h3]
      · simp only [if_neg (show ¬ i < 725 by omega)]
theorem wh_oc (l : Nat) (hl : l < 11) (v : Nat) (i : Nat) : upd (whF Cb tick Db cl mu occ hd due p) (10 + l) (.int .u64 v) i = whF Cb tick Db cl mu (fun j => if j = l then v else occ j) hd due p i := by
  unfold upd
  by_cases h : i = 10 + l
  · subst h
    rw [if_pos rfl]; unfold whF; dsimp only
    rw [if_neg (by omega), if_neg (by omega), if_neg (by omega), if_neg (by omega), if_neg (by omega), if_neg (by omega), if_neg (by omega), if_neg (by omega), if_neg (by omega), if_neg (by omega), if_pos (by omega)]
    rw [show 10 + l - 10 = l by omega, if_pos rfl]
  · rw [if_neg h]; unfold whF; dsimp only
    by_cases h2 : 10 ≤ i
    · rw [if_neg (show ¬ i - 10 = l by omega)]
    · by_cases h0 : i = 0
      · simp only [if_pos h0]
      by_cases h1 : i = 1
      · subst h1; rfl
      by_cases h2 : i = 2
      · subst h2; rfl
      by_cases h3 : i = 3
      · subst h3; rfl
      by_cases h4 : i = 4
      · subst h4; rfl
      by_cases h5 : i = 5
      · subst h5; rfl
      by_cases h6 : i = 6
      · subst h6; rfl
      by_cases h7 : i = 7
      · subst h7; rfl
      by_cases h8 : i = 8
      · subst h8; rfl
      have h9 : i = 9 := by omega
      subst h9; rfl
theorem wh_congr {occ' : Nat → Nat} {hd' : Nat → Value} (ho : ∀ l, l < 11 → occ l = occ' l) (hh : ∀ k, k < 704 → hd k = hd' k) (i : Nat) : whF Cb tick Db cl mu occ hd due p i = whF Cb tick Db cl mu occ' hd' due p i := by
  unfold whF
  by_cases h1 : i < 10
  · match i, h1 with
    | 0, _ => rfl
    | 1, _ => rfl
    | 2, _ => rfl
    | 3, _ => rfl
    | 4, _ => rfl
    | 5, _ => rfl
    | 6, _ => rfl
    | 7, _ => rfl
    | 8, _ => rfl
    | 9, _ => rfl
  by_cases h2 : i < 21
  · simp only [if_pos h2]; rw [ho (i - 10) (by omega)]
  by_cases h3 : i < 725
  · simp only [if_neg h2, if_pos h3]; rw [hh (i - 21) (by omega)]
  simp only [if_neg h2, if_neg h3]
end
end Go.Proofs.Ybulkdgza
