/-
  LawS5409AWhole: the levels as plain data; the view in memory; one more level.
-/
import Derived.Test.YbulkdgzoS2
namespace Go.Proofs.Ybulkdgzo
open Go.RowKit
set_option linter.unusedVariables false
set_option linter.unusedSimpArgs false

/-- A level as it came in. -/
structure Lv where
  tx : Bool
  dq : Int
  a : Option Addr
  n : Nat
  cap : Nat
  f : Nat → Int
/-- The levels in memory; all below block B. -/
structure Lvs (w : World) (B b o n : Nat) (U : Nat → Lv) : Prop where
  bB : b < B
  c0 : ∀ i, i < n → w.cell? ⟨b, o + i * 3, none⟩ = some (.bool (U i).tx)
  c1 : ∀ i, i < n → w.cell? ⟨b, o + i * 3 + 1, none⟩ = some (.int .i64 (U i).dq)
  c2 : ∀ i, i < n → w.cell? ⟨b, o + i * 3 + 2, none⟩ = some (.slice (U i).a (U i).n (U i).cap)
  it : ∀ i, i < n → 0 < (U i).n → ∃ b' o', (U i).a = some ⟨b', o', none⟩ ∧ b' < B ∧ ∀ j, j < (U i).n → w.cell? ⟨b', o' + j, none⟩ = some (.int .i64 ((U i).f j))
  nil : ∀ i, i < n → (U i).a = none → (U i).n = 0
theorem Lvs.chg {w w' : World} {B b o n : Nat} {U : Nat → Lv} {S : Nat → Prop} (h : Lvs w B b o n U) (hB : B ≤ w.heap.size) (hc : Chg w w' S) (hS : ∀ j, j < B → ¬ S j) : Lvs w' B b o n U := by
  have hb := h.bB
  refine ⟨hb, fun i hi => (hc.cell (by omega) (hS _ hb)).trans (h.c0 i hi), fun i hi => (hc.cell (by omega) (hS _ hb)).trans (h.c1 i hi), fun i hi => (hc.cell (by omega) (hS _ hb)).trans (h.c2 i hi), fun i hi h0 => ?_, h.nil⟩
  obtain ⟨b', o', e, hlt, hcell⟩ := h.it i hi h0
  exact ⟨b', o', e, hlt, fun j hj => (hc.cell (by omega) (hS _ hlt)).trans (hcell j hj)⟩

/-- The sum of the first k lengths. -/
def tot (U : Nat → Lv) : Nat → Nat
  | 0 => 0
  | k + 1 => tot U k + (U k).n
theorem tot_mono (U : Nat → Lv) : ∀ j k, k ≤ j → tot U k ≤ tot U j
  | 0, k, h => by have : k = 0 := by omega
                  subst this; exact Nat.le_refl _
  | j + 1, k, h => by
    by_cases e : k = j + 1
    · subst e; exact Nat.le_refl _
    · have h1 := tot_mono U j k (by omega)
      have h2 : tot U (j + 1) = tot U j + (U j).n := rfl
      omega

def updN {α : Type} (f : Nat → α) (i : Nat) (v : α) : Nat → α := fun j => if j = i then v else f j
theorem updN_same {α : Type} (f : Nat → α) (i : Nat) (v : α) : updN f i v i = v := by simp [updN]
theorem updN_ne {α : Type} (f : Nat → α) (i : Nat) (v : α) (j : Nat) (h : j ≠ i) : updN f i v j = f j := by simp [updN, h]

/-- The cells of the view's first k levels. -/
def vc (X : Nat → Option Addr) (qb : Nat → Nat) : Nat → List Value
  | 0 => []
  | k + 1 => vc X qb k ++ [.pointer (X k), .pointer (some ⟨qb k, 0, none⟩)]
theorem vc_len (X : Nat → Option Addr) (qb : Nat → Nat) : ∀ k, (vc X qb k).length = k * 2
  | 0 => rfl
  | k + 1 => by unfold vc; rw [List.length_append, vc_len X qb k]; simp; omega
theorem vc_upd (X : Nat → Option Addr) (qb : Nat → Nat) (m : Nat) (x : Option Addr) (q : Nat) : ∀ k, k ≤ m → vc (updN X m x) (updN qb m q) k = vc X qb k
  | 0, _ => rfl
  | k + 1, h => by unfold vc; rw [vc_upd X qb m x q k (by omega), updN_ne _ _ _ _ (by omega), updN_ne _ _ _ _ (by omega)]
theorem vc_at (X : Nat → Option Addr) (qb : Nat → Nat) : ∀ k i, i < k → (vc X qb k)[i * 2]? = some (.pointer (X i)) ∧ (vc X qb k)[i * 2 + 1]? = some (.pointer (some ⟨qb i, 0, none⟩))
  | k + 1, i, h => by
    have hl := vc_len X qb k
    unfold vc
    by_cases e : i = k
    · subst e
      rw [List.getElem?_append_right (by omega), List.getElem?_append_right (by omega), hl]
      simp
    · obtain ⟨h1, h2⟩ := vc_at X qb k i (by omega)
      rw [List.getElem?_append_left (by omega), List.getElem?_append_left (by omega)]
      exact ⟨h1, h2⟩

/-- A row of n elements of two cells of which the first k are known. -/
def Row2 (W : World) (vb n k : Nat) (xs : List Value) : Prop := ∃ cur : Array Value, W.heap[vb]? = some (.cells cur 49 (0, 0)) ∧ cur.size = n * 2 ∧ cur.toList.take (k * 2) = xs
theorem Row2.lt {W : World} {vb n k : Nat} {xs : List Value} (h : Row2 W vb n k xs) : vb < W.heap.size := by
  obtain ⟨c, h, _⟩ := h
  exact (Array.getElem?_eq_some_iff.1 h).1
theorem Row2.chg {W W' : World} {vb n k : Nat} {xs : List Value} {S : Nat → Prop} (h : Row2 W vb n k xs) (hc : Chg W W' S) (hs : ¬ S vb) : Row2 W' vb n k xs := by
  have := h.lt
  obtain ⟨c, h1, h2, h3⟩ := h
  exact ⟨c, (hc.block vb this hs).trans h1, h2, h3⟩
theorem Row2.rowAt {W : World} {vb n k : Nat} {xs : List Value} (h : Row2 W vb n k xs) : W.heap[vb]? = some (.cells (rowAt W vb) 49 (0, 0)) ∧ (rowAt W vb).size = n * 2 ∧ (rowAt W vb).toList.take (k * 2) = xs := by
  obtain ⟨c, h1, h2, h3⟩ := h
  have e : Go.Proofs.Ybulkdgzo.rowAt W vb = c := by unfold Go.Proofs.Ybulkdgzo.rowAt; rw [h1]
  rw [e]; exact ⟨h1, h2, h3⟩
theorem app_size (cur : Array Value) (n k : Nat) (x y : Value) (h : cur.size = n * 2) (hk : k < n) : (appRow cur k x y).size = n * 2 := by
  unfold appRow
  simp
  omega
theorem app_take (cur : Array Value) (n k : Nat) (x y : Value) (h : cur.size = n * 2) (hk : k < n) : (appRow cur k x y).toList.take (k * 2) = cur.toList.take (k * 2) ∧ (appRow cur k x y).toList.take ((k + 1) * 2) = cur.toList.take (k * 2) ++ [x, y] := by
  have hl : (cur.toList.take (k * 2)).length = k * 2 := by simp; omega
  unfold appRow
  simp only [List.toList_toArray]
  constructor
  · rw [List.append_assoc, List.take_append_of_le_length (by omega), List.take_of_length_le (by omega)]
  · rw [List.take_append_of_le_length (by rw [List.length_append, hl]; simp; omega), List.take_of_length_le (by rw [List.length_append, hl]; simp; omega)]
theorem Chg.setRow {w w1 : World} {S : Nat → Prop} (h : Chg w w1 S) {g : Nat} (hg : S g) (r : Array Value) : Chg w (w1.setRow g r) S :=
  ⟨h.os, h.tape, h.output, by simpa [World.setRow] using h.size, fun k hk hn => (setRow_other w1 g k r (fun e => hn (e ▸ hg))).trans (h.block k hk hn)⟩
theorem Row2.app {W : World} {vb n k : Nat} {xs : List Value} (h : Row2 W vb n k xs) (hk : k < n) (x y : Value) : Row2 (W.setRow vb (appRow (Go.Proofs.Ybulkdgzo.rowAt W vb) k x y)) vb n k xs ∧ Row2 (W.setRow vb (appRow (Go.Proofs.Ybulkdgzo.rowAt W vb) k x y)) vb n (k + 1) (xs ++ [x, y]) := by
  obtain ⟨h1, h2, h3⟩ := h.rowAt
  have hh := setRow_heap W vb _ (appRow (Go.Proofs.Ybulkdgzo.rowAt W vb) k x y) 49 (0, 0) h1
  obtain ⟨t1, t2⟩ := app_take _ n k x y h2 hk
  exact ⟨⟨_, hh, app_size _ n k x y h2 hk, t1.trans h3⟩, ⟨_, hh, app_size _ n k x y h2 hk, by rw [t2, h3]⟩⟩
theorem append_run {X : World} {vb n k : Nat} {xs : List Value} (xo : Option Addr) (g q c : Nat) (ty : TypeId) (hk : k < n) (hR : Row2 (X.alloc (.cells #[.pointer xo, .pointer (some ⟨q, 0, none⟩)] 49)) vb n k xs) (hg : g = X.heap.size) :
    (Builtin.append_ #[27, 27] ty #[.slice (some ⟨vb, 0, none⟩) k n, .slice (some ⟨g, 0, none⟩) 1 c]).run Yba.prog (X.alloc (.cells #[.pointer xo, .pointer (some ⟨q, 0, none⟩)] 49)) =
      .ok (.slice (some ⟨vb, 0, none⟩) (k + 1) n) ((X.alloc (.cells #[.pointer xo, .pointer (some ⟨q, 0, none⟩)] 49)).setRow vb (appRow (Go.Proofs.Ybulkdgzo.rowAt (X.alloc (.cells #[.pointer xo, .pointer (some ⟨q, 0, none⟩)] 49)) vb) k (.pointer xo) (.pointer (some ⟨q, 0, none⟩)))) := by
  obtain ⟨i0, hi, hz0, hz1, hz2⟩ := info_parts' info49
  obtain ⟨h1, h2, h3⟩ := hR.rowAt
  subst hg
  have hnew : (X.alloc (.cells #[.pointer xo, .pointer (some ⟨q, 0, none⟩)] 49)).heap[X.heap.size]? = some (.cells #[.pointer xo, .pointer (some ⟨q, 0, none⟩)] 49 (0, 0)) := by show (X.heap.push _)[X.heap.size]? = _; simp
  have := run_append_room (P := Yba.prog) (X.alloc (.cells #[.pointer xo, .pointer (some ⟨q, 0, none⟩)] 49)) 27 ty 49 i0 Yba.underlying27 hi vb k n _ h1 ⟨X.heap.size, 0, none⟩ 1 c [.pointer xo, .pointer (some ⟨q, 0, none⟩)] (by rw [hz1]; rfl) (fun j u hj => by
      rw [Addr.add_lit, cell_of_row _ _ _ _ _ _ hnew]
      match j, hj with
      | 0, hj => simpa using hj
      | 1, hj => simpa using hj) (fun u hu => by
      simp at hu
      rcases hu with rfl | rfl <;> rfl) (by omega) (by rw [hz1, h2]; simp; omega)
  rw [this, hz1]
  rfl

/-- The view in memory: its first k levels. -/
structure Vst (w W : World) (vb n : Nat) (U : Nat → Lv) (k : Nat) (X : Nat → Option Addr) (qb : Nat → Nat) (ga : Nat → Option Addr) (gc : Nat → Nat) : Prop where
  row : Row2 W vb n k (vc X qb k)
  chg : Chg w W (fun j => j = vb)
  q : ∀ i, i < k → vb < qb i ∧ W.cell? ⟨qb i, 0, none⟩ = some (.slice (ga i) (U i).n (gc i)) ∧ W.cell? ⟨qb i, 1, none⟩ = some (.int .i64 (U i).dq)
  it : ∀ i, i < k → 0 < (U i).n → ∃ g, ga i = some ⟨g, 0, none⟩ ∧ vb < g ∧ ∀ j, j < (U i).n → W.cell? ⟨g, j, none⟩ = some (.int .i64 ((U i).f j))
  x : ∀ i, i < k → (X i).isNone = !(U i).tx

theorem own_slice {w : World} {B : Nat} {v : Value} {n : Nat} {f : Nat → Int} (h : w.ownsRow B 2 1 v n ((List.range n).map (fun j => Value.int .i64 (f j)))) :
    ∃ ga gc, v = .slice ga n gc ∧ (0 < n → ∃ g, ga = some ⟨g, 0, none⟩ ∧ B ≤ g ∧ ∀ j, j < n → w.cell? ⟨g, j, none⟩ = some (.int .i64 (f j))) := by
  rcases h.2 with ⟨rfl, rfl⟩ | ⟨g, cap, cur, rfl, hb, hg, h1, h2, h3, h4⟩
  · exact ⟨none, 0, rfl, fun h => by omega⟩
  · refine ⟨some ⟨g, 0, none⟩, cap, rfl, fun h0 => ⟨g, rfl, hb, fun j hj => ?_⟩⟩
    have := h.cells (g := g) rfl j (.int .i64 (f j)) (by simp [hj])
    rwa [Addr.add_lit, Nat.zero_add] at this

end Go.Proofs.Ybulkdgzo
