/-
  LawS5408BWhole, its statement 21: the loops.
-/
import Derived.Test.YbulkdgzaDoorS7
namespace Go.Proofs.YbulkdgzaDoor
open Go.RowKit B
set_option linter.unusedVariables false
set_option linter.unusedSimpArgs false

theorem block_Qp {b : Nat} {c : Code} {K : Act → World → Prop} {Q : Exit → Act → World → Prop} {R : Ending → World → Prop} {a : Act} {w : World} (h : ∀ Q', c.wp Ybad.prog (Exit.then K (Qp Q' R)) a w) : (Code.block b c).wp Ybad.prog (Exit.then K (Qp Q R)) a w := by
  refine wp_block (Code.wp_mono (fun e a w q => ?_) (h (Exit.inBlock b (Exit.then K (Qp Q R)))))
  cases e <;> exact q

/-- The address of timer i, or none. -/
def pa (tb : Nat → Nat) : Option Nat → Option Addr
  | none => none
  | some i => some ⟨tb i, 0, none⟩
theorem ptr_eq (tb : Nat → Nat) (v : Option Nat) : ptr tb v = .pointer (pa tb v) := by cases v <;> rfl
/-- The one ahead of the j-th. -/
def pvO (X : List Nat) (j : Nat) : Option Nat := if j = 0 then none else X[j - 1]?
def seenF (X : List Nat) : Nat → Value := fun i => .bool (decide (i ∈ X))
theorem seenF_upd (X : List Nat) (i : Nat) : upd (seenF X) i (.bool true) = seenF (X ++ [i]) := by
  funext j
  unfold upd seenF
  by_cases e : j = i
  · subst e; simp
  · rw [if_neg e]; simp [e]
/-- The first q lists. -/
def visL (L : Nat → Nat → List Nat) : Nat → List Nat
  | 0 => []
  | q + 1 => visL L q ++ L (q / 64) (q % 64)
theorem visL_mem (L : Nat → Nat → List Nat) (i : Nat) : ∀ q, i ∈ visL L q ↔ ∃ p, p < q ∧ i ∈ L (p / 64) (p % 64)
  | 0 => by simp [visL]
  | q + 1 => by
    unfold visL
    rw [List.mem_append, visL_mem L i q]
    constructor
    · rintro (⟨p, h1, h2⟩ | h)
      · exact ⟨p, by omega, h2⟩
      · exact ⟨q, by omega, h⟩
    · rintro ⟨p, h1, h2⟩
      by_cases e : p = q
      · subst e; exact .inr h2
      · exact .inl ⟨p, by omega, h2⟩
theorem visL_at (L : Nat → Nat → List Nat) (l s : Nat) (hs : s < 64) : visL L (l * 64 + (s + 1)) = visL L (l * 64 + s) ++ L l s := by
  have e : visL L (l * 64 + s + 1) = visL L (l * 64 + s) ++ L ((l * 64 + s) / 64) ((l * 64 + s) % 64) := rfl
  rw [show l * 64 + (s + 1) = l * 64 + s + 1 by omega, e, show (l * 64 + s) / 64 = l by omega, show (l * 64 + s) % 64 = s by omega]

/-- A list without doubles whose members lie in another is no longer. -/
theorem len_le : ∀ (l m : List Nat), l.Nodup → (∀ i, i ∈ l → i ∈ m) → l.length ≤ m.length
  | [], m, _, _ => Nat.zero_le _
  | a :: l, m, h, hs => by
    have h1 := List.nodup_cons.1 h
    have hm := hs a List.mem_cons_self
    have := len_le l (m.erase a) h1.2 (fun i hi => (List.mem_erase_of_ne (fun e => by subst e; exact h1.1 hi)).2 (hs i (List.mem_cons_of_mem _ hi)))
    rw [List.length_erase_of_mem hm] at this
    have hp := List.length_pos_of_mem hm
    rw [List.length_cons]; omega
theorem len_lt (l : List Nat) (n : Nat) (h : l.Nodup) (hs : ∀ i, i ∈ l → i < n) : l.length ≤ n := by
  have := len_le l (List.range n) h (fun i hi => List.mem_range.2 (hs i hi))
  simpa using this

/-- What is known ahead of the count. -/
structure Cx (w : World) (S : Nat) (tb : Nat → Nat) (n : Nat) (T : Nat → Nat) (nx pv : Nat → Option Nat) (ps occ : Nat → Nat) (wh : Wh) (A E : Nat) (got : List Nat) : Prop where
  m : Mem w S tb n T z0 nx pv ps occ wh.cur wh.L
  k : Lk n nx pv ps occ wh.L
  inv : Inv T (fun i => i < n ∧ i ∉ got) wh
  a : RowF w A 45 n (tsF tb n)
  eS : ¬ S = E
  et : ∀ i, i < n → ¬ tb i = E
  eA : ¬ A = E
  gd : got.Nodup
  gl : ∀ i, i ∈ got → i < n

theorem Cx.nodup {w : World} {S : Nat} {tb : Nat → Nat} {n : Nat} {T : Nat → Nat} {nx pv : Nat → Option Nat} {ps occ : Nat → Nat} {wh : Wh} {A E : Nat} {got : List Nat} (h : Cx w S tb n T nx pv ps occ wh A E got) (q : Nat) : (got ++ visL wh.L q).Nodup := by
  induction q with
  | zero => simpa [visL] using h.gd
  | succ q ih =>
    unfold visL
    rw [← List.append_assoc, List.nodup_append]
    refine ⟨ih, h.k.nd _ _, fun i hi j hj e => ?_⟩
    subst e
    rcases List.mem_append.1 hi with hg | hv
    · exact (h.inv.only _ _ i hj).1.2 hg
    · obtain ⟨p, hp, hm⟩ := (visL_mem wh.L i q).1 hv
      have := h.k.dj _ _ _ _ i hm hj
      omega
theorem Cx.lt {w : World} {S : Nat} {tb : Nat → Nat} {n : Nat} {T : Nat → Nat} {nx pv : Nat → Option Nat} {ps occ : Nat → Nat} {wh : Wh} {A E : Nat} {got : List Nat} (h : Cx w S tb n T nx pv ps occ wh A E got) (q i : Nat) (hi : i ∈ got ++ visL wh.L q) : i < n := by
  rcases List.mem_append.1 hi with hg | hv
  · exact h.gl i hg
  · obtain ⟨p, hp, hm⟩ := (visL_mem wh.L i q).1 hv
    exact h.k.lt _ _ i hm
/-- At the j-th of list (l, s). -/
theorem Cx.at {w : World} {S : Nat} {tb : Nat → Nat} {n : Nat} {T : Nat → Nat} {nx pv : Nat → Option Nat} {ps occ : Nat → Nat} {wh : Wh} {A E : Nat} {got : List Nat} (h : Cx w S tb n T nx pv ps occ wh A E got) {l s j i : Nat} (hs : s < 64) (hj : (wh.L l s)[j]? = some i) :
    i ∉ (got ++ visL wh.L (l * 64 + s)) ++ (wh.L l s).take j ∧ (visL wh.L (l * 64 + s)).length + j + got.length < n := by
  have nd := h.nodup (l * 64 + (s + 1))
  have hlt := h.lt (l * 64 + (s + 1))
  rw [visL_at _ _ _ hs, ← List.append_assoc] at nd hlt
  have hjl := (List.getElem?_eq_some_iff.1 hj).1
  have hle := len_lt _ n nd hlt
  rw [List.length_append, List.length_append] at hle
  refine ⟨fun hi => ?_, by omega⟩
  rcases List.mem_append.1 hi with hg | ht
  · exact (List.nodup_append.1 nd).2.2 i hg i (List.mem_of_getElem? hj) rfl
  · obtain ⟨k, hk, hk2⟩ := List.mem_take_iff_getElem.1 ht
    have nl := h.k.nd l s
    obtain ⟨hj1, hj2⟩ := List.getElem?_eq_some_iff.1 hj
    have := (List.getElem_inj nl).1 (hk2.trans hj2.symm)
    omega
theorem Cx.all {w : World} {S : Nat} {tb : Nat → Nat} {n : Nat} {T : Nat → Nat} {nx pv : Nat → Option Nat} {ps occ : Nat → Nat} {wh : Wh} {A E : Nat} {got : List Nat} (h : Cx w S tb n T nx pv ps occ wh A E got) : (visL wh.L 704).length + got.length = n := by
  have h1 := len_lt _ n (h.nodup 704) (h.lt 704)
  have h2 := len_le (List.range n) (got ++ visL wh.L 704) List.nodup_range (fun i hi => by
    have hn := List.mem_range.1 hi
    by_cases hg : i ∈ got
    · exact List.mem_append.2 (.inl hg)
    · have hp := h.inv.place i ⟨hn, hg⟩
      have a1 := h.inv.levlt hp
      have a2 := h.inv.slotlt hp
      refine List.mem_append.2 (.inr ((visL_mem wh.L i 704).2 ⟨lev (T i) wh.cur * 64 + slot (T i) (lev (T i) wh.cur), by omega, ?_⟩))
      rw [show (lev (T i) wh.cur * 64 + slot (T i) (lev (T i) wh.cur)) / 64 = lev (T i) wh.cur by omega, show (lev (T i) wh.cur * 64 + slot (T i) (lev (T i) wh.cur)) % 64 = slot (T i) (lev (T i) wh.cur) by omega]
      exact hp)
  rw [List.length_append] at h1 h2
  rw [List.length_range] at h2
  omega

theorem tm5 (tb : Nat → Nat) (T i : Nat) (z : Nat → Value) (a b : Option Nat) (ps : Nat) : tmF tb T i z a b ps 5 = .int .i64 T := by simp [tmF]
theorem tm6 (tb : Nat → Nat) (T i : Nat) (z : Nat → Value) (a b : Option Nat) (ps : Nat) : tmF tb T i z a b ps 6 = .int .u64 i := by simp [tmF]
theorem tm7 (tb : Nat → Nat) (T i : Nat) (z : Nat → Value) (a b : Option Nat) (ps : Nat) : tmF tb T i z a b ps 7 = .pointer (pa tb a) := by simp [tmF, ptr_eq]
theorem tm8 (tb : Nat → Nat) (T i : Nat) (z : Nat → Value) (a b : Option Nat) (ps : Nat) : tmF tb T i z a b ps 8 = .pointer (pa tb b) := by simp [tmF, ptr_eq]
theorem tm9 (tb : Nat → Nat) (T i : Nat) (z : Nat → Value) (a b : Option Nat) (ps : Nat) : tmF tb T i z a b ps 9 = .int .i32 ps := by simp [tmF]
theorem ts_at (tb : Nat → Nat) (n i : Nat) (h : i < n) : tsF tb n i = .pointer (some ⟨tb i, 0, none⟩) := if_pos h
theorem c12 : nav [1, 1, 1, 1, 1, 1, 1, 1, 1, 1, 1, 1, 1, 1, 1, 1, 1, 1, 1, 1, 1, 0, 1, 2, 2, 1, 0, 2, 1, 2, 2, 1, 0, 2, 1, 1, 1, 1, 1] (Ybad.f4.body.getD .skip) = .block 12 (.loop (nav [1, 1, 1, 1, 1, 1, 1, 1, 1, 1, 1, 1, 1, 1, 1, 1, 1, 1, 1, 1, 1, 0, 1, 2, 2, 1, 0, 2, 1, 2, 2, 1, 0, 2, 1, 1, 1, 1, 1, 2, 2] (Ybad.f4.body.getD .skip))) := by kernel_rfl
theorem cO : nav [1, 1, 1, 1, 1, 1, 1, 1, 1, 1, 1, 1, 1, 1, 1, 1, 1, 1, 1, 1, 1, 0, 1, 2, 2, 1, 0, 2, 1, 2, 2, 1, 0, 2, 1, 1, 1, 1, 1, 2, 2] (Ybad.f4.body.getD .skip) = .seq (nav [1, 1, 1, 1, 1, 1, 1, 1, 1, 1, 1, 1, 1, 1, 1, 1, 1, 1, 1, 1, 1, 0, 1, 2, 2, 1, 0, 2, 1, 2, 2, 1, 0, 2, 1, 1, 1, 1, 1, 2, 2, 0] (Ybad.f4.body.getD .skip)) (.seq (.block 13 (nav [1, 1, 1, 1, 1, 1, 1, 1, 1, 1, 1, 1, 1, 1, 1, 1, 1, 1, 1, 1, 1, 0, 1, 2, 2, 1, 0, 2, 1, 2, 2, 1, 0, 2, 1, 1, 1, 1, 1, 2, 2, 1, 0, 2] (Ybad.f4.body.getD .skip))) (nav [1, 1, 1, 1, 1, 1, 1, 1, 1, 1, 1, 1, 1, 1, 1, 1, 1, 1, 1, 1, 1, 0, 1, 2, 2, 1, 0, 2, 1, 2, 2, 1, 0, 2, 1, 1, 1, 1, 1, 2, 2, 1, 1] (Ybad.f4.body.getD .skip))) := by kernel_rfl
theorem cY : nav [1, 1, 1, 1, 1, 1, 1, 1, 1, 1, 1, 1, 1, 1, 1, 1, 1, 1, 1, 1, 1, 0, 1, 2, 2, 1, 0, 2, 1, 2, 2, 1, 0, 2, 1, 1, 1, 1, 1, 2, 2, 1, 0, 2] (Ybad.f4.body.getD .skip) = .seq (nav [1, 1, 1, 1, 1, 1, 1, 1, 1, 1, 1, 1, 1, 1, 1, 1, 1, 1, 1, 1, 1, 0, 1, 2, 2, 1, 0, 2, 1, 2, 2, 1, 0, 2, 1, 1, 1, 1, 1, 2, 2, 1, 0, 2, 0] (Ybad.f4.body.getD .skip)) (.seq (nav [1, 1, 1, 1, 1, 1, 1, 1, 1, 1, 1, 1, 1, 1, 1, 1, 1, 1, 1, 1, 1, 0, 1, 2, 2, 1, 0, 2, 1, 2, 2, 1, 0, 2, 1, 1, 1, 1, 1, 2, 2, 1, 0, 2, 1, 0] (Ybad.f4.body.getD .skip)) (.seq (nav [1, 1, 1, 1, 1, 1, 1, 1, 1, 1, 1, 1, 1, 1, 1, 1, 1, 1, 1, 1, 1, 0, 1, 2, 2, 1, 0, 2, 1, 2, 2, 1, 0, 2, 1, 1, 1, 1, 1, 2, 2, 1, 0, 2, 1, 1, 0] (Ybad.f4.body.getD .skip)) (.seq (nav [1, 1, 1, 1, 1, 1, 1, 1, 1, 1, 1, 1, 1, 1, 1, 1, 1, 1, 1, 1, 1, 0, 1, 2, 2, 1, 0, 2, 1, 2, 2, 1, 0, 2, 1, 1, 1, 1, 1, 2, 2, 1, 0, 2, 1, 1, 1, 0] (Ybad.f4.body.getD .skip)) (.seq (nav [1, 1, 1, 1, 1, 1, 1, 1, 1, 1, 1, 1, 1, 1, 1, 1, 1, 1, 1, 1, 1, 0, 1, 2, 2, 1, 0, 2, 1, 2, 2, 1, 0, 2, 1, 1, 1, 1, 1, 2, 2, 1, 0, 2, 1, 1, 1, 1, 0] (Ybad.f4.body.getD .skip)) (.seq (nav [1, 1, 1, 1, 1, 1, 1, 1, 1, 1, 1, 1, 1, 1, 1, 1, 1, 1, 1, 1, 1, 0, 1, 2, 2, 1, 0, 2, 1, 2, 2, 1, 0, 2, 1, 1, 1, 1, 1, 2, 2, 1, 0, 2, 1, 1, 1, 1, 1, 0] (Ybad.f4.body.getD .skip)) (.seq (nav [1, 1, 1, 1, 1, 1, 1, 1, 1, 1, 1, 1, 1, 1, 1, 1, 1, 1, 1, 1, 1, 0, 1, 2, 2, 1, 0, 2, 1, 2, 2, 1, 0, 2, 1, 1, 1, 1, 1, 2, 2, 1, 0, 2, 1, 1, 1, 1, 1, 1, 0] (Ybad.f4.body.getD .skip)) (nav [1, 1, 1, 1, 1, 1, 1, 1, 1, 1, 1, 1, 1, 1, 1, 1, 1, 1, 1, 1, 1, 0, 1, 2, 2, 1, 0, 2, 1, 2, 2, 1, 0, 2, 1, 1, 1, 1, 1, 2, 2, 1, 0, 2, 1, 1, 1, 1, 1, 1, 1] (Ybad.f4.body.getD .skip)))))))) := by kernel_rfl
theorem c10 : nav [1, 1, 1, 1, 1, 1, 1, 1, 1, 1, 1, 1, 1, 1, 1, 1, 1, 1, 1, 1, 1, 0, 1, 2, 2, 1, 0, 2, 1] (Ybad.f4.body.getD .skip) = .block 10 (.loop (nav [1, 1, 1, 1, 1, 1, 1, 1, 1, 1, 1, 1, 1, 1, 1, 1, 1, 1, 1, 1, 1, 0, 1, 2, 2, 1, 0, 2, 1, 2, 2] (Ybad.f4.body.getD .skip))) := by kernel_rfl
theorem cN : nav [1, 1, 1, 1, 1, 1, 1, 1, 1, 1, 1, 1, 1, 1, 1, 1, 1, 1, 1, 1, 1, 0, 1, 2, 2, 1, 0, 2, 1, 2, 2] (Ybad.f4.body.getD .skip) = .seq (nav [1, 1, 1, 1, 1, 1, 1, 1, 1, 1, 1, 1, 1, 1, 1, 1, 1, 1, 1, 1, 1, 0, 1, 2, 2, 1, 0, 2, 1, 2, 2, 0] (Ybad.f4.body.getD .skip)) (.seq (.block 11 (nav [1, 1, 1, 1, 1, 1, 1, 1, 1, 1, 1, 1, 1, 1, 1, 1, 1, 1, 1, 1, 1, 0, 1, 2, 2, 1, 0, 2, 1, 2, 2, 1, 0, 2] (Ybad.f4.body.getD .skip))) (nav [1, 1, 1, 1, 1, 1, 1, 1, 1, 1, 1, 1, 1, 1, 1, 1, 1, 1, 1, 1, 1, 0, 1, 2, 2, 1, 0, 2, 1, 2, 2, 1, 1] (Ybad.f4.body.getD .skip))) := by kernel_rfl
theorem cB11 : nav [1, 1, 1, 1, 1, 1, 1, 1, 1, 1, 1, 1, 1, 1, 1, 1, 1, 1, 1, 1, 1, 0, 1, 2, 2, 1, 0, 2, 1, 2, 2, 1, 0, 2] (Ybad.f4.body.getD .skip) = .seq (nav [1, 1, 1, 1, 1, 1, 1, 1, 1, 1, 1, 1, 1, 1, 1, 1, 1, 1, 1, 1, 1, 0, 1, 2, 2, 1, 0, 2, 1, 2, 2, 1, 0, 2, 0] (Ybad.f4.body.getD .skip)) (.seq (nav [1, 1, 1, 1, 1, 1, 1, 1, 1, 1, 1, 1, 1, 1, 1, 1, 1, 1, 1, 1, 1, 0, 1, 2, 2, 1, 0, 2, 1, 2, 2, 1, 0, 2, 1, 0] (Ybad.f4.body.getD .skip)) (.seq (nav [1, 1, 1, 1, 1, 1, 1, 1, 1, 1, 1, 1, 1, 1, 1, 1, 1, 1, 1, 1, 1, 0, 1, 2, 2, 1, 0, 2, 1, 2, 2, 1, 0, 2, 1, 1, 0] (Ybad.f4.body.getD .skip)) (.seq (nav [1, 1, 1, 1, 1, 1, 1, 1, 1, 1, 1, 1, 1, 1, 1, 1, 1, 1, 1, 1, 1, 0, 1, 2, 2, 1, 0, 2, 1, 2, 2, 1, 0, 2, 1, 1, 1, 0] (Ybad.f4.body.getD .skip)) (.seq (nav [1, 1, 1, 1, 1, 1, 1, 1, 1, 1, 1, 1, 1, 1, 1, 1, 1, 1, 1, 1, 1, 0, 1, 2, 2, 1, 0, 2, 1, 2, 2, 1, 0, 2, 1, 1, 1, 1, 0] (Ybad.f4.body.getD .skip)) (nav [1, 1, 1, 1, 1, 1, 1, 1, 1, 1, 1, 1, 1, 1, 1, 1, 1, 1, 1, 1, 1, 0, 1, 2, 2, 1, 0, 2, 1, 2, 2, 1, 0, 2, 1, 1, 1, 1, 1] (Ybad.f4.body.getD .skip)))))) := by kernel_rfl
theorem c8b : nav [1, 1, 1, 1, 1, 1, 1, 1, 1, 1, 1, 1, 1, 1, 1, 1, 1, 1, 1, 1, 1, 0, 1] (Ybad.f4.body.getD .skip) = .block 8 (.loop (nav [1, 1, 1, 1, 1, 1, 1, 1, 1, 1, 1, 1, 1, 1, 1, 1, 1, 1, 1, 1, 1, 0, 1, 2, 2] (Ybad.f4.body.getD .skip))) := by kernel_rfl
theorem cM : nav [1, 1, 1, 1, 1, 1, 1, 1, 1, 1, 1, 1, 1, 1, 1, 1, 1, 1, 1, 1, 1, 0, 1, 2, 2] (Ybad.f4.body.getD .skip) = .seq (nav [1, 1, 1, 1, 1, 1, 1, 1, 1, 1, 1, 1, 1, 1, 1, 1, 1, 1, 1, 1, 1, 0, 1, 2, 2, 0] (Ybad.f4.body.getD .skip)) (.seq (.block 9 (.seq (nav [1, 1, 1, 1, 1, 1, 1, 1, 1, 1, 1, 1, 1, 1, 1, 1, 1, 1, 1, 1, 1, 0, 1, 2, 2, 1, 0, 2, 0] (Ybad.f4.body.getD .skip)) (nav [1, 1, 1, 1, 1, 1, 1, 1, 1, 1, 1, 1, 1, 1, 1, 1, 1, 1, 1, 1, 1, 0, 1, 2, 2, 1, 0, 2, 1] (Ybad.f4.body.getD .skip)))) (nav [1, 1, 1, 1, 1, 1, 1, 1, 1, 1, 1, 1, 1, 1, 1, 1, 1, 1, 1, 1, 1, 0, 1, 2, 2, 1, 1] (Ybad.f4.body.getD .skip))) := by kernel_rfl

set_option maxHeartbeats 1000000 in
/-- One timer of the list. -/
theorem l12r (S : Nat) (tb : Nat → Nat) (n : Nat) (T : Nat → Nat) (nx pv : Nat → Option Nat) (ps occ : Nat → Nat) (wh : Wh) (A E : Nat) (got : List Nat) (l s j : Nat) (w0 : World) (arr : Array Value) (w : World) (K : Act → World → Prop) (Q : Exit → Act → World → Prop) (R : Ending → World → Prop) (v0 v1 v2 v3 v4 v5 v6 v7 v8 v9 v10 v13 v15 v16 v17 v18 v19 v20 v21 v22 v23 v26 v27 v31 v32 v35 v36 v37 v38 : Value)
    (hn : n ≤ 4096) (hl : l < 11) (hs0 : s < 64) (hx : Cx w0 S tb n T nx pv ps occ wh A E got) (hch : Chg w0 w (fun k => k = E)) (hj : j < (wh.L l s).length) (he : RowF w E 4 n (seenF ((got ++ visL wh.L (l * 64 + s)) ++ (wh.L l s).take j)))
    (hs : Fx arr v0 v1 v2 v3 v4 v5 v6 v7 v8 v9 v10 (.int .i64 n) (.slice (some ⟨A, 0, none⟩) n n) v13 (.pointer (some ⟨S, 0, none⟩)) v15 v16 v17 v18 v19 v20 v21 v22 v23 (.slice (some ⟨E, 0, none⟩) n n) (.int .i64 got.length) v26 v27 (.int .i64 ((visL wh.L (l * 64 + s)).length + j : Nat)) (.int .i64 l) (.int .i64 s) v31 v32 (.pointer (pa tb (pvO (wh.L l s) j))) (.pointer (pa tb (wh.L l s)[j]?)) v35 v36 v37 v38)
    (HQ : ∀ arr' w' u35 u36 u37, Fx arr' v0 v1 v2 v3 v4 v5 v6 v7 v8 v9 v10 (.int .i64 n) (.slice (some ⟨A, 0, none⟩) n n) v13 (.pointer (some ⟨S, 0, none⟩)) v15 v16 v17 v18 v19 v20 v21 v22 v23 (.slice (some ⟨E, 0, none⟩) n n) (.int .i64 got.length) v26 v27 (.int .i64 ((visL wh.L (l * 64 + s)).length + (j + 1) : Nat)) (.int .i64 l) (.int .i64 s) v31 v32 (.pointer (pa tb (pvO (wh.L l s) (j + 1)))) (.pointer (pa tb (wh.L l s)[j + 1]?)) (u35) (u36) (u37) v38 → RowF w' E 4 n (seenF ((got ++ visL wh.L (l * 64 + s)) ++ (wh.L l s).take (j + 1))) → Chg w0 w' (fun k => k = E) → K ⟨arr', []⟩ w') :
    Code.wp Ybad.prog (nav [1, 1, 1, 1, 1, 1, 1, 1, 1, 1, 1, 1, 1, 1, 1, 1, 1, 1, 1, 1, 1, 0, 1, 2, 2, 1, 0, 2, 1, 2, 2, 1, 0, 2, 1, 1, 1, 1, 1, 2, 2] (Ybad.f4.body.getD .skip)) (Exit.then K (Qp Q R)) ⟨arr, []⟩ w := by
  obtain ⟨i, hXj⟩ : ∃ i, (wh.L l s)[j]? = some i := ⟨_, List.getElem?_eq_getElem hj⟩
  obtain ⟨hni, hlen⟩ := hx.at hs0 hXj
  have hmem := List.mem_of_getElem? hXj
  obtain ⟨⟨hi, hg⟩, hlev, hslot⟩ := hx.inv.only l s i hmem
  have hge := hx.inv.ge i ⟨hi, hg⟩
  have hT := hx.inv.lt i ⟨hi, hg⟩
  have nE : ¬ (fun k => k = E) (tb i) := hx.et i hi
  have rt := (hx.m.t i hi).chg hch nE
  have c5 := (rt.cell (i := 5) (by omega)).trans (congrArg some (tm5 ..))
  have c6 := (rt.cell (i := 6) (by omega)).trans (congrArg some (tm6 ..))
  have c7 := (rt.cell (i := 7) (by omega)).trans (congrArg some (tm7 ..))
  have c8 := (rt.cell (i := 8) (by omega)).trans (congrArg some (tm8 ..))
  have c9 := (rt.cell (i := 9) (by omega)).trans (congrArg some (tm9 ..))
  rw [hx.k.nxt l s j i hXj] at c7
  have e8 : pv i = pvO (wh.L l s) j := hx.k.prv l s j i hXj
  rw [e8] at c8
  rw [hx.k.pos l s i hmem] at c9
  have rs := hx.m.s.chg hch hx.eS
  have cS := (rs.cell (i := 0) (by omega)).trans (congrArg some (slF_cur ..))
  have ra := hx.a.chg hch hx.eA
  have cA := (ra.cell hi).trans (congrArg some (ts_at tb n i hi))
  have cE := (he.cell hi).trans (congrArg some (show seenF _ i = .bool false by unfold seenF; rw [decide_eq_false hni]))
  have HL : Hid (∀ w, Calls Ybad.prog 13 #[.int .i64 (T i), .int .i64 wh.cur] w fun e w' => e = .returned (.int .i64 l) ∧ w' = w) := fun w => by rw [← hlev]; exact level_any (T i) wh.cur hT (by omega) w
  have e1 : pa tb (some i) = some ⟨tb i, 0, none⟩ := rfl
  rw [hXj, e1] at hs
  rw [cO]
  refine seq_Qp (t12 (tb i) arr w _ _ _ _ _ _ _ _ _ _ _ _ _ _ _ _ _ _ _ _ _ _ _ _ _ _ _ _ _ _ _ _ _ _ _ _ _ _ _ _ _ hs (fun arr1 f1 => ?_))
  refine seq_Qp (block_Qp (fun Q' => ?_))
  rw [cY]
  refine seq_Qp (x70 n _ got.length arr1 w _ _ _ _ _ _ _ _ _ _ _ _ _ _ _ _ _ _ _ _ _ _ _ _ _ _ _ _ _ _ _ _ _ _ _ _ _ _ _ hn (by omega) f1 (fun arr2 f2 => ?_))
  refine seq_Qp (x72 (tb i) i arr2 w _ _ _ _ _ _ _ _ _ _ _ _ _ _ _ _ _ _ _ _ _ _ _ _ _ _ _ _ _ _ _ _ _ _ _ _ _ _ _ _ _ c6 f2 (fun arr3 f3 => ?_))
  refine seq_Qp (x73 n A E (tb i) i _ arr3 w _ _ _ _ _ _ _ _ _ _ _ _ _ _ _ _ _ _ _ _ _ _ _ _ _ _ _ _ _ _ _ _ _ _ _ _ hn hi cA cE c8 f3 (fun arr4 f4 => ?_))
  refine seq_Qp (x75 S (tb i) (T i) wh.cur arr4 w _ _ _ _ _ _ _ _ _ _ _ _ _ _ _ _ _ _ _ _ _ _ _ _ _ _ _ _ _ _ _ _ _ _ _ _ _ _ _ _ hge c5 cS f4 (fun arr5 w5 f5 g5 => ?_))
  obtain ⟨q1, rfl⟩ := g5
  refine seq_Qp (x77 S (tb i) (T i) wh.cur l arr5 _ _ _ _ _ _ _ _ _ _ _ _ _ _ _ _ _ _ _ _ _ _ _ _ _ _ _ _ _ _ _ _ _ _ _ _ _ _ _ _ _ HL c5 cS f5 (fun arr6 w6 f6 g6 => ?_))
  obtain ⟨q2, rfl⟩ := g6
  refine seq_Qp (x78 (tb i) (T i) l s arr6 _ _ _ _ _ _ _ _ _ _ _ _ _ _ _ _ _ _ _ _ _ _ _ _ _ _ _ _ _ _ _ _ _ _ _ _ _ _ _ _ _ hl hT hslot c5 f6 (fun arr7 f7 => ?_))
  refine seq_Qp (x79 (tb i) l s arr7 _ _ _ _ _ _ _ _ _ _ _ _ _ _ _ _ _ _ _ _ _ _ _ _ _ _ _ _ _ _ _ _ _ _ _ _ _ _ hl hs0 c9 f7 (fun arr8 f8 => ?_))
  refine x81 n E (tb i) i _ arr8 _ _ _ _ _ _ _ _ _ _ _ _ _ _ _ _ _ _ _ _ _ _ _ _ _ _ _ _ _ _ _ _ _ _ _ _ _ _ _ hn hi (by omega) _ cE (((he.drewN q1).drewN q2).free i) f8 (fun arr9 f9 => ?_)
  have e33 : pa tb (pvO (wh.L l s) (j + 1)) = some ⟨tb i, 0, none⟩ := by
    unfold pvO; rw [if_neg (by omega), Nat.add_sub_cancel, hXj]; rfl
  have r9 : RowF (((w.drewN q1).drewN q2).setCell ⟨E, i, none⟩ (.bool true)) E 4 n (seenF ((got ++ visL wh.L (l * 64 + s)) ++ (wh.L l s).take (j + 1))) := by
    have := ((he.drewN q1).drewN q2).set i (.bool true)
    rw [seenF_upd, List.append_assoc] at this
    rw [List.take_add_one, hXj]
    exact this
  have ch9 : Chg w (((w.drewN q1).drewN q2).setCell ⟨E, i, none⟩ (.bool true)) (fun k => k = E) := ((((Chg.refl w (fun k => k = E)).drewN q1).drewN q2).setCell (.inl rfl) _)
  have c7' := (((rt.chg ch9 nE).cell (i := 7) (by omega)).trans (congrArg some (tm7 ..)))
  rw [hx.k.nxt l s j i hXj] at c7'
  refine x69 (tb i) _ arr9 _ _ _ _ _ _ _ _ _ _ _ _ _ _ _ _ _ _ _ _ _ _ _ _ _ _ _ _ _ _ _ _ _ _ _ _ _ _ _ _ _ _ c7' f9 (fun arrA fA => ?_)
  rw [e33] at HQ
  exact HQ _ _ _ _ _ fA r9 (hch.trans ch9)

set_option maxHeartbeats 1000000 in
/-- The list (l, s). -/
theorem l12 (S : Nat) (tb : Nat → Nat) (n : Nat) (T : Nat → Nat) (nx pv : Nat → Option Nat) (ps occ : Nat → Nat) (wh : Wh) (A E : Nat) (got : List Nat) (l s : Nat) (w0 : World) (arr : Array Value) (w : World) (K : Act → World → Prop) (Q : Exit → Act → World → Prop) (R : Ending → World → Prop) (v0 v1 v2 v3 v4 v5 v6 v7 v8 v9 v10 v13 v15 v16 v17 v18 v19 v20 v21 v22 v23 v26 v27 v31 v32 v35 v36 v37 v38 : Value)
    (hn : n ≤ 4096) (hl : l < 11) (hs0 : s < 64) (hx : Cx w0 S tb n T nx pv ps occ wh A E got) (hch : Chg w0 w (fun k => k = E)) (he : RowF w E 4 n (seenF (got ++ visL wh.L (l * 64 + s))))
    (hs : Fx arr v0 v1 v2 v3 v4 v5 v6 v7 v8 v9 v10 (.int .i64 n) (.slice (some ⟨A, 0, none⟩) n n) v13 (.pointer (some ⟨S, 0, none⟩)) v15 v16 v17 v18 v19 v20 v21 v22 v23 (.slice (some ⟨E, 0, none⟩) n n) (.int .i64 got.length) v26 v27 (.int .i64 ((visL wh.L (l * 64 + s)).length : Nat)) (.int .i64 l) (.int .i64 s) v31 v32 (.pointer none) (.pointer (pa tb (wh.L l s)[0]?)) v35 v36 v37 v38)
    (HQ : ∀ arr' w' u33 u34 u35 u36 u37, Fx arr' v0 v1 v2 v3 v4 v5 v6 v7 v8 v9 v10 (.int .i64 n) (.slice (some ⟨A, 0, none⟩) n n) v13 (.pointer (some ⟨S, 0, none⟩)) v15 v16 v17 v18 v19 v20 v21 v22 v23 (.slice (some ⟨E, 0, none⟩) n n) (.int .i64 got.length) v26 v27 (.int .i64 ((visL wh.L (l * 64 + (s + 1))).length : Nat)) (.int .i64 l) (.int .i64 s) v31 v32 (u33) (u34) (u35) (u36) (u37) v38 → RowF w' E 4 n (seenF (got ++ visL wh.L (l * 64 + (s + 1)))) → Chg w0 w' (fun k => k = E) → K ⟨arr', []⟩ w') :
    Code.wp Ybad.prog (nav [1, 1, 1, 1, 1, 1, 1, 1, 1, 1, 1, 1, 1, 1, 1, 1, 1, 1, 1, 1, 1, 0, 1, 2, 2, 1, 0, 2, 1, 2, 2, 1, 0, 2, 1, 1, 1, 1, 1] (Ybad.f4.body.getD .skip)) (Exit.then K (Qp Q R)) ⟨arr, []⟩ w := by
  rw [c12]
  refine loop_up (wh.L l s).length (fun j arr' w' => ∃ u35 u36 u37, Fx arr' v0 v1 v2 v3 v4 v5 v6 v7 v8 v9 v10 (.int .i64 n) (.slice (some ⟨A, 0, none⟩) n n) v13 (.pointer (some ⟨S, 0, none⟩)) v15 v16 v17 v18 v19 v20 v21 v22 v23 (.slice (some ⟨E, 0, none⟩) n n) (.int .i64 got.length) v26 v27 (.int .i64 ((visL wh.L (l * 64 + s)).length + j : Nat)) (.int .i64 l) (.int .i64 s) v31 v32 (.pointer (pa tb (pvO (wh.L l s) j))) (.pointer (pa tb (wh.L l s)[j]?)) (u35) (u36) (u37) v38 ∧ RowF w' E 4 n (seenF ((got ++ visL wh.L (l * 64 + s)) ++ (wh.L l s).take j)) ∧ Chg w0 w' (fun k => k = E)) (fun arr' w' => ∃ u33 u34 u35 u36 u37, Fx arr' v0 v1 v2 v3 v4 v5 v6 v7 v8 v9 v10 (.int .i64 n) (.slice (some ⟨A, 0, none⟩) n n) v13 (.pointer (some ⟨S, 0, none⟩)) v15 v16 v17 v18 v19 v20 v21 v22 v23 (.slice (some ⟨E, 0, none⟩) n n) (.int .i64 got.length) v26 v27 (.int .i64 ((visL wh.L (l * 64 + (s + 1))).length : Nat)) (.int .i64 l) (.int .i64 s) v31 v32 (u33) (u34) (u35) (u36) (u37) v38 ∧ RowF w' E 4 n (seenF (got ++ visL wh.L (l * 64 + (s + 1)))) ∧ Chg w0 w' (fun k => k = E)) ⟨_, _, _, hs, by simpa using he, hch⟩ ?_ ?_ ?_
  · rintro j arr1 w1 K1 Q1 hj ⟨u35, u36, u37, f1, r1, h1⟩ hK
    exact l12r S tb n T nx pv ps occ wh A E got l s j w0 arr1 w1 _ _ _ _ _ _ _ _ _ _ _ _ _ _ _ _ _ _ _ _ _ _ _ _ _ _ _ _ _ _ _ _ hn hl hs0 hx h1 hj r1 f1 (fun arr2 w2 x35 x36 x37 f2 r2 h2 => hK _ _ ⟨_, _, _, f2, r2, h2⟩)
  · rintro arr1 w1 K1 Q1 ⟨u35, u36, u37, f1, r1, h1⟩ hX
    have e : (wh.L l s)[(wh.L l s).length]? = none := by simp
    rw [e] at f1
    have e2 : (visL wh.L (l * 64 + s)).length + (wh.L l s).length = (visL wh.L (l * 64 + (s + 1))).length := by rw [visL_at _ _ _ hs0, List.length_append]
    rw [List.take_length, List.append_assoc, ← visL_at _ _ _ hs0] at r1
    rw [e2] at f1
    exact r12x  arr1 w1 _ _ _ _ _ _ _ _ _ _ _ _ _ _ _ _ _ _ _ _ _ _ _ _ _ _ _ _ _ _ _ _ _ _ _ _ _ _ _ _ _ f1 (fun arr2 f2 => hX _ _ ⟨_, _, _, _, _, f2, r1, h1⟩)
  · rintro arr1 w1 ⟨u33, u34, u35, u36, u37, f1, r1, h1⟩
    exact HQ _ _ _ _ _ _ _ f1 r1 h1

set_option maxHeartbeats 1000000 in
/-- The slots of a level. -/
theorem l10 (S : Nat) (tb : Nat → Nat) (n : Nat) (T : Nat → Nat) (nx pv : Nat → Option Nat) (ps occ : Nat → Nat) (wh : Wh) (A E : Nat) (got : List Nat) (l : Nat) (w0 : World) (arr : Array Value) (w : World) (K : Act → World → Prop) (Q : Exit → Act → World → Prop) (R : Ending → World → Prop) (v0 v1 v2 v3 v4 v5 v6 v7 v8 v9 v10 v13 v15 v16 v17 v18 v19 v20 v21 v22 v23 v26 v27 v31 v32 v33 v34 v35 v36 v37 v38 : Value)
    (hn : n ≤ 4096) (hl : l < 11) (hx : Cx w0 S tb n T nx pv ps occ wh A E got) (hch : Chg w0 w (fun k => k = E)) (he : RowF w E 4 n (seenF (got ++ visL wh.L (l * 64 + 0))))
    (hs : Fx arr v0 v1 v2 v3 v4 v5 v6 v7 v8 v9 v10 (.int .i64 n) (.slice (some ⟨A, 0, none⟩) n n) v13 (.pointer (some ⟨S, 0, none⟩)) v15 v16 v17 v18 v19 v20 v21 v22 v23 (.slice (some ⟨E, 0, none⟩) n n) (.int .i64 got.length) v26 v27 (.int .i64 ((visL wh.L (l * 64 + 0)).length : Nat)) (.int .i64 l) (.int .i64 ((0 : Nat) : Int)) v31 v32 v33 v34 v35 v36 v37 v38)
    (HQ : ∀ arr' w' u31 u32 u33 u34 u35 u36 u37, Fx arr' v0 v1 v2 v3 v4 v5 v6 v7 v8 v9 v10 (.int .i64 n) (.slice (some ⟨A, 0, none⟩) n n) v13 (.pointer (some ⟨S, 0, none⟩)) v15 v16 v17 v18 v19 v20 v21 v22 v23 (.slice (some ⟨E, 0, none⟩) n n) (.int .i64 got.length) v26 v27 (.int .i64 ((visL wh.L (l * 64 + 64)).length : Nat)) (.int .i64 l) (.int .i64 ((64 : Nat) : Int)) (u31) (u32) (u33) (u34) (u35) (u36) (u37) v38 → RowF w' E 4 n (seenF (got ++ visL wh.L (l * 64 + 64))) → Chg w0 w' (fun k => k = E) → K ⟨arr', []⟩ w') :
    Code.wp Ybad.prog (nav [1, 1, 1, 1, 1, 1, 1, 1, 1, 1, 1, 1, 1, 1, 1, 1, 1, 1, 1, 1, 1, 0, 1, 2, 2, 1, 0, 2, 1] (Ybad.f4.body.getD .skip)) (Exit.then K (Qp Q R)) ⟨arr, []⟩ w := by
  rw [c10]
  refine loop_up 64 (fun s arr' w' => ∃ u31 u32 u33 u34 u35 u36 u37, Fx arr' v0 v1 v2 v3 v4 v5 v6 v7 v8 v9 v10 (.int .i64 n) (.slice (some ⟨A, 0, none⟩) n n) v13 (.pointer (some ⟨S, 0, none⟩)) v15 v16 v17 v18 v19 v20 v21 v22 v23 (.slice (some ⟨E, 0, none⟩) n n) (.int .i64 got.length) v26 v27 (.int .i64 ((visL wh.L (l * 64 + s)).length : Nat)) (.int .i64 l) (.int .i64 s) (u31) (u32) (u33) (u34) (u35) (u36) (u37) v38 ∧ RowF w' E 4 n (seenF (got ++ visL wh.L (l * 64 + s))) ∧ Chg w0 w' (fun k => k = E)) (fun arr' w' => ∃ u31 u32 u33 u34 u35 u36 u37, Fx arr' v0 v1 v2 v3 v4 v5 v6 v7 v8 v9 v10 (.int .i64 n) (.slice (some ⟨A, 0, none⟩) n n) v13 (.pointer (some ⟨S, 0, none⟩)) v15 v16 v17 v18 v19 v20 v21 v22 v23 (.slice (some ⟨E, 0, none⟩) n n) (.int .i64 got.length) v26 v27 (.int .i64 ((visL wh.L (l * 64 + 64)).length : Nat)) (.int .i64 l) (.int .i64 ((64 : Nat) : Int)) (u31) (u32) (u33) (u34) (u35) (u36) (u37) v38 ∧ RowF w' E 4 n (seenF (got ++ visL wh.L (l * 64 + 64))) ∧ Chg w0 w' (fun k => k = E)) ⟨_, _, _, _, _, _, _, hs, he, hch⟩ ?_ ?_ ?_
  · rintro s arr1 w1 K1 Q1 hs0 ⟨u31, u32, u33, u34, u35, u36, u37, f1, r1, h1⟩ hK
    have rs := hx.m.s.chg h1 hx.eS
    have ch := (rs.cell (i := 12 + l * 64 + s) (by omega)).trans (congrArg some (slF_hd tb wh.cur occ wh.L l s hs0))
    rw [ptr_eq, List.head?_eq_getElem?] at ch
    have co := (rs.cell (i := 1 + l) (by omega)).trans (congrArg some (slF_occ tb wh.cur occ wh.L l hl))
    have hbit : (occ l).testBit s = !(pa tb (wh.L l s)[0]?).isNone := by
      rw [hx.k.bit l s hl hs0]
      cases wh.L l s <;> rfl
    rw [cN]
    refine seq_Qp (t10 s arr1 w1 _ _ _ _ _ _ _ _ _ _ _ _ _ _ _ _ _ _ _ _ _ _ _ _ _ _ _ _ _ _ _ _ _ _ _ _ _ _ _ _ _ hs0 f1 (fun arr2 f2 => ?_))
    refine seq_Qp (block_Qp (fun Q' => ?_))
    rw [cB11]
    refine seq_Qp (r62 S l s _ arr2 w1 _ _ _ _ _ _ _ _ _ _ _ _ _ _ _ _ _ _ _ _ _ _ _ _ _ _ _ _ _ _ _ _ _ _ _ _ _ _ _ hl hs0 ch f2 (fun arr3 f3 => ?_))
    refine seq_Qp (r63 S l s (occ l) _ arr3 w1 _ _ _ _ _ _ _ _ _ _ _ _ _ _ _ _ _ _ _ _ _ _ _ _ _ _ _ _ _ _ _ _ _ _ _ _ _ _ _ hl hs0 (hx.k.bnd l) hbit co f3 (fun arr4 f4 => ?_))
    refine seq_Qp (r64 _ arr4 w1 _ _ _ _ _ _ _ _ _ _ _ _ _ _ _ _ _ _ _ _ _ _ _ _ _ _ _ _ _ _ _ _ _ _ _ _ _ _ _ _ f4 (fun arr5 f5 => ?_))
    refine seq_Qp (r66  arr5 w1 _ _ _ _ _ _ _ _ _ _ _ _ _ _ _ _ _ _ _ _ _ _ _ _ _ _ _ _ _ _ _ _ _ _ _ _ _ _ _ _ _ _ f5 (fun arr6 f6 => ?_))
    refine seq_Qp (r67 _ arr6 w1 _ _ _ _ _ _ _ _ _ _ _ _ _ _ _ _ _ _ _ _ _ _ _ _ _ _ _ _ _ _ _ _ _ _ _ _ _ _ _ _ _ f6 (fun arr7 f7 => ?_))
    refine l12 S tb n T nx pv ps occ wh A E got l s w0 arr7 w1 _ _ _ _ _ _ _ _ _ _ _ _ _ _ _ _ _ _ _ _ _ _ _ _ _ _ _ _ _ _ _ _ hn hl hs0 hx h1 r1 f7 (fun arr8 w8 x33 x34 x35 x36 x37 f8 r8 h8 => ?_)
    exact r61 s arr8 w8 _ _ _ _ _ _ _ _ _ _ _ _ _ _ _ _ _ _ _ _ _ _ _ _ _ _ _ _ _ _ _ _ _ _ _ _ _ _ _ _ _ hs0 f8 (fun arr9 f9 => hK _ _ ⟨_, _, _, _, _, _, _, f9, r8, h8⟩)
  · rintro arr1 w1 K1 Q1 ⟨u31, u32, u33, u34, u35, u36, u37, f1, r1, h1⟩ hX
    rw [cN]
    refine seq_Qp (t10x  arr1 w1 _ _ _ _ _ _ _ _ _ _ _ _ _ _ _ _ _ _ _ _ _ _ _ _ _ _ _ _ _ _ _ _ _ _ _ _ _ _ _ _ _ f1 (fun arr2 f2 => hX _ _ ⟨_, _, _, _, _, _, _, f2, r1, h1⟩))
  · rintro arr1 w1 ⟨u31, u32, u33, u34, u35, u36, u37, f1, r1, h1⟩
    exact HQ _ _ _ _ _ _ _ _ _ f1 r1 h1

set_option maxHeartbeats 1000000 in
/-- The levels. -/
theorem l21 (S : Nat) (tb : Nat → Nat) (n : Nat) (T : Nat → Nat) (nx pv : Nat → Option Nat) (ps occ : Nat → Nat) (wh : Wh) (A E : Nat) (got : List Nat) (w0 : World) (arr : Array Value) (w : World) (K : Act → World → Prop) (Q : Exit → Act → World → Prop) (R : Ending → World → Prop) (v0 v1 v2 v3 v4 v5 v6 v7 v8 v9 v10 v13 v15 v16 v17 v18 v19 v20 v21 v22 v23 v26 v27 v30 v31 v32 v33 v34 v35 v36 v37 v38 : Value)
    (hn : n ≤ 4096) (hx : Cx w0 S tb n T nx pv ps occ wh A E got) (hch : Chg w0 w (fun k => k = E)) (he : RowF w E 4 n (seenF got))
    (hs : Fx arr v0 v1 v2 v3 v4 v5 v6 v7 v8 v9 v10 (.int .i64 n) (.slice (some ⟨A, 0, none⟩) n n) v13 (.pointer (some ⟨S, 0, none⟩)) v15 v16 v17 v18 v19 v20 v21 v22 v23 (.slice (some ⟨E, 0, none⟩) n n) (.int .i64 got.length) v26 v27 (.int .i64 ((0 : Nat) : Int)) (.int .i64 ((0 : Nat) : Int)) v30 v31 v32 v33 v34 v35 v36 v37 v38)
    (HQ : ∀ arr' w' u30 u31 u32 u33 u34 u35 u36 u37, Fx arr' v0 v1 v2 v3 v4 v5 v6 v7 v8 v9 v10 (.int .i64 n) (.slice (some ⟨A, 0, none⟩) n n) v13 (.pointer (some ⟨S, 0, none⟩)) v15 v16 v17 v18 v19 v20 v21 v22 v23 (.slice (some ⟨E, 0, none⟩) n n) (.int .i64 got.length) v26 v27 (.int .i64 ((visL wh.L 704).length : Nat)) (.int .i64 ((11 : Nat) : Int)) (u30) (u31) (u32) (u33) (u34) (u35) (u36) (u37) v38 → Chg w0 w' (fun k => k = E) → K ⟨arr', []⟩ w') :
    Code.wp Ybad.prog (nav [1, 1, 1, 1, 1, 1, 1, 1, 1, 1, 1, 1, 1, 1, 1, 1, 1, 1, 1, 1, 1, 0, 1] (Ybad.f4.body.getD .skip)) (Exit.then K (Qp Q R)) ⟨arr, []⟩ w := by
  rw [c8b]
  refine loop_up 11 (fun l arr' w' => ∃ u30 u31 u32 u33 u34 u35 u36 u37, Fx arr' v0 v1 v2 v3 v4 v5 v6 v7 v8 v9 v10 (.int .i64 n) (.slice (some ⟨A, 0, none⟩) n n) v13 (.pointer (some ⟨S, 0, none⟩)) v15 v16 v17 v18 v19 v20 v21 v22 v23 (.slice (some ⟨E, 0, none⟩) n n) (.int .i64 got.length) v26 v27 (.int .i64 ((visL wh.L (l * 64)).length : Nat)) (.int .i64 l) (u30) (u31) (u32) (u33) (u34) (u35) (u36) (u37) v38 ∧ RowF w' E 4 n (seenF (got ++ visL wh.L (l * 64))) ∧ Chg w0 w' (fun k => k = E)) (fun arr' w' => ∃ u30 u31 u32 u33 u34 u35 u36 u37, Fx arr' v0 v1 v2 v3 v4 v5 v6 v7 v8 v9 v10 (.int .i64 n) (.slice (some ⟨A, 0, none⟩) n n) v13 (.pointer (some ⟨S, 0, none⟩)) v15 v16 v17 v18 v19 v20 v21 v22 v23 (.slice (some ⟨E, 0, none⟩) n n) (.int .i64 got.length) v26 v27 (.int .i64 ((visL wh.L 704).length : Nat)) (.int .i64 ((11 : Nat) : Int)) (u30) (u31) (u32) (u33) (u34) (u35) (u36) (u37) v38 ∧ Chg w0 w' (fun k => k = E)) ⟨_, _, _, _, _, _, _, _, hs, by simpa [visL] using he, hch⟩ ?_ ?_ ?_
  · rintro l arr1 w1 K1 Q1 hl ⟨u30, u31, u32, u33, u34, u35, u36, u37, f1, r1, h1⟩ hK
    rw [cM]
    refine seq_Qp (t8 l arr1 w1 _ _ _ _ _ _ _ _ _ _ _ _ _ _ _ _ _ _ _ _ _ _ _ _ _ _ _ _ _ _ _ _ _ _ _ _ _ _ _ _ _ hl f1 (fun arr2 f2 => ?_))
    refine seq_Qp (block_Qp (fun Q' => ?_))
    refine seq_Qp (r59  arr2 w1 _ _ _ _ _ _ _ _ _ _ _ _ _ _ _ _ _ _ _ _ _ _ _ _ _ _ _ _ _ _ _ _ _ _ _ _ _ _ _ _ _ _ f2 (fun arr3 f3 => ?_))
    refine l10 S tb n T nx pv ps occ wh A E got l w0 arr3 w1 _ _ _ _ _ _ _ _ _ _ _ _ _ _ _ _ _ _ _ _ _ _ _ _ _ _ _ _ _ _ _ _ _ _ hn hl hx h1 r1 f3 (fun arr4 w4 x31 x32 x33 x34 x35 x36 x37 f4 r4 h4 => ?_)
    rw [show l * 64 + 64 = (l + 1) * 64 by omega] at f4 r4
    exact r58 l arr4 w4 _ _ _ _ _ _ _ _ _ _ _ _ _ _ _ _ _ _ _ _ _ _ _ _ _ _ _ _ _ _ _ _ _ _ _ _ _ _ _ _ _ hl f4 (fun arr5 f5 => hK _ _ ⟨_, _, _, _, _, _, _, _, f5, r4, h4⟩)
  · rintro arr1 w1 K1 Q1 ⟨u30, u31, u32, u33, u34, u35, u36, u37, f1, r1, h1⟩ hX
    rw [cM]
    refine seq_Qp (t8x  arr1 w1 _ _ _ _ _ _ _ _ _ _ _ _ _ _ _ _ _ _ _ _ _ _ _ _ _ _ _ _ _ _ _ _ _ _ _ _ _ _ _ _ _ f1 (fun arr2 f2 => hX _ _ ⟨_, _, _, _, _, _, _, _, f2, h1⟩))
  · rintro arr1 w1 ⟨u30, u31, u32, u33, u34, u35, u36, u37, f1, h1⟩
    exact HQ _ _ _ _ _ _ _ _ _ _ f1 h1

end Go.Proofs.YbulkdgzaDoor
