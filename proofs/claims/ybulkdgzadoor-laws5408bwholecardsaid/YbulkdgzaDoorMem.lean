/-
  The memory of LawS5408BWhole: the hierarchy's block, the timers' blocks.
-/
import Derived.Test.YbulkdgzaDoorHeap
import Derived.Test.YbulkdgzaDoorBits
namespace Go.Proofs.YbulkdgzaDoor
open Go.RowKit B
set_option linter.unusedVariables false
set_option linter.unusedSimpArgs false

/-- A pointer to timer i, or nil. -/
def ptr (tb : Nat → Nat) : Option Nat → Value
  | none => .pointer none
  | some i => .pointer (some ⟨tb i, 0, none⟩)
/-- The twelve cells of a timer. -/
def tmF (tb : Nat → Nat) (T i : Nat) (z : Nat → Value) (nx pv : Option Nat) (ps : Nat) : Nat → Value :=
  fun k => if k = 5 then .int .i64 T else if k = 6 then .int .u64 i else if k = 7 then ptr tb nx else if k = 8 then ptr tb pv else if k = 9 then .int .i32 ps else z k
/-- The cells of the hierarchy. -/
def slF (tb : Nat → Nat) (cur : Nat) (occ : Nat → Nat) (L : Nat → Nat → List Nat) : Nat → Value :=
  fun k => if k = 0 then .int .i64 cur else if k < 12 then .int .u64 (occ (k - 1)) else ptr tb (L ((k - 12) / 64) ((k - 12) % 64)).head?

def updN {α : Type} (f : Nat → α) (i : Nat) (v : α) : Nat → α := fun j => if j = i then v else f j
theorem updN_same {α : Type} (f : Nat → α) (i : Nat) (v : α) : updN f i v i = v := by simp [updN]
theorem updN_ne {α : Type} (f : Nat → α) (i : Nat) (v : α) (j : Nat) (h : j ≠ i) : updN f i v j = f j := by simp [updN, h]

theorem slF_cur (tb : Nat → Nat) (cur : Nat) (occ : Nat → Nat) (L : Nat → Nat → List Nat) : slF tb cur occ L 0 = .int .i64 cur := by simp [slF]
theorem slF_occ (tb : Nat → Nat) (cur : Nat) (occ : Nat → Nat) (L : Nat → Nat → List Nat) (l : Nat) (h : l < 11) : slF tb cur occ L (1 + l) = .int .u64 (occ l) := by
  unfold slF; rw [if_neg (by omega), if_pos (by omega), show 1 + l - 1 = l by omega]
theorem slF_hd (tb : Nat → Nat) (cur : Nat) (occ : Nat → Nat) (L : Nat → Nat → List Nat) (l s : Nat) (hs : s < 64) : slF tb cur occ L (12 + l * 64 + s) = ptr tb (L l s).head? := by
  unfold slF; rw [if_neg (by omega), if_neg (by omega), show (12 + l * 64 + s - 12) / 64 = l by omega, show (12 + l * 64 + s - 12) % 64 = s by omega]

theorem upd_cur (tb : Nat → Nat) (cur c : Nat) (occ : Nat → Nat) (L : Nat → Nat → List Nat) : upd (slF tb cur occ L) 0 (.int .i64 c) = slF tb c occ L := by
  funext k; unfold upd slF; split <;> rfl
theorem upd_occ (tb : Nat → Nat) (cur : Nat) (occ : Nat → Nat) (L : Nat → Nat → List Nat) (l v : Nat) (hl : l < 11) : upd (slF tb cur occ L) (1 + l) (.int .u64 v) = slF tb cur (updN occ l v) L := by
  funext k; unfold upd slF updN
  by_cases h : k = 1 + l
  · subst h; rw [if_pos rfl, if_neg (by omega), if_pos (by omega), if_pos (by omega)]
  · rw [if_neg h]
    by_cases h0 : k = 0
    · rw [if_pos h0, if_pos h0]
    · rw [if_neg h0, if_neg h0]
      by_cases h1 : k < 12
      · rw [if_pos h1, if_pos h1, if_neg (by omega)]
      · rw [if_neg h1, if_neg h1]
theorem upd_hd (tb : Nat → Nat) (cur : Nat) (occ : Nat → Nat) (L : Nat → Nat → List Nat) (l s : Nat) (hs : s < 64) (X : List Nat) : upd (slF tb cur occ L) (12 + l * 64 + s) (ptr tb X.head?) = slF tb cur occ (updL L l s X) := by
  funext k; unfold upd slF updL
  by_cases h : k = 12 + l * 64 + s
  · subst h; rw [if_pos rfl, if_neg (by omega), if_neg (by omega), if_pos (by omega)]
  · rw [if_neg h]
    by_cases h0 : k = 0
    · rw [if_pos h0, if_pos h0]
    · rw [if_neg h0, if_neg h0]
      by_cases h1 : k < 12
      · rw [if_pos h1, if_pos h1]
      · rw [if_neg h1, if_neg h1, if_neg (by omega)]

theorem upd_nx (tb : Nat → Nat) (T i : Nat) (z : Nat → Value) (nx pv v : Option Nat) (ps : Nat) : upd (tmF tb T i z nx pv ps) 7 (ptr tb v) = tmF tb T i z v pv ps := by
  funext k; unfold upd tmF
  by_cases h : k = 7
  · subst h; simp
  · rw [if_neg h]; simp [h]
theorem upd_pv (tb : Nat → Nat) (T i : Nat) (z : Nat → Value) (nx pv v : Option Nat) (ps : Nat) : upd (tmF tb T i z nx pv ps) 8 (ptr tb v) = tmF tb T i z nx v ps := by
  funext k; unfold upd tmF
  by_cases h : k = 8
  · subst h; simp
  · rw [if_neg h]; simp [h]
theorem upd_ps (tb : Nat → Nat) (T i : Nat) (z : Nat → Value) (nx pv : Option Nat) (ps v : Nat) : upd (tmF tb T i z nx pv ps) 9 (.int .i32 v) = tmF tb T i z nx pv v := by
  funext k; unfold upd tmF
  by_cases h : k = 9
  · subst h; simp
  · rw [if_neg h]; simp [h]

/-- The hierarchy and n timers in memory. -/
structure Mem (w : World) (S : Nat) (tb : Nat → Nat) (n : Nat) (T : Nat → Nat) (z : Nat → Value) (nx pv : Nat → Option Nat) (ps occ : Nat → Nat) (cur : Nat) (L : Nat → Nat → List Nat) : Prop where
  s : RowF w S 49 716 (slF tb cur occ L)
  t : ∀ i, i < n → RowF w (tb i) 75 12 (tmF tb (T i) i z (nx i) (pv i) (ps i))
  ne : ∀ i, i < n → ¬ tb i = S
  inj : ∀ i j, i < n → j < n → ¬ i = j → ¬ tb i = tb j

/-- The lists are linked both ways; each knows its place; the bits say which are not empty. -/
structure Lk (n : Nat) (nx pv : Nat → Option Nat) (ps occ : Nat → Nat) (L : Nat → Nat → List Nat) : Prop where
  nxt : ∀ l s k i, (L l s)[k]? = some i → nx i = (L l s)[k + 1]?
  prv : ∀ l s k i, (L l s)[k]? = some i → pv i = if k = 0 then none else (L l s)[k - 1]?
  pos : ∀ l s i, i ∈ L l s → ps i = l * 64 + s
  bit : ∀ l s, l < 11 → s < 64 → (occ l).testBit s = !(L l s).isEmpty
  bnd : ∀ l, occ l < 18446744073709551616
  lt : ∀ l s i, i ∈ L l s → i < n
  dj : ∀ l s l' s' i, i ∈ L l s → i ∈ L l' s' → l = l' ∧ s = s'
  nd : ∀ l s, (L l s).Nodup

/-- Timer i is laid first on list (l, s). -/
theorem Lk.push {n : Nat} {nx pv : Nat → Option Nat} {ps occ : Nat → Nat} {L : Nat → Nat → List Nat} (h : Lk n nx pv ps occ L) {l s i : Nat} (hl : l < 11) (hs : s < 64) (hi : i < n) (hni : ∀ l s, i ∉ L l s) :
    Lk n (updN nx i (L l s).head?) (match (L l s).head? with | none => updN pv i none | some y => updN (updN pv i none) y (some i)) (updN ps i (l * 64 + s)) (updN occ l (occ l ||| 2 ^ s)) (updL L l s (i :: L l s)) := by
  refine ⟨?_, ?_, ?_, ?_, ?_, ?_, ?_, ?_⟩
  · intro l' s' k j hk
    by_cases hc : l' = l ∧ s' = s
    · obtain ⟨rfl, rfl⟩ := hc
      rw [updL_same] at hk ⊢
      cases k with
      | zero =>
        simp at hk; subst hk
        rw [updN_same]; simp [List.head?_eq_getElem?]
      | succ k =>
        simp at hk
        have hj : j ≠ i := fun e => hni l' s' (by rw [← e]; exact List.mem_of_getElem? hk)
        rw [updN_ne _ _ _ _ hj]
        simpa using h.nxt l' s' k j hk
    · rw [updL_ne _ _ _ _ _ _ hc] at hk ⊢
      have hj : j ≠ i := fun e => hni l' s' (by rw [← e]; exact List.mem_of_getElem? hk)
      rw [updN_ne _ _ _ _ hj]
      exact h.nxt l' s' k j hk
  · intro l' s' k j hk
    have hpv : ∀ q, q ≠ i → (L l s).head? ≠ some q → (match (L l s).head? with | none => updN pv i none | some y => updN (updN pv i none) y (some i)) q = pv q := by
      intro q h1 h2
      cases hh : (L l s).head? with
      | none => simp only; rw [updN_ne _ _ _ _ h1]
      | some y =>
        simp only
        rw [updN_ne _ _ _ _ (fun e => h2 (by rw [hh, e])), updN_ne _ _ _ _ h1]
    by_cases hc : l' = l ∧ s' = s
    · obtain ⟨rfl, rfl⟩ := hc
      rw [updL_same] at hk ⊢
      cases k with
      | zero =>
        simp at hk; subst hk
        rw [if_pos rfl]
        cases hh : (L l' s').head? with
        | none => simp only; rw [updN_same]
        | some y =>
          simp only
          have hy : y ∈ L l' s' := List.mem_of_mem_head? (by rw [hh]; rfl)
          rw [updN_ne _ _ _ _ (fun e => hni l' s' (by rw [e]; exact hy)), updN_same]
      | succ k =>
        simp at hk
        have hjm := List.mem_of_getElem? hk
        have hj : j ≠ i := fun e => hni l' s' (by rw [← e]; exact hjm)
        rw [if_neg (by omega)]
        cases k with
        | zero =>
          have hh : (L l' s').head? = some j := by rw [List.head?_eq_getElem?]; exact hk
          rw [hh]; simp only; rw [updN_same]; simp
        | succ k =>
          rw [hpv j hj, h.prv l' s' (k + 1) j hk]
          · simp
          · intro hh
            rw [List.head?_eq_getElem?] at hh
            have := (List.getElem?_inj (by have := (List.getElem?_eq_some_iff.1 hk).1; omega) (h.nd l' s')).1 (hh.trans hk.symm)
            omega
    · rw [updL_ne _ _ _ _ _ _ hc] at hk ⊢
      have hjm := List.mem_of_getElem? hk
      have hj : j ≠ i := fun e => hni l' s' (by rw [← e]; exact hjm)
      rw [hpv j hj]
      · exact h.prv l' s' k j hk
      · intro hh
        exact hc (h.dj l' s' l s j hjm (List.mem_of_mem_head? (by rw [hh]; rfl)))
  · intro l' s' j hj
    by_cases hc : l' = l ∧ s' = s
    · obtain ⟨rfl, rfl⟩ := hc
      rw [updL_same] at hj
      rcases List.mem_cons.1 hj with e | e
      · subst e; exact updN_same _ _ _
      · rw [updN_ne _ _ _ _ (fun q => hni l' s' (by rw [← q]; exact e))]; exact h.pos l' s' j e
    · rw [updL_ne _ _ _ _ _ _ hc] at hj
      rw [updN_ne _ _ _ _ (fun q => hni l' s' (by rw [← q]; exact hj))]; exact h.pos l' s' j hj
  · intro l' s' hl' hs'
    by_cases hll : l' = l
    · subst hll
      rw [updN_same, Nat.testBit_or, Nat.testBit_two_pow]
      by_cases hss : s = s'
      · subst hss; rw [updL_same]; simp
      · rw [updL_ne _ _ _ _ _ _ (fun hc => hss hc.2.symm), h.bit l' s' hl' hs']; simp [hss]
    · rw [updN_ne _ _ _ _ hll, updL_ne _ _ _ _ _ _ (fun hc => hll hc.1), h.bit l' s' hl' hs']
  · intro l'
    by_cases hll : l' = l
    · subst hll
      rw [updN_same]
      have := h.bnd l'
      have h2 : 2 ^ s < 2 ^ 64 := Nat.pow_lt_pow_right (by omega) hs
      exact Nat.or_lt_two_pow (n := 64) (by omega) (by omega)
    · rw [updN_ne _ _ _ _ hll]; exact h.bnd l'
  · intro l' s' j hj
    by_cases hc : l' = l ∧ s' = s
    · obtain ⟨rfl, rfl⟩ := hc
      rw [updL_same] at hj
      rcases List.mem_cons.1 hj with e | e
      · subst e; exact hi
      · exact h.lt _ _ _ e
    · rw [updL_ne _ _ _ _ _ _ hc] at hj; exact h.lt _ _ _ hj
  · have key : ∀ l' s' j, j ∈ updL L l s (i :: L l s) l' s' → (j = i ∧ l' = l ∧ s' = s) ∨ (j ≠ i ∧ j ∈ L l' s') := by
      intro l' s' j hj
      by_cases hc : l' = l ∧ s' = s
      · obtain ⟨rfl, rfl⟩ := hc
        rw [updL_same] at hj
        rcases List.mem_cons.1 hj with e | e
        · exact .inl ⟨e, rfl, rfl⟩
        · exact .inr ⟨fun q => hni l' s' (by rw [← q]; exact e), e⟩
      · rw [updL_ne _ _ _ _ _ _ hc] at hj
        exact .inr ⟨fun q => hni l' s' (by rw [← q]; exact hj), hj⟩
    intro l1 s1 l2 s2 j h1 h2
    rcases key _ _ _ h1 with ⟨a, b, c⟩ | ⟨a, b⟩ <;> rcases key _ _ _ h2 with ⟨d, e, f⟩ | ⟨d, e⟩
    · exact ⟨b.trans e.symm, c.trans f.symm⟩
    · exact absurd a d
    · exact absurd d a
    · exact h.dj _ _ _ _ _ b e
  · intro l' s'
    by_cases hc : l' = l ∧ s' = s
    · obtain ⟨rfl, rfl⟩ := hc
      rw [updL_same]; exact List.nodup_cons.2 ⟨hni _ _, h.nd _ _⟩
    · rw [updL_ne _ _ _ _ _ _ hc]; exact h.nd _ _

section
variable {w : World} {S : Nat} {tb : Nat → Nat} {n : Nat} {T : Nat → Nat} {z : Nat → Value} {nx pv : Nat → Option Nat} {ps occ : Nat → Nat} {cur : Nat} {L : Nat → Nat → List Nat}

theorem Mem.setNx (h : Mem w S tb n T z nx pv ps occ cur L) (i : Nat) (hi : i < n) (v : Option Nat) : Mem (w.setCell ⟨tb i, 7, none⟩ (ptr tb v)) S tb n T z (updN nx i v) pv ps occ cur L := by
  refine ⟨h.s.other (h.ne i hi) _, fun j hj => ?_, h.ne, h.inj⟩
  by_cases e : j = i
  · subst e
    rw [updN_same, ← upd_nx tb (T j) j z (nx j) (pv j) v]
    exact (h.t j hj).set 7 _
  · rw [updN_ne _ _ _ _ e]
    exact (h.t j hj).other (h.inj i j hi hj (fun q => e q.symm)) _

theorem Mem.setPv (h : Mem w S tb n T z nx pv ps occ cur L) (i : Nat) (hi : i < n) (v : Option Nat) : Mem (w.setCell ⟨tb i, 8, none⟩ (ptr tb v)) S tb n T z nx (updN pv i v) ps occ cur L := by
  refine ⟨h.s.other (h.ne i hi) _, fun j hj => ?_, h.ne, h.inj⟩
  by_cases e : j = i
  · subst e
    rw [updN_same, ← upd_pv tb (T j) j z (nx j) (pv j) v]
    exact (h.t j hj).set 8 _
  · rw [updN_ne _ _ _ _ e]
    exact (h.t j hj).other (h.inj i j hi hj (fun q => e q.symm)) _

theorem Mem.setPs (h : Mem w S tb n T z nx pv ps occ cur L) (i : Nat) (hi : i < n) (v : Nat) : Mem (w.setCell ⟨tb i, 9, none⟩ (.int .i32 v)) S tb n T z nx pv (updN ps i v) occ cur L := by
  refine ⟨h.s.other (h.ne i hi) _, fun j hj => ?_, h.ne, h.inj⟩
  by_cases e : j = i
  · subst e
    rw [updN_same, ← upd_ps tb (T j) j z (nx j) (pv j) (ps j) v]
    exact (h.t j hj).set 9 _
  · rw [updN_ne _ _ _ _ e]
    exact (h.t j hj).other (h.inj i j hi hj (fun q => e q.symm)) _

theorem Mem.setHd (h : Mem w S tb n T z nx pv ps occ cur L) (l s : Nat) (hs : s < 64) (X : List Nat) : Mem (w.setCell ⟨S, 12 + l * 64 + s, none⟩ (ptr tb X.head?)) S tb n T z nx pv ps occ cur (updL L l s X) := by
  refine ⟨?_, fun j hj => (h.t j hj).other (fun e => h.ne j hj e.symm) _, h.ne, h.inj⟩
  rw [← upd_hd tb cur occ L l s hs X]
  exact h.s.set _ _
theorem Mem.setOcc (h : Mem w S tb n T z nx pv ps occ cur L) (l v : Nat) (hl : l < 11) : Mem (w.setCell ⟨S, 1 + l, none⟩ (.int .u64 v)) S tb n T z nx pv ps (updN occ l v) cur L := by
  refine ⟨?_, fun j hj => (h.t j hj).other (fun e => h.ne j hj e.symm) _, h.ne, h.inj⟩
  rw [← upd_occ tb cur occ L l v hl]
  exact h.s.set _ _
theorem Mem.setCur (h : Mem w S tb n T z nx pv ps occ cur L) (c : Nat) : Mem (w.setCell ⟨S, 0, none⟩ (.int .i64 c)) S tb n T z nx pv ps occ c L := by
  refine ⟨?_, fun j hj => (h.t j hj).other (fun e => h.ne j hj e.symm) _, h.ne, h.inj⟩
  rw [← upd_cur tb cur c occ L]
  exact h.s.set _ _
theorem Mem.drew (h : Mem w S tb n T z nx pv ps occ cur L) : Mem w.drew S tb n T z nx pv ps occ cur L := ⟨h.s.drew, fun j hj => (h.t j hj).drew, h.ne, h.inj⟩
theorem Mem.drewN (h : Mem w S tb n T z nx pv ps occ cur L) (k : Nat) : Mem (w.drewN k) S tb n T z nx pv ps occ cur L := ⟨h.s.drewN k, fun j hj => (h.t j hj).drewN k, h.ne, h.inj⟩
/-- The blocks that the hierarchy may turn. -/
def Own (S : Nat) (tb : Nat → Nat) (n : Nat) (k : Nat) : Prop := k = S ∨ ∃ j, j < n ∧ k = tb j
end
end Go.Proofs.YbulkdgzaDoor
