/-
  THE PLAIN SIDE OF LawS5408BWhole: the hierarchy of slots. No Go in sight.
-/
namespace Go.Proofs.Ybulkdgza.B

/-- t and c agree above level l, and (unless l = 0) differ on it. -/
def Lev (t c l : Nat) : Prop := t / 64 ^ (l + 1) = c / 64 ^ (l + 1) ∧ (l = 0 ∨ t / 64 ^ l ≠ c / 64 ^ l)
/-- The level at which t lies when the cursor is at c. -/
def lev (t c : Nat) : Nat := Nat.log2 (t ^^^ c) / 6
def slot (t l : Nat) : Nat := t / 64 ^ l % 64

theorem pow64 (k : Nat) : 64 ^ k = 2 ^ (6 * k) := by rw [Nat.pow_mul]
theorem pos64 (k : Nat) : 0 < 64 ^ k := Nat.pow_pos (by omega)

theorem xor_div (t c k : Nat) : (t ^^^ c) / 64 ^ k = (t / 64 ^ k) ^^^ (c / 64 ^ k) := by
  rw [pow64, ← Nat.shiftRight_eq_div_pow, ← Nat.shiftRight_eq_div_pow, ← Nat.shiftRight_eq_div_pow, Nat.shiftRight_xor_distrib]
theorem xor_zero (a b : Nat) : a ^^^ b = 0 ↔ a = b := by
  refine ⟨fun h => ?_, fun h => by rw [h]; simp⟩
  have h2 : a ^^^ b ^^^ b = 0 ^^^ b := by rw [h]
  rwa [Nat.xor_assoc, Nat.xor_self, Nat.xor_zero, Nat.zero_xor] at h2
theorem xor_lt (t c k : Nat) : t ^^^ c < 64 ^ k ↔ t / 64 ^ k = c / 64 ^ k := by
  have h1 : t ^^^ c < 64 ^ k ↔ (t ^^^ c) / 64 ^ k = 0 := by
    rw [Nat.div_eq_zero_iff]
    have := pos64 k
    omega
  rw [h1, xor_div, xor_zero]

theorem lev_spec (t c : Nat) : Lev t c (lev t c) := by
  unfold Lev lev
  rw [← xor_lt]
  by_cases hx : t ^^^ c = 0
  · rw [hx]
    exact ⟨pos64 _, .inl (by simp)⟩
  · refine ⟨?_, ?_⟩
    · rw [pow64]
      rw [← Nat.log2_lt hx]
      omega
    · by_cases h0 : Nat.log2 (t ^^^ c) / 6 = 0
      · exact .inl h0
      · right
        intro h
        rw [← xor_lt, pow64, ← Nat.log2_lt hx] at h
        omega
theorem Lev.div {t c l : Nat} (h : t / 64 ^ l = c / 64 ^ l) {m : Nat} (hm : l ≤ m) : t / 64 ^ m = c / 64 ^ m := by
  have e : 64 ^ m = 64 ^ l * 64 ^ (m - l) := by rw [← Nat.pow_add]; congr 1; omega
  rw [e, ← Nat.div_div_eq_div_mul, ← Nat.div_div_eq_div_mul, h]
theorem Lev.unique {t c l m : Nat} (h : Lev t c l) (k : Lev t c m) : l = m := by
  rcases Nat.lt_trichotomy l m with hl | hl | hl
  · rcases k.2 with h0 | hn
    · omega
    · exact absurd (Lev.div h.1 (by omega)) hn
  · exact hl
  · rcases h.2 with h0 | hn
    · omega
    · exact absurd (Lev.div k.1 (by omega)) hn
theorem lev_iff (t c l : Nat) : lev t c = l ↔ Lev t c l :=
  ⟨fun h => h ▸ lev_spec t c, fun h => (lev_spec t c).unique h⟩

theorem slot_lt (t l : Nat) : slot t l < 64 := Nat.mod_lt _ (by omega)
theorem div_slot (t l : Nat) : t / 64 ^ l = t / 64 ^ (l + 1) * 64 + slot t l := by
  unfold slot
  rw [Nat.pow_succ, ← Nat.div_div_eq_div_mul]
  omega

/-- The first tick of slot s on level l. -/
def tickOf (c l s : Nat) : Nat := (c / 64 ^ (l + 1) * 64 + s) * 64 ^ l
theorem tick_div (c l s : Nat) : tickOf c l s / 64 ^ l = c / 64 ^ (l + 1) * 64 + s := Nat.mul_div_cancel _ (pos64 l)
theorem tick_up (c l s : Nat) (hs : s < 64) {m : Nat} (hm : l + 1 ≤ m) : tickOf c l s / 64 ^ m = c / 64 ^ m := by
  refine Lev.div ?_ hm
  rw [Nat.pow_succ, ← Nat.div_div_eq_div_mul, tick_div, Nat.pow_succ]
  omega

/-- The hierarchy: the cursor, and the list of each slot of each level. -/
structure Wh where
  cur : Nat
  L : Nat → Nat → List Nat
def updL (L : Nat → Nat → List Nat) (l s : Nat) (v : List Nat) : Nat → Nat → List Nat := fun l' s' => if l' = l ∧ s' = s then v else L l' s'
theorem updL_same (L : Nat → Nat → List Nat) (l s : Nat) (v : List Nat) : updL L l s v l s = v := by simp [updL]
theorem updL_ne (L : Nat → Nat → List Nat) (l s : Nat) (v : List Nat) (l' s' : Nat) (h : ¬ (l' = l ∧ s' = s)) : updL L l s v l' s' = L l' s' := by simp only [updL]; rw [if_neg h]

/-- Those of R, and no others, lie where they belong. -/
structure Inv (T : Nat → Nat) (R : Nat → Prop) (w : Wh) : Prop where
  ge : ∀ i, R i → w.cur ≤ T i
  lt : ∀ i, R i → T i < 2 ^ 63
  place : ∀ i, R i → i ∈ w.L (lev (T i) w.cur) (slot (T i) (lev (T i) w.cur))
  only : ∀ l s i, i ∈ w.L l s → R i ∧ lev (T i) w.cur = l ∧ slot (T i) l = s
  nd : ∀ l s, (w.L l s).Nodup

def addW (T : Nat → Nat) (w : Wh) (i : Nat) : Wh :=
  ⟨w.cur, updL w.L (lev (T i) w.cur) (slot (T i) (lev (T i) w.cur)) (i :: w.L (lev (T i) w.cur) (slot (T i) (lev (T i) w.cur)))⟩

theorem Inv.add {T : Nat → Nat} {R : Nat → Prop} {w : Wh} (h : Inv T R w) {i : Nat} (hi : ¬ R i) (hg : w.cur ≤ T i) (hl : T i < 2 ^ 63) : Inv T (fun j => R j ∨ j = i) (addW T w i) := by
  refine ⟨?_, ?_, ?_, ?_, ?_⟩
  · rintro j (hj | rfl)
    · exact h.ge j hj
    · exact hg
  · rintro j (hj | rfl)
    · exact h.lt j hj
    · exact hl
  · rintro j (hj | rfl)
    · show j ∈ updL w.L (lev (T i) w.cur) (slot (T i) (lev (T i) w.cur)) (i :: w.L (lev (T i) w.cur) (slot (T i) (lev (T i) w.cur))) (lev (T j) w.cur) (slot (T j) (lev (T j) w.cur))
      have := h.place j hj
      unfold updL
      split
      · rename_i hc
        rw [hc.2, hc.1] at this
        exact List.mem_cons_of_mem _ this
      · exact this
    · show j ∈ updL w.L (lev (T j) w.cur) (slot (T j) (lev (T j) w.cur)) (j :: w.L (lev (T j) w.cur) (slot (T j) (lev (T j) w.cur))) (lev (T j) w.cur) (slot (T j) (lev (T j) w.cur))
      rw [updL_same]; exact List.mem_cons_self
  · intro l s j hj
    have hj' : j ∈ updL w.L (lev (T i) w.cur) (slot (T i) (lev (T i) w.cur)) (i :: w.L (lev (T i) w.cur) (slot (T i) (lev (T i) w.cur))) l s := hj
    unfold updL at hj'
    split at hj'
    · rename_i hc
      rcases List.mem_cons.1 hj' with e | e
      · subst e
        exact ⟨.inr rfl, hc.1.symm, by rw [hc.1]; exact hc.2.symm⟩
      · obtain ⟨a, b, c⟩ := h.only _ _ j e
        exact ⟨.inl a, b.trans hc.1.symm, by rw [hc.1, hc.2]; exact c⟩
    · obtain ⟨a, b, c⟩ := h.only _ _ j hj'
      exact ⟨.inl a, b, c⟩
  · intro l s
    show (updL _ _ _ _ _ _).Nodup
    unfold updL
    split
    · rename_i hc
      exact List.nodup_cons.2 ⟨fun hm => hi (h.only _ _ i hm).1, h.nd _ _⟩
    · exact h.nd _ _

/-- What is known of the first slot that is not empty, and of the cursor's move there. -/
structure Moved (T : Nat → Nat) (R : Nat → Prop) (w : Wh) (l s : Nat) : Prop where
  up : w.cur ≤ tickOf w.cur l s
  low : ∀ i, R i → tickOf w.cur l s ≤ T i
  inv : Inv T (fun i => R i ∧ i ∉ w.L l s) ⟨tickOf w.cur l s, updL w.L l s []⟩
  zero : l = 0 → ∀ i, i ∈ w.L l s → T i = tickOf w.cur l s
  down : l ≠ 0 → ∀ i, i ∈ w.L l s → lev (T i) (tickOf w.cur l s) < l
  beyond : ∀ i, R i → i ∉ w.L l s → tickOf w.cur l s < T i

theorem Inv.slotlt {T : Nat → Nat} {R : Nat → Prop} {w : Wh} (h : Inv T R w) {l s i : Nat} (hi : i ∈ w.L l s) : s < 64 := by
  obtain ⟨_, _, e⟩ := h.only l s i hi
  rw [← e]; exact slot_lt _ _
theorem Inv.levlt {T : Nat → Nat} {R : Nat → Prop} {w : Wh} (h : Inv T R w) {l s i : Nat} (hi : i ∈ w.L l s) : l < 11 := by
  obtain ⟨hR, e, _⟩ := h.only l s i hi
  have h1 := h.lt i hR
  have h2 := h.ge i hR
  have hl := (lev_iff (T i) w.cur l).1 e
  rcases hl.2 with h0 | hn
  · omega
  · refine Nat.lt_of_not_le fun hc => hn ?_
    refine Lev.div (l := 11) ?_ hc
    rw [Nat.div_eq_of_lt, Nat.div_eq_of_lt]
    · have : (2 : Nat) ^ 63 ≤ 64 ^ 11 := by decide
      omega
    · have : (2 : Nat) ^ 63 ≤ 64 ^ 11 := by decide
      omega

theorem Inv.move {T : Nat → Nat} {R : Nat → Prop} {w : Wh} (h : Inv T R w) {l s : Nat} (h1 : ∀ l' s', l' < l → w.L l' s' = []) (h2 : ∀ s', s' < s → w.L l s' = []) (h3 : w.L l s ≠ []) : Moved T R w l s := by
  obtain ⟨i0, hi0⟩ := List.exists_mem_of_ne_nil _ h3
  have hs := h.slotlt hi0
  -- of one in the list
  have one : ∀ i, i ∈ w.L l s → T i / 64 ^ l = w.cur / 64 ^ (l + 1) * 64 + s ∧ Lev (T i) w.cur l ∧ w.cur ≤ T i := by
    intro i hi
    obtain ⟨hR, e, hsl⟩ := h.only l s i hi
    have hl := (lev_iff (T i) w.cur l).1 e
    refine ⟨?_, hl, h.ge i hR⟩
    rw [div_slot, hl.1, hsl]
  have onele : ∀ i, i ∈ w.L l s → tickOf w.cur l s ≤ T i := by
    intro i hi
    have := (one i hi).1
    unfold tickOf
    rw [← this]
    exact Nat.div_mul_le_self _ _
  -- of another
  have other : ∀ i, R i → i ∉ w.L l s → tickOf w.cur l s < T i ∧ lev (T i) (tickOf w.cur l s) = lev (T i) w.cur := by
    intro i hR hi
    have hp := h.place i hR
    have hl := lev_spec (T i) w.cur
    have hg := h.ge i hR
    generalize hm : lev (T i) w.cur = m at hp hl
    rcases Nat.lt_trichotomy m l with hml | hml | hml
    · rw [h1 m _ hml] at hp; simp at hp
    · subst hml
      have hsl : s < slot (T i) m := by
        rcases Nat.lt_trichotomy (slot (T i) m) s with q | q | q
        · rw [h2 _ q] at hp; simp at hp
        · rw [q] at hp; exact absurd hp hi
        · exact q
      have hd : T i / 64 ^ m = w.cur / 64 ^ (m + 1) * 64 + slot (T i) m := by rw [div_slot, hl.1]
      have hlt : tickOf w.cur m s / 64 ^ m < T i / 64 ^ m := by rw [tick_div, hd]; omega
      refine ⟨Nat.lt_of_div_lt_div hlt, ?_⟩
      rw [lev_iff]
      exact ⟨by rw [tick_up _ _ _ hs (Nat.le_refl _)]; exact hl.1, .inr (by omega)⟩
    · have hne : T i / 64 ^ m ≠ w.cur / 64 ^ m := by
        rcases hl.2 with q | q
        · omega
        · exact q
      have hge : w.cur / 64 ^ m ≤ T i / 64 ^ m := Nat.div_le_div_right hg
      have e1 := tick_up w.cur l s hs (m := m) hml
      have e2 := tick_up w.cur l s hs (m := m + 1) (by omega)
      refine ⟨Nat.lt_of_div_lt_div (c := 64 ^ m) (by rw [e1]; omega), ?_⟩
      rw [lev_iff]
      exact ⟨by rw [e2]; exact hl.1, .inr (by rw [e1]; exact hne)⟩
  have lowAll : ∀ i, R i → tickOf w.cur l s ≤ T i := by
    intro i hR
    by_cases hi : i ∈ w.L l s
    · exact onele i hi
    · exact Nat.le_of_lt (other i hR hi).1
  refine ⟨?_, lowAll, ?_, ?_, ?_, fun i hR hi => (other i hR hi).1⟩
  · obtain ⟨a, b, c⟩ := one i0 hi0
    by_cases h0 : l = 0
    · subst h0
      have : T i0 = tickOf w.cur 0 s := by unfold tickOf; rw [← a]; simp
      omega
    · rcases b.2 with q | q
      · exact absurd q h0
      · have hge : w.cur / 64 ^ l ≤ T i0 / 64 ^ l := Nat.div_le_div_right c
        have hlt : w.cur / 64 ^ l < w.cur / 64 ^ (l + 1) * 64 + s := by omega
        exact Nat.le_of_lt ((Nat.div_lt_iff_lt_mul (pos64 l)).1 hlt)
  · refine ⟨fun i hi => lowAll i hi.1, fun i hi => h.lt i hi.1, ?_, ?_, ?_⟩
    · rintro i ⟨hR, hi⟩
      show i ∈ updL _ _ _ _ _ _
      have hp := h.place i hR
      have e := (other i hR hi).2
      simp only [e]
      rw [updL_ne]
      · exact hp
      · rintro ⟨q1, q2⟩
        rw [q1] at hp q2
        rw [q2] at hp
        exact hi hp
    · intro l' s' i hi
      have hi' : i ∈ updL w.L l s [] l' s' := hi
      unfold updL at hi'
      split at hi'
      · simp at hi'
      · rename_i hc
        obtain ⟨hR, e1, e2⟩ := h.only l' s' i hi'
        have hnot : i ∉ w.L l s := by
          intro hm
          obtain ⟨_, q1, q2⟩ := h.only l s i hm
          exact hc ⟨e1.symm.trans q1, by rw [← e2, ← q2]; congr 1; exact e1.symm.trans q1⟩
        refine ⟨⟨hR, hnot⟩, ?_, e2⟩
        exact (other i hR hnot).2.trans e1
    · intro l' s'
      show (updL _ _ _ _ _ _).Nodup
      unfold updL
      split
      · exact List.nodup_nil
      · exact h.nd _ _
  · intro h0 i hi
    subst h0
    have := (one i hi).1
    unfold tickOf
    rw [← this]; simp
  · intro h0 i hi
    have a := (one i hi).1
    have hl := lev_spec (T i) (tickOf w.cur l s)
    refine Nat.lt_of_not_le fun hc => ?_
    rcases hl.2 with q | q
    · omega
    · refine q (Lev.div (l := l) ?_ hc)
      rw [a, tick_div]
end Go.Proofs.Ybulkdgza.B
