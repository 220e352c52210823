/-
  A slot is emptied: the lists, the bits.
-/
import Derived.Test.YbulkdgzaDoorFirst
namespace Go.Proofs.YbulkdgzaDoor
open Go.RowKit B
set_option linter.unusedVariables false

theorem ctz_bit (x : Nat) (h0 : x ≠ 0) (hx : x < 18446744073709551616) : x.testBit (Lib.ctz 64 x) = true ∧ (∀ t, t < Lib.ctz 64 x → x.testBit t = false) ∧ Lib.ctz 64 x < 64 := by
  have e : Lib.ctz 64 x = Lib.ctzFrom 64 x := by unfold Lib.ctz; rw [if_neg h0]
  rw [e]
  obtain ⟨m, h1, h2⟩ := Lib.ctzFrom_spec 64 x (by omega) (by omega)
  generalize Lib.ctzFrom 64 x = c at *
  refine ⟨?_, fun t ht => ?_, h2⟩
  · rw [h1, Nat.testBit_two_pow_mul]; simp
  · rw [h1, Nat.testBit_two_pow_mul]; simp; omega

theorem not_bit (s t : Nat) (hs : s < 64) : (18446744073709551615 - 2 ^ s).testBit t = (decide (t < 64) && !decide (s = t)) := by
  have h2 : 2 ^ s < 2 ^ 64 := Nat.pow_lt_pow_right (by omega) hs
  have e : 18446744073709551615 - 2 ^ s = 2 ^ 64 - (2 ^ s + 1) := by omega
  rw [e, Nat.testBit_two_pow_sub_succ h2, Nat.testBit_two_pow]

theorem Lk.clear {n : Nat} {nx pv : Nat → Option Nat} {ps occ : Nat → Nat} {L : Nat → Nat → List Nat} (h : Lk n nx pv ps occ L) {l s : Nat} (hl : l < 11) (hs : s < 64) :
    Lk n nx pv ps (updN occ l (occ l &&& (18446744073709551615 - 2 ^ s))) (updL L l s []) := by
  have key : ∀ l' s' (j : Nat), j ∈ updL L l s [] l' s' → j ∈ L l' s' := by
    intro l' s' j hj
    by_cases hc : l' = l ∧ s' = s
    · obtain ⟨rfl, rfl⟩ := hc; rw [updL_same] at hj; simp at hj
    · rwa [updL_ne _ _ _ _ _ _ hc] at hj
  refine ⟨?_, ?_, fun l' s' i hi => h.pos l' s' i (key _ _ _ hi), ?_, ?_, fun l' s' i hi => h.lt l' s' i (key _ _ _ hi), fun l1 s1 l2 s2 i h1 h2 => h.dj _ _ _ _ i (key _ _ _ h1) (key _ _ _ h2), ?_⟩
  · intro l' s' k j hk
    by_cases hc : l' = l ∧ s' = s
    · obtain ⟨rfl, rfl⟩ := hc; rw [updL_same] at hk; simp at hk
    · rw [updL_ne _ _ _ _ _ _ hc] at hk ⊢; exact h.nxt _ _ _ _ hk
  · intro l' s' k j hk
    by_cases hc : l' = l ∧ s' = s
    · obtain ⟨rfl, rfl⟩ := hc; rw [updL_same] at hk; simp at hk
    · rw [updL_ne _ _ _ _ _ _ hc] at hk ⊢; exact h.prv _ _ _ _ hk
  · intro l' s' hl' hs'
    by_cases hll : l' = l
    · subst hll
      rw [updN_same, Nat.testBit_and, not_bit s s' hs]
      by_cases hss : s = s'
      · subst hss; rw [updL_same]; simp
      · rw [updL_ne _ _ _ _ _ _ (fun hc => hss hc.2.symm), h.bit l' s' hl' hs']; simp [hss, hs']
    · rw [updN_ne _ _ _ _ hll, updL_ne _ _ _ _ _ _ (fun hc => hll hc.1), h.bit l' s' hl' hs']
  · intro l'
    by_cases hll : l' = l
    · subst hll
      rw [updN_same]
      exact Nat.lt_of_le_of_lt Nat.and_le_left (h.bnd l')
    · rw [updN_ne _ _ _ _ hll]; exact h.bnd l'
  · intro l' s'
    by_cases hc : l' = l ∧ s' = s
    · obtain ⟨rfl, rfl⟩ := hc; rw [updL_same]; exact List.nodup_nil
    · rw [updL_ne _ _ _ _ _ _ hc]; exact h.nd _ _

/-- Which slot is the first that is not empty: off the bits. -/
theorem Lk.first {n : Nat} {nx pv : Nat → Option Nat} {ps occ : Nat → Nat} {L : Nat → Nat → List Nat} (h : Lk n nx pv ps occ L) (hout : ∀ l s, ¬ (l < 11 ∧ s < 64) → L l s = []) :
    ((∀ l, l < 11 → occ l = 0) ∧ ∀ l s, L l s = []) ∨
    ∃ l, l < 11 ∧ (∀ l', l' < l → occ l' = 0) ∧ occ l ≠ 0 ∧ (∀ l' s', l' < l → L l' s' = []) ∧ (∀ s', s' < Lib.ctz 64 (occ l) → L l s' = []) ∧ L l (Lib.ctz 64 (occ l)) ≠ [] ∧ Lib.ctz 64 (occ l) < 64 := by
  have zero : ∀ l, l < 11 → occ l = 0 → ∀ s, L l s = [] := by
    intro l hl h0 s
    by_cases hs : s < 64
    · have := h.bit l s hl hs
      rw [h0] at this
      simp at this
      exact this
    · exact hout l s (by omega)
  by_cases hall : ∀ l, l < 11 → occ l = 0
  · refine .inl ⟨hall, fun l s => ?_⟩
    by_cases hl : l < 11
    · exact zero l hl (hall l hl) s
    · exact hout l s (by omega)
  · right
    have hex : ∃ l, l < 11 ∧ occ l ≠ 0 := by
      refine Classical.byContradiction fun hne => hall fun l hl => Classical.byContradiction fun h0 => hne ⟨l, hl, h0⟩
    have hmin : ∃ l, (l < 11 ∧ occ l ≠ 0) ∧ ∀ l', l' < l → ¬ (l' < 11 ∧ occ l' ≠ 0) := by
      obtain ⟨l, hl⟩ := hex
      induction l using Nat.strongRecOn with
      | ind l ih =>
        by_cases hx : ∃ l', l' < l ∧ (l' < 11 ∧ occ l' ≠ 0)
        · obtain ⟨l', h1, h2⟩ := hx; exact ih l' h1 h2
        · exact ⟨l, hl, fun l' h1 h2 => hx ⟨l', h1, h2⟩⟩
    obtain ⟨l, ⟨hl, hn⟩, hm⟩ := hmin
    have hz : ∀ l', l' < l → occ l' = 0 := fun l' h1 => Classical.byContradiction fun h0 => hm l' h1 ⟨by omega, h0⟩
    obtain ⟨b1, b2, b3⟩ := ctz_bit (occ l) hn (h.bnd l)
    refine ⟨l, hl, hz, hn, fun l' s' h1 => zero l' (by omega) (hz l' h1) s', fun s' h1 => ?_, ?_, b3⟩
    · have := h.bit l s' hl (by omega)
      rw [b2 s' h1] at this
      simpa using this.symm
    · have := h.bit l _ hl b3
      rw [b1] at this
      intro e
      rw [e] at this
      simp at this
end Go.Proofs.YbulkdgzaDoor
