/-
  Region 39 of LawS5408CWhole: its operations; every order of them may be walked as the text's (reckoned in parts: the whole at once asks much memory).
-/
import Derived.Test.YbulkdgzaFr
import Derived.Deep.QuietTactic
namespace Go.Proofs.Ybulkdgza
/-- The operations of a region. -/
def opsOf : Code → List Oper
  | .region _ o _ => o.toList
  | _ => []
/-- Of n, the first k are listed. -/
def listed (n k : Nat) : Array Bool := ((List.range n).map (fun i => Nat.blt i k)).toArray
theorem listed_set (n k : Nat) : (listed n k).setIfInBounds k true = listed n (k + 1) := by
  have hg : ∀ k i, (listed n k)[i]? = if i < n then some (Nat.blt i k) else none := fun k i => by
    unfold listed
    rw [List.getElem?_toArray, List.getElem?_map]
    by_cases h : i < n
    · rw [List.getElem?_range h, if_pos h]; rfl
    · rw [if_neg h, List.getElem?_eq_none (by simpa using h)]; rfl
  have hz : (listed n k).size = n := by simp [listed]
  apply Array.ext_getElem?
  intro i
  rw [Array.getElem?_setIfInBounds, hz, hg, hg]
  have hb : ∀ a b, Nat.blt a b = decide (a < b) := fun a b => by rw [Bool.eq_iff_iff]; simp [Nat.blt, Nat.lt_iff_add_one_le]
  simp only [hb]
  by_cases h : k = i
  · subst h
    rw [if_pos rfl]
    by_cases g : k < n
    · rw [if_pos g, if_pos g, decide_eq_true (by omega)]
    · rw [if_neg g, if_neg g]
  · rw [if_neg h]
    by_cases g : i < n
    · rw [if_pos g, if_pos g]
      by_cases c : i < k
      · rw [decide_eq_true c, decide_eq_true (by omega)]
      · rw [decide_eq_false c, decide_eq_false (by omega)]
    · rw [if_neg g, if_neg g]
/-- m steps of the reckoning. -/
def lexPart (md : Region.Mode) (ops : Array Oper) : Nat → Nat → Array Bool → Bool
  | 0, _, _ => true
  | m + 1, k, l => (Region.ready md ops l).contains k && Region.free md ops l k && lexPart md ops m (k + 1) (l.setIfInBounds k true)
theorem lex_split (md : Region.Mode) (ops : Array Oper) (n f : Nat) : ∀ (m k : Nat), lexPart md ops m k (listed n k) = true → Region.lexFrom md ops f (k + m) (listed n (k + m)) = true → Region.lexFrom md ops (f + m) k (listed n k) = true
  | 0, k, _, h => h
  | m + 1, k, h1, h2 => by
    unfold lexPart at h1
    simp only [Bool.and_eq_true] at h1
    show ((Region.ready md ops (listed n k)).contains k && Region.free md ops (listed n k) k && Region.lexFrom md ops (f + m) (k + 1) ((listed n k).setIfInBounds k true)) = true
    rw [h1.1.1, h1.1.2, listed_set]
    refine lex_split md ops n f m (k + 1) (by rw [← listed_set]; exact h1.2) ?_
    rw [show k + 1 + m = k + (m + 1) by omega]; exact h2
theorem lex39_0 : lexPart .any (opsOf (nav [1, 1, 1, 1, 1, 1, 1, 1, 1, 1, 1, 1, 1, 1, 1, 1, 1, 1, 1, 1, 1, 1, 0, 1, 3, 0] (Yba.f3.body.getD .skip))).toArray 8 0 (listed 92 0) = true := by kernel_rfl
theorem lex39_8 : lexPart .any (opsOf (nav [1, 1, 1, 1, 1, 1, 1, 1, 1, 1, 1, 1, 1, 1, 1, 1, 1, 1, 1, 1, 1, 1, 0, 1, 3, 0] (Yba.f3.body.getD .skip))).toArray 8 8 (listed 92 8) = true := by kernel_rfl
theorem lex39_16 : lexPart .any (opsOf (nav [1, 1, 1, 1, 1, 1, 1, 1, 1, 1, 1, 1, 1, 1, 1, 1, 1, 1, 1, 1, 1, 1, 0, 1, 3, 0] (Yba.f3.body.getD .skip))).toArray 8 16 (listed 92 16) = true := by kernel_rfl
theorem lex39_24 : lexPart .any (opsOf (nav [1, 1, 1, 1, 1, 1, 1, 1, 1, 1, 1, 1, 1, 1, 1, 1, 1, 1, 1, 1, 1, 1, 0, 1, 3, 0] (Yba.f3.body.getD .skip))).toArray 8 24 (listed 92 24) = true := by kernel_rfl
theorem lex39_32 : lexPart .any (opsOf (nav [1, 1, 1, 1, 1, 1, 1, 1, 1, 1, 1, 1, 1, 1, 1, 1, 1, 1, 1, 1, 1, 1, 0, 1, 3, 0] (Yba.f3.body.getD .skip))).toArray 8 32 (listed 92 32) = true := by kernel_rfl
theorem lex39_40 : lexPart .any (opsOf (nav [1, 1, 1, 1, 1, 1, 1, 1, 1, 1, 1, 1, 1, 1, 1, 1, 1, 1, 1, 1, 1, 1, 0, 1, 3, 0] (Yba.f3.body.getD .skip))).toArray 8 40 (listed 92 40) = true := by kernel_rfl
theorem lex39_48 : lexPart .any (opsOf (nav [1, 1, 1, 1, 1, 1, 1, 1, 1, 1, 1, 1, 1, 1, 1, 1, 1, 1, 1, 1, 1, 1, 0, 1, 3, 0] (Yba.f3.body.getD .skip))).toArray 8 48 (listed 92 48) = true := by kernel_rfl
theorem lex39_56 : lexPart .any (opsOf (nav [1, 1, 1, 1, 1, 1, 1, 1, 1, 1, 1, 1, 1, 1, 1, 1, 1, 1, 1, 1, 1, 1, 0, 1, 3, 0] (Yba.f3.body.getD .skip))).toArray 8 56 (listed 92 56) = true := by kernel_rfl
theorem lex39_64 : lexPart .any (opsOf (nav [1, 1, 1, 1, 1, 1, 1, 1, 1, 1, 1, 1, 1, 1, 1, 1, 1, 1, 1, 1, 1, 1, 0, 1, 3, 0] (Yba.f3.body.getD .skip))).toArray 8 64 (listed 92 64) = true := by kernel_rfl
theorem lex39_72 : lexPart .any (opsOf (nav [1, 1, 1, 1, 1, 1, 1, 1, 1, 1, 1, 1, 1, 1, 1, 1, 1, 1, 1, 1, 1, 1, 0, 1, 3, 0] (Yba.f3.body.getD .skip))).toArray 8 72 (listed 92 72) = true := by kernel_rfl
theorem lex39_80 : lexPart .any (opsOf (nav [1, 1, 1, 1, 1, 1, 1, 1, 1, 1, 1, 1, 1, 1, 1, 1, 1, 1, 1, 1, 1, 1, 0, 1, 3, 0] (Yba.f3.body.getD .skip))).toArray 8 80 (listed 92 80) = true := by kernel_rfl
theorem lex39_88 : lexPart .any (opsOf (nav [1, 1, 1, 1, 1, 1, 1, 1, 1, 1, 1, 1, 1, 1, 1, 1, 1, 1, 1, 1, 1, 1, 0, 1, 3, 0] (Yba.f3.body.getD .skip))).toArray 4 88 (listed 92 88) = true := by kernel_rfl
theorem lex39_end : Region.lexFrom .any (opsOf (nav [1, 1, 1, 1, 1, 1, 1, 1, 1, 1, 1, 1, 1, 1, 1, 1, 1, 1, 1, 1, 1, 1, 0, 1, 3, 0] (Yba.f3.body.getD .skip))).toArray 0 92 (listed 92 92) = true := by kernel_rfl
theorem lex39_sel : Region.noSelect (opsOf (nav [1, 1, 1, 1, 1, 1, 1, 1, 1, 1, 1, 1, 1, 1, 1, 1, 1, 1, 1, 1, 1, 1, 0, 1, 3, 0] (Yba.f3.body.getD .skip))).toArray = true := by kernel_rfl
theorem lex39_size : (opsOf (nav [1, 1, 1, 1, 1, 1, 1, 1, 1, 1, 1, 1, 1, 1, 1, 1, 1, 1, 1, 1, 1, 1, 0, 1, 3, 0] (Yba.f3.body.getD .skip))).toArray.size = 92 := by kernel_rfl
theorem listed_zero : Array.replicate 92 false = listed 92 0 := by kernel_rfl
theorem lex39 : Region.lexB .any (opsOf (nav [1, 1, 1, 1, 1, 1, 1, 1, 1, 1, 1, 1, 1, 1, 1, 1, 1, 1, 1, 1, 1, 1, 0, 1, 3, 0] (Yba.f3.body.getD .skip))).toArray = true := by
  unfold Region.lexB
  rw [lex39_sel, lex39_size, listed_zero, Bool.true_and]
  exact (lex_split _ _ 92 84 8 0 lex39_0 (lex_split _ _ 92 76 8 8 lex39_8 (lex_split _ _ 92 68 8 16 lex39_16 (lex_split _ _ 92 60 8 24 lex39_24 (lex_split _ _ 92 52 8 32 lex39_32 (lex_split _ _ 92 44 8 40 lex39_40 (lex_split _ _ 92 36 8 48 lex39_48 (lex_split _ _ 92 28 8 56 lex39_56 (lex_split _ _ 92 20 8 64 lex39_64 (lex_split _ _ 92 12 8 72 lex39_72 (lex_split _ _ 92 4 8 80 lex39_80 (lex_split _ _ 92 0 4 88 lex39_88 lex39_end))))))))))))
end Go.Proofs.Ybulkdgza
