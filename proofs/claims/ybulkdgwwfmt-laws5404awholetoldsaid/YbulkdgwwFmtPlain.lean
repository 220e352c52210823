/-
  THE PLAIN SIDE: a good name, as a test on a list of bytes. No Go in sight.
-/
import Derived.WalkKit
namespace Go.Proofs.YbulkdgwwFmt

/-- A good byte: an ASCII letter, digit, '.', '_' or '-'. -/
def goodN (c : Nat) : Bool := decide ((97 ≤ c ∧ c ≤ 122) ∨ (65 ≤ c ∧ c ≤ 90) ∨ (48 ≤ c ∧ c ≤ 57) ∨ c = 46 ∨ c = 95 ∨ c = 45)
/-- A good name. -/
def okL (s : ByteArray) : Bool := decide (1 ≤ s.size ∧ s.size ≤ 128 ∧ s[0]!.toNat ≠ 46 ∧ ∀ k, k < s.size → goodN s[k]!.toNat = true)

theorem get_bang (s : ByteArray) (k : Nat) (h : k < s.size) : s[k]! = s[k] := getElem!_pos s k h

theorem ok_short (s : ByteArray) (h : s.size < 1) : okL s = false := by
  unfold okL; exact decide_eq_false (fun ⟨a, _⟩ => by omega)
theorem ok_long (s : ByteArray) (h : 128 < s.size) : okL s = false := by
  unfold okL; exact decide_eq_false (fun ⟨_, a, _⟩ => by omega)
theorem ok_dot (s : ByteArray) (h : 0 < s.size) (hd : s[0].toNat = 46) : okL s = false := by
  unfold okL; exact decide_eq_false (fun ⟨_, _, a, _⟩ => a (by rw [get_bang s 0 h]; exact hd))
theorem ok_bad (s : ByteArray) (k : Nat) (h : k < s.size) (hb : goodN s[k].toNat = false) : okL s = false := by
  unfold okL; exact decide_eq_false (fun ⟨_, _, _, a⟩ => by have := a k h; rw [get_bang s k h, hb] at this; cases this)
theorem ok_yes (s : ByteArray) (h : 0 < s.size) (h1 : s.size ≤ 128) (hd : ¬ s[0].toNat = 46) (ha : ∀ k, k < s.size → goodN s[k]!.toNat = true) : okL s = true := by
  unfold okL; exact decide_eq_true ⟨h, h1, by rw [get_bang s 0 h]; exact hd, ha⟩

theorem good_step (s : ByteArray) (k : Nat) (h : k < s.size) (ha : ∀ j, j < k → goodN s[j]!.toNat = true) (hg : goodN s[k].toNat = true) : ∀ j, j < k + 1 → goodN s[j]!.toNat = true := by
  intro j hj
  by_cases e : j = k
  · subst e; rw [get_bang s j h]; exact hg
  · exact ha j (by omega)

theorem good_yes (c : Nat) (h : (97 ≤ c ∧ c ≤ 122) ∨ (65 ≤ c ∧ c ≤ 90) ∨ (48 ≤ c ∧ c ≤ 57) ∨ (46 ≤ c ∧ c ≤ 46) ∨ (95 ≤ c ∧ c ≤ 95) ∨ (45 ≤ c ∧ c ≤ 45)) : goodN c = true := by
  unfold goodN; exact decide_eq_true (by omega)
theorem good_no (c : Nat) (h : c < 45 ∨ (47 ≤ c ∧ c ≤ 47) ∨ (58 ≤ c ∧ c ≤ 64) ∨ (91 ≤ c ∧ c ≤ 94) ∨ (96 ≤ c ∧ c ≤ 96) ∨ 123 ≤ c) : goodN c = false := by
  unfold goodN; exact decide_eq_false (by omega)
/-- The twelve stretches of the bytes. -/
theorem twelve (c : Nat) : ((97 ≤ c ∧ c ≤ 122) ∨ (65 ≤ c ∧ c ≤ 90) ∨ (48 ≤ c ∧ c ≤ 57) ∨ (46 ≤ c ∧ c ≤ 46) ∨ (95 ≤ c ∧ c ≤ 95) ∨ (45 ≤ c ∧ c ≤ 45)) ∨
    (c < 45 ∨ (47 ≤ c ∧ c ≤ 47) ∨ (58 ≤ c ∧ c ≤ 64) ∨ (91 ≤ c ∧ c ≤ 94) ∨ (96 ≤ c ∧ c ≤ 96) ∨ 123 ≤ c) := by omega
theorem empty_yes (s : ByteArray) (h : s.size < 1) : s.toList.isEmpty = true := by
  have h' : s.data.toList.length = s.size := by rw [Array.length_toList]; rfl
  rw [ByteArray.toList_eq, List.isEmpty_iff, ← List.length_eq_zero_iff]; omega
theorem empty_no (s : ByteArray) (h : ¬ s.size < 1) : s.toList.isEmpty = false := by
  have h' : s.data.toList.length = s.size := by rw [Array.length_toList]; rfl
  rw [ByteArray.toList_eq, List.isEmpty_eq_false_iff, ← List.length_pos_iff]; omega
end Go.Proofs.YbulkdgwwFmt
