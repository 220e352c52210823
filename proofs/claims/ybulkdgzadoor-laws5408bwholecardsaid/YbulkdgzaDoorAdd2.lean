/-
  (*slots).add (11): the contract.
-/
import Derived.Test.YbulkdgzaDoorAdd
namespace Go.Proofs.YbulkdgzaDoor
open Go.RowKit B
set_option linter.unusedVariables false

theorem lev_lt (t c : Nat) (ht : t < 9223372036854775808) (hc : c < 9223372036854775808) : lev t c < 11 := by
  have h := lev_spec t c
  rcases h.2 with h0 | hn
  · omega
  · refine Nat.lt_of_not_le fun hh => hn ?_
    refine Lev.div (l := 11) ?_ hh
    rw [Nat.div_eq_of_lt, Nat.div_eq_of_lt]
    · have : (9223372036854775808 : Nat) ≤ 64 ^ 11 := by decide
      omega
    · have : (9223372036854775808 : Nat) ≤ 64 ^ 11 := by decide
      omega

theorem add_any (S : Nat) (tb : Nat → Nat) (n : Nat) (T : Nat → Nat) (z : Nat → Value) (nx pv : Nat → Option Nat) (ps occ : Nat → Nat) (wh : Wh) (i : Nat) (w : World)
    (hi : i < n) (hT : T i < 9223372036854775808) (hc : wh.cur < 9223372036854775808) (hm : Mem w S tb n T z nx pv ps occ wh.cur wh.L) (hk : Lk n nx pv ps occ wh.L) (hni : ∀ l s, i ∉ wh.L l s) :
    Calls Ybad.prog 11 #[.pointer (some ⟨S, 0, none⟩), .pointer (some ⟨tb i, 0, none⟩)] w fun e w' => e = .returned (.tuple #[]) ∧
      ∃ nx' pv' ps' occ', Mem w' S tb n T z nx' pv' ps' occ' (addW T wh i).cur (addW T wh i).L ∧ Lk n nx' pv' ps' occ' (addW T wh i).L ∧ (∀ j, j ≠ i → nx' j = nx j) ∧ Chg w w' (Own S tb n) := by
  have hl := lev_lt (T i) wh.cur hT hc
  have hp := hk.push hl (slot_lt (T i) (lev (T i) wh.cur)) hi hni
  cases hh : (wh.L (lev (T i) wh.cur) (slot (T i) (lev (T i) wh.cur))).head? with
  | none =>
    refine (add_none S tb n T z nx pv ps occ wh.cur wh.L i _ _ w hi hT hc rfl rfl hl (hk.bnd _) hm hh).mono ?_
    rintro e w' ⟨he, m, c⟩
    rw [hh] at hp
    simp only at hp
    rw [hh] at m
    exact ⟨he, _, _, _, _, m, hp, fun j hj => updN_ne _ _ _ _ hj, c⟩
  | some y =>
    have hy : y ∈ wh.L (lev (T i) wh.cur) (slot (T i) (lev (T i) wh.cur)) := List.mem_of_mem_head? (by rw [hh]; rfl)
    refine (add_some S tb n T z nx pv ps occ wh.cur wh.L i _ _ y w hi hT hc rfl rfl hl (hk.bnd _) hm hh (hk.lt _ _ _ hy) (fun e => hni _ _ (by rw [e]; exact hy))).mono ?_
    rintro e w' ⟨he, m, c⟩
    rw [hh] at hp
    simp only at hp
    rw [hh] at m
    exact ⟨he, _, _, _, _, m, hp, fun j hj => updN_ne _ _ _ _ hj, c⟩
end Go.Proofs.YbulkdgzaDoor
