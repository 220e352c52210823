/-
  queueView.dequeued (6).
-/
import Derived.Test.YbulkdgzoCalls
namespace Go.Proofs.Ybulkdgzo
open Go.RowKit
set_option linter.unusedVariables false
set_option linter.unusedSimpArgs false

/-- The wrapping sum from the front. -/
def sumF (dq : Nat → Int) : Nat → Int
  | 0 => 0
  | k + 1 => wrap64 (sumF dq k + dq k)

set_option maxHeartbeats 1000000 in
theorem deq_any (vb n cap : Nat) (X : Nat → Option Addr) (qb : Nat → Nat) (dq : Nat → Int) (w : World) (hn : n ≤ 1048576)
    (h0 : ∀ i, i < n → w.cell? ⟨vb, i * 2, none⟩ = some (.pointer (X i))) (h1 : ∀ i, i < n → w.cell? ⟨vb, i * 2 + 1, none⟩ = some (.pointer (some ⟨qb i, 0, none⟩))) (h2 : ∀ i, i < n → w.cell? ⟨qb i, 1, none⟩ = some (.int .i64 (dq i))) :
    Calls Yba.prog 6 #[.slice (some ⟨vb, 0, none⟩) n cap] w fun e w' => e = .returned (.int .i64 (sumF dq n)) ∧ Chg w w' (fun _ => False) := by
  have A0 : Hid (∀ i, i < n → w.cell? ⟨vb, i * 2, none⟩ = some (.pointer (X i))) := h0
  have A1 : Hid (∀ i, i < n → w.cell? ⟨vb, i * 2 + 1, none⟩ = some (.pointer (some ⟨qb i, 0, none⟩))) := h1
  have A2 : Hid (∀ i, i < n → w.cell? ⟨qb i, 1, none⟩ = some (.int .i64 (dq i))) := h2
  clear h0 h1 h2
  go_enter Yba.func6, Yba.ntmps6
  go_wp2
  go_loopw [3, 8] (fun a i wr => ∃ k : Nat, k ≤ n ∧ a = .int .i64 (sumF dq k) ∧ i = .int .i64 (k : Int) ∧ Chg w wr (fun _ => False)) (fun _ i _ => (n - intOf i).toNat)
  case atStart => exact ⟨0, by omega, rfl, rfl, Chg.refl _ _⟩
  case round =>
    obtain ⟨k, hk, rfl, rfl, hch⟩ := hrel
    by_cases h : k < n
    · have h' : (k : Int) < (n : Int) := by omega
      have c0 := (hch.cell (World.block_lt_of_cell? w _ (A0.out k h)) (fun h => h)).trans (A0.out k h)
      have c1 := (hch.cell (World.block_lt_of_cell? w _ (A1.out k h)) (fun h => h)).trans (A1.out k h)
      have c2 := (hch.cell (World.block_lt_of_cell? w _ (A2.out k h)) (fun h => h)).trans (A2.out k h)
      have lq : qb k < wr.heap.size := Nat.lt_of_lt_of_le (World.block_lt_of_cell? w _ (A2.out k h)) hch.size
      have e : Hid (wrap64 (sumF dq k + dq k) = sumF dq (k + 1)) := rfl
      have HC : Hid (Chg w wr (fun _ => False)) := hch
      clear hch
      generalize sumF dq k = s at *
      generalize dq k = d at *
      generalize qb k = q at *
      generalize X k = x at *
      go_wp2
      go_roundw
      case rel => exact ⟨k + 1, by omega, by rw [← e.out], by go_num, by first | exact HC.out.alloc _ | (exact (HC.out.alloc _).setCell (.inr HC.out.size) _)⟩
      case measure => simp [intOf]; omega
    · obtain rfl : k = n := by omega
      have HC : Hid (Chg w wr (fun _ => False)) := hch
      clear hch
      go_wp2
      go_ret
      exact ⟨rfl, HC.out⟩
end Go.Proofs.Ybulkdgzo
