/-
  The callees of LawS5409AWhole: slices.Clone (5), slices.Equal (7) at []int64; queueView.dequeued (6).
-/
import Derived.Test.YbulkdgzoProg
import Derived.Test.YbulkdgzoHeap
import Derived.WalkKit
import Derived.WalkSpells
import Derived.WalkLawsBesides
import Derived.Deep.LoopGhost
import Derived.Deep.QuietTactic
import Derived.BigFrame
import Derived.Lib.Walk
import Derived.Lib.SliceRun
import Derived.OwnWalk
namespace Go.Proofs.Ybulkdgzo
open Go.RowKit
set_option linter.unusedVariables false
set_option linter.unusedSimpArgs false

theorem info_parts' {t : TypeId} {z : Value} {s b : Nat} (h : (Yba.prog.info? t).map (fun i => (i.zero, i.size, i.bytes)) = some (some z, s, b)) : ∃ i, Yba.prog.info? t = some i ∧ i.zero = some z ∧ i.size = s ∧ i.bytes = b := by
  cases hi : Yba.prog.info? t with
  | none => rw [hi] at h; cases h
  | some i =>
    rw [hi] at h
    simp only [Option.map_some, Option.some.injEq, Prod.mk.injEq] at h
    exact ⟨i, rfl, h.1, h.2.1, h.2.2⟩
theorem info2 : (Yba.prog.info? 2).map (fun i => (i.zero, i.size, i.bytes)) = some (some (.int .i64 0), 1, 8) := by kernel_rfl

theorem clone_nil (n c : Nat) (w : World) : Calls Yba.prog 5 #[.slice none n c] w fun e w' => e = .returned (.slice none 0 0) ∧ w' = w := by
  have q : ∀ (w : World) (a : Option Addr) (n c n' c' : Nat), (binOp .eql 23 (.slice a n c) (.slice none n' c')).run Yba.prog w = .ok (.bool a.isNone) w := fun w a n c n' c' => Lib.run_eql_slice_nil w _ _ a n c n' c' Yba.underlying23
  go_enter Yba.func5, Yba.ntmps5
  go_wp2
  go_ret
  exact ⟨rfl, rfl⟩

set_option maxHeartbeats 2000000 in
/-- A copy, in memory of the call's own. -/
theorem clone_some (ad : Addr) (n c : Nat) (f : Nat → Int) (w : World) (hbig : n ≤ 1048576) (hc : ∀ j, j < n → w.cell? (ad.add j) = some (.int .i64 (f j))) :
    Calls Yba.prog 5 #[.slice (some ad) n c] w fun e w' => ∃ v', e = .returned v' ∧ w'.ownsRow w.heap.size 2 1 v' n ((List.range n).map (fun j => Value.int .i64 (f j))) ∧ Below w.heap.size w w' := by
  obtain ⟨i0, hi, hz0, hz1, hz2⟩ := info_parts' info2
  have q : ∀ (w : World) (a : Option Addr) (n c n' c' : Nat), (binOp .eql 23 (.slice a n c) (.slice none n' c')).run Yba.prog w = .ok (.bool a.isNone) w := fun w a n c n' c' => Lib.run_eql_slice_nil w _ _ a n c n' c' Yba.underlying23
  have A : Aside (∀ j, j < n → w.cell? (ad.add j) = some (.int .i64 (f j))) := hc
  clear hc
  go_enter Yba.func5, Yba.ntmps5
  go_wp2_with (at_builtin; refine wpList_append_own _ rfl _ _ 23 rfl w.heap.size 2 i0 (.int .i64 0) 1 8 Yba.underlying23 hi hz0 hz1 hz2 rfl (by decide) _ _ _ rfl (World.ownsRow_made w #[] 0 (Nat.le_refl _) (Nat.zero_le _) rfl) ad n c ((List.range n).map (fun j => Value.int .i64 (f j))) rfl ?qc1 ?qc2 ?qc3 ?qc4 ?qc5 ?qc6 ?_)
  case qc1 => simp
  case qc2 =>
    intro j u hj
    have hjn : j < n := by
      have := (List.getElem?_eq_some_iff.1 hj).1
      simpa using this
    refine Lib.cell?_alloc_some _ ?_
    rw [A.out j hjn]
    simp [hjn] at hj
    rw [← hj]
  case qc3 => intro u hu; obtain ⟨x, _, rfl⟩ := List.mem_map.1 hu; rfl
  case qc4 => unfold maxLen; omega
  case qc5 => omega
  case qc6 => simp
  intro v' w1 hown hgrow hnil
  go_wp2
  go_ret
  refine ⟨v', rfl, by simpa using hown, ?_⟩
  exact ((Below.refl _ w).alloc (Nat.le_refl _) _).grown hgrow (by simp) (by intro k hk; simp [Value.ownBlock] at hk; omega)

set_option maxHeartbeats 1000000 in
/-- Two rows of the same numbers are equal. -/
theorem equal_same (a a' : Option Addr) (n c c' : Nat) (f : Nat → Int) (w : World) (hn : n ≤ 1048576) (h1 : 0 < n → ∃ b o, a = some ⟨b, o, none⟩ ∧ ∀ j, j < n → w.cell? ⟨b, o + j, none⟩ = some (.int .i64 (f j))) (h2 : 0 < n → ∃ b o, a' = some ⟨b, o, none⟩ ∧ ∀ j, j < n → w.cell? ⟨b, o + j, none⟩ = some (.int .i64 (f j))) :
    Calls Yba.prog 7 #[.slice a n c, .slice a' n c'] w fun e w' => e = .returned (.bool true) ∧ ∃ q, w' = w.drewN q := by
  by_cases h0 : n = 0
  · subst h0
    clear h1 h2
    go_enter Yba.func7, Yba.ntmps7
    go_wp2
    go_loopw [13] (fun i wr => i = .int .i64 0 ∧ wr = w) (fun i _ => 0)
    case atStart => exact ⟨rfl, rfl⟩
    case round =>
      obtain ⟨rfl, rfl⟩ := hrel
      go_wp2
      go_ret
      exact ⟨rfl, 0, rfl⟩
  · obtain ⟨b, o, rfl, hb⟩ := h1 (by omega)
    obtain ⟨b', o', rfl, hb'⟩ := h2 (by omega)
    have A1 : Hid (∀ j, j < n → w.cell? ⟨b, o + j, none⟩ = some (.int .i64 (f j))) := hb
    have A2 : Hid (∀ j, j < n → w.cell? ⟨b', o' + j, none⟩ = some (.int .i64 (f j))) := hb'
    clear hb hb' h1 h2
    go_enter Yba.func7, Yba.ntmps7
    go_wp2
    go_loopw [13] (fun i wr => ∃ k q : Nat, k ≤ n ∧ i = .int .i64 (k : Int) ∧ wr = w.drewN q) (fun i _ => (n - intOf i).toNat)
    case atStart => exact ⟨0, 0, by omega, rfl, rfl⟩
    case round =>
      obtain ⟨k, q, hk, rfl, hwr⟩ := hrel
      by_cases h : k < n
      · have h' : (k : Int) < (n : Int) := by omega
        have c1 : wr.cell? ⟨b, o + k, none⟩ = some (.int .i64 (f k)) := by rw [hwr]; exact A1.out k h
        have c2 : wr.cell? ⟨b', o' + k, none⟩ = some (.int .i64 (f k)) := by rw [hwr]; exact A2.out k h
        have HW : Hid (wr = w.drewN q) := hwr
        clear hwr
        generalize f k = fk at *
        go_wp2
        go_quiet (fail)
        go_wp2
        go_roundw
        case rel => exact ⟨k + 1, q + nq, by omega, by go_num, by rw [HW.out, World.drewN_drewN]⟩
        case measure => simp [intOf]; omega
      · obtain rfl : k = n := by omega
        have HW : Hid (wr = w.drewN q) := hwr
        clear hwr
        go_wp2
        go_ret
        exact ⟨rfl, q, HW.out⟩
end Go.Proofs.Ybulkdgzo
