/-
  strictjson.LawS5405AWhole (function 3): it returns true; nothing old has turned.
-/
import Derived.Test.YbulkdgxkDesc
import Derived.Deep.QuietTactic
import Derived.BigQuiet
namespace Go.Proofs.Ybulkdgxk
open Go.RowKit

theorem lawA_none (a : Option Addr) (cap : Nat) (w : World) : Calls Yba.prog 3 #[.slice a 0 cap] w fun e w' => e = .returned (.bool true) ∧ Below w.heap.size w w' := by
  go_enter Yba.func3, Yba.ntmps3
  go_wp2
  go_ret
  exact ⟨rfl, Below.refl _ _⟩

theorem lawA_long (a : Option Addr) (n cap : Nat) (hn : 1048576 < n) (w : World) : Calls Yba.prog 3 #[.slice a n cap] w fun e w' => e = .returned (.bool true) ∧ Below w.heap.size w w' := by
  have h0 : ((n : Int) == 0) = false := beq_eq_false_iff_ne.2 (by omega)
  have h1 : (1048576 : Int) < (n : Int) := by omega
  go_enter Yba.func3, Yba.ntmps3
  go_wp2
  go_ret
  exact ⟨rfl, Below.refl _ _⟩

set_option maxHeartbeats 400000 in
theorem lawA_some (b off cap : Nat) (l : List UInt8) (hl : 0 < l.length) (hbig : l.length ≤ 1048576) (w : World) (hc : ∀ j (hj : j < l.length), w.cell? ⟨b, off + j, none⟩ = some (.int .u8 (l[j].toNat : Int))) :
    Calls Yba.prog 3 #[.slice (some ⟨b, off, none⟩) l.length cap] w fun e w' => e = .returned (.bool true) ∧ Below w.heap.size w w' := by
  have hbw : b < w.heap.size := World.block_lt_of_cell? _ _ (hc 0 hl)
  have HC : Hid (∀ j (hj : j < l.length), w.cell? ⟨b, off + j, none⟩ = some (.int .u8 (l[j].toNat : Int))) := hc
  clear hc
  have h0 : ((l.length : Int) == 0) = false := beq_eq_false_iff_ne.2 (by omega)
  have h1 : ¬ (1048576 : Int) < (l.length : Int) := by omega
  have hmk := make_bytes l.length hbig
  go_enter Yba.func3, Yba.ntmps3
  go_wp2
  clear hmk
  go_loopw [4] (fun i wr => ∃ k : Nat, k ≤ l.length ∧ i = .int .i64 k ∧ Blk wr w.heap.size 5 (cp l k) ∧ Below w.heap.size w wr) (fun i _ => l.length - (intOf i).toNat)
  case atStart => exact ⟨0, Nat.zero_le _, rfl, by rw [cp_zero]; exact Blk.new _ _ _, (Below.refl _ _).alloc (Nat.le_refl _) _⟩
  case round =>
    obtain ⟨k, hk, rfl, hblk, hbel⟩ := hrel
    by_cases hlt : k < l.length
    · have hsrc : wr.cell? ⟨b, off + k, none⟩ = some (.int .u8 (l[k].toNat : Int)) := (hbel.cell (p := ⟨b, off + k, none⟩) hbw).trans (HC.out k hlt)
      obtain ⟨n0, hn0⟩ := cp_get l k k hlt
      have hdst := hblk.cellAt hn0
      have hfr := hblk.free k
      have hB' := (hblk.set k (.int .u8 (l[k].toNat : Int)))
      rw [cp_set l k hlt] at hB'
      have HB : Hid (Blk (wr.setCell ⟨w.heap.size, k, none⟩ (.int .u8 (l[k].toNat : Int))) w.heap.size 5 (cp l (k + 1))) := hB'
      clear hB' hblk hn0
      go_wp2
      go_roundw
      case rel => exact ⟨k + 1, by omega, by go_num, HB.out, hbel.setCell (Nat.le_refl _) _⟩
      case measure => simp [intOf]; omega
    · obtain rfl : k = l.length := by omega
      have HB : Hid (Blk wr w.heap.size 5 (cp l l.length)) := hblk
      clear hblk
      go_wp2_with fail
      refine (desc_any b off cap l hl wr (fun j hj => (hbel.cell (p := ⟨b, off + j, none⟩) hbw).trans (HC.out j hj))).mono ?_
      rintro e w1 ⟨rfl, hw1⟩; subst hw1
      go_wp2_with fail
      refine (model_any w.heap.size 0 l.length l hl hbig w1 (fun j hj => by rw [Nat.zero_add]; exact HB.out.cellAt (cp_all l j hj))).mono ?_
      rintro e w2 ⟨rfl, hb2⟩
      have HB2 : Hid (Blk w2 w.heap.size 5 (cp l l.length)) := HB.out.below hb2 HB.out.lt
      have hbel2 : Below w.heap.size w w2 := hbel.trans (hb2.mono hbel.size)
      clear HB hb2 hbel
      go_wp2
      go_loopw [7] (fun i wq => ∃ k : Nat, k ≤ l.length ∧ i = .int .i64 k ∧ Hid (Blk wq w.heap.size 5 (cp l l.length)) ∧ Below w.heap.size w wq) (fun i _ => l.length - (intOf i).toNat)
      case atStart => exact ⟨0, Nat.zero_le _, rfl, HB2, hbel2⟩
      case round =>
        obtain ⟨k, hk, rfl, HB3, hbel3⟩ := hrel
        clear HB2 hbel2
        by_cases hlt : k < l.length
        · have hsrc : wr.cell? ⟨b, off + k, none⟩ = some (.int .u8 (l[k].toNat : Int)) := (hbel3.cell (p := ⟨b, off + k, none⟩) hbw).trans (HC.out k hlt)
          have hdst : wr.cell? ⟨w.heap.size, k, none⟩ = some (.int .u8 (l[k].toNat : Int)) := HB3.out.cellAt (cp_all l k hlt)
          have hlt' : (k : Int) < (l.length : Int) := by omega
          go_wp2
          go_quiet (fail)
          go_wp2
          go_roundw
          case rel => exact ⟨k + 1, by omega, by go_num, HB3, below_drewN hbel3 _⟩
          case measure => simp [intOf]; omega
        · go_wp2
          go_ret
          exact ⟨rfl, hbel3⟩
end Go.Proofs.Ybulkdgxk
