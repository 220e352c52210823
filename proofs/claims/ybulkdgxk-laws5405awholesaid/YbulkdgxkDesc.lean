/-
  strictjson.describeValue (function 5) and zzs5405amodel (function 6): the same string.
-/
import Derived.Test.YbulkdgxkProg
import Derived.Test.YbulkdgxkHeap
import Derived.Laws.IdiomStrings
namespace Go.Proofs.Ybulkdgxk
open Go.RowKit

/-- The name of a value, as a list of bytes. -/
def descL (l : List UInt8) : List UInt8 :=
  if (l.headD 0).toNat = 34 then [97, 32, 115, 116, 114, 105, 110, 103]
  else if (l.headD 0).toNat = 91 then [97, 110, 32, 97, 114, 114, 97, 121]
  else if (l.headD 0).toNat = 123 then [97, 110, 32, 111, 98, 106, 101, 99, 116]
  else l

theorem descL_34 (l : List UInt8) (h : (l.headD 0).toNat = 34) : descL l = [97, 32, 115, 116, 114, 105, 110, 103] := by rw [descL, if_pos h]
theorem descL_91 (l : List UInt8) (h : (l.headD 0).toNat = 91) : descL l = [97, 110, 32, 97, 114, 114, 97, 121] := by rw [descL, if_neg (by omega), if_pos h]
theorem descL_123 (l : List UInt8) (h : (l.headD 0).toNat = 123) : descL l = [97, 110, 32, 111, 98, 106, 101, 99, 116] := by rw [descL, if_neg (by omega), if_neg (by omega), if_pos h]
theorem descL_else (l : List UInt8) (h1 : ¬ (l.headD 0).toNat = 34) (h2 : ¬ (l.headD 0).toNat = 91) (h3 : ¬ (l.headD 0).toNat = 123) : descL l = l := by rw [descL, if_neg h1, if_neg h2, if_neg h3]

theorem addr_add (b off j : Nat) : (⟨b, off, none⟩ : Addr).add j = ⟨b, off + j, none⟩ := by simp [Addr.add]
theorem ret_str {l l' : List UInt8} (h : l = l') : Ending.returned (.string ⟨l.toArray⟩) = .returned (.string ⟨l'.toArray⟩) := by rw [h]

theorem info5 : (Yba.prog.info? 5).map (fun i => (i.zero, i.size, i.bytes)) = some (some (.int .u8 0), 1, 1) := by kernel_rfl

theorem made (z : Value) (hz : z.cells = #[z]) (n : Nat) : madeCells z.cells n = Array.replicate n z := by
  rw [hz, madeCells]
  apply Array.ext
  · simp
  · intro i h1 h2; simp [Nat.mod_one]

theorem make_bytes (n : Nat) (hn : n ≤ 1048576) (w : World) : (Instr.makeSlice 22 (.int .i64 (n : Int)) (.int .i64 (n : Int))).run Yba.prog w = .ok (.slice (some ⟨w.heap.size, 0, none⟩) n n) (w.alloc (.cells (List.replicate n (Value.int .u8 0)).toArray 5)) := by
  obtain ⟨i0, hi, hz0, hz1, hz2⟩ := info_parts info5
  have := run_make (P := Yba.prog) w 22 5 i0 (.int .u8 0) Yba.underlying22 hi hz0 .i64 .i64 (n : Int) (n : Int) (by omega) (by omega) (by rw [hz2]; omega) (by omega)
  rw [this, hz1, made _ rfl]
  simp

set_option maxHeartbeats 400000 in
theorem desc_any (b off cap : Nat) (l : List UInt8) (hl : 0 < l.length) (w : World) (hc : ∀ j (hj : j < l.length), w.cell? ⟨b, off + j, none⟩ = some (.int .u8 (l[j].toNat : Int))) :
    Calls Yba.prog 5 #[.slice (some ⟨b, off, none⟩) l.length cap] w fun e w' => e = .returned (.string ⟨(descL l).toArray⟩) ∧ w' = w := by
  have hconv := run_convert_bytes_back (P := Yba.prog) w 22 9 5 ⟨b, off, none⟩ cap l Yba.underlying22 Yba.underlying5 Yba.underlying9 (fun j hj => by rw [addr_add]; exact hc j hj)
  have hd : l.headD 0 = l[0] := by cases l with | nil => simp at hl | cons x r => rfl
  have hc0 : w.cell? ⟨b, off, none⟩ = some (.int .u8 ((l.headD 0).toNat : Int)) := by rw [hd]; simpa using hc 0 hl
  have hl' : (0 : Int) < (l.length : Int) := by omega
  have D34 : Hid ((l.headD 0).toNat = 34 → descL l = [97, 32, 115, 116, 114, 105, 110, 103]) := descL_34 l
  have D91 : Hid ((l.headD 0).toNat = 91 → descL l = [97, 110, 32, 97, 114, 114, 97, 121]) := descL_91 l
  have D123 : Hid ((l.headD 0).toNat = 123 → descL l = [97, 110, 32, 111, 98, 106, 101, 99, 116]) := descL_123 l
  have DE : Hid (¬ (l.headD 0).toNat = 34 → ¬ (l.headD 0).toNat = 91 → ¬ (l.headD 0).toNat = 123 → descL l = l) := descL_else l
  obtain ⟨c, hcd⟩ : ∃ c : Nat, c = (l.headD 0).toNat := ⟨_, rfl⟩
  rw [← hcd] at D34 D91 D123 DE hc0
  clear hcd hd hc
  by_cases h34 : c = 34
  · subst h34
    have := D34.out rfl
    have H : Hid (descL l = [97, 32, 115, 116, 114, 105, 110, 103]) := D34.out rfl
    clear this
    go_enter Yba.func5, Yba.ntmps5
    go_wp2
    go_ret
    exact ⟨ret_str H.out.symm, rfl⟩
  by_cases h91 : c = 91
  · subst h91
    have H : Hid (descL l = _) := D91.out rfl
    go_enter Yba.func5, Yba.ntmps5
    go_wp2
    go_ret
    exact ⟨ret_str H.out.symm, rfl⟩
  by_cases h123 : c = 123
  · subst h123
    have H : Hid (descL l = _) := D123.out rfl
    go_enter Yba.func5, Yba.ntmps5
    go_wp2
    go_ret
    exact ⟨ret_str H.out.symm, rfl⟩
  have H : Hid (descL l = l) := DE.out h34 h91 h123
  have e34 : ((c : Int) == 34) = false := beq_eq_false_iff_ne.2 (by omega)
  have e91 : ((c : Int) == 91) = false := beq_eq_false_iff_ne.2 (by omega)
  have e123 : ((c : Int) == 123) = false := beq_eq_false_iff_ne.2 (by omega)
  go_enter Yba.func5, Yba.ntmps5
  go_wp2
  go_ret
  exact ⟨ret_str H.out.symm, rfl⟩

/-- The first k of l are copied into a row of zeros. -/
def cp (l : List UInt8) (k : Nat) : List Value := (l.take k).map (fun c => Value.int .u8 (c.toNat : Int)) ++ List.replicate (l.length - k) (Value.int .u8 0)
theorem cp_zero (l : List UInt8) : cp l 0 = List.replicate l.length (Value.int .u8 0) := by simp [cp]
theorem cp_len (l : List UInt8) (k : Nat) (h : k ≤ l.length) : (cp l k).length = l.length := by simp [cp]; omega
theorem cp_get (l : List UInt8) (k j : Nat) (h : j < l.length) : ∃ n : Int, (cp l k)[j]? = some (.int .u8 n) := by
  by_cases hk : j < k
  · exact ⟨(l[j].toNat : Int), by rw [cp, List.getElem?_append_left (by simp; omega)]; simp [hk, h]⟩
  · exact ⟨0, by rw [cp, List.getElem?_append_right (by simp; omega), List.getElem?_replicate, if_pos (by simp; omega)]⟩
theorem cp_set (l : List UInt8) (k : Nat) (h : k < l.length) : (cp l k).set k (.int .u8 (l[k].toNat : Int)) = cp l (k + 1) := by
  have e : l.length - k = (l.length - (k + 1)) + 1 := by omega
  have e2 : k - (List.map (fun c : UInt8 => Value.int .u8 (c.toNat : Int)) (List.take k l)).length = 0 := by simp; omega
  unfold cp
  rw [List.set_append_right _ _ (by simp; omega), e, List.replicate_succ, e2, List.set_cons_zero, List.take_succ_eq_append_getElem h, List.map_append, List.append_assoc]
  rfl
theorem cp_all (l : List UInt8) (j : Nat) (h : j < l.length) : (cp l l.length)[j]? = some (.int .u8 (l[j].toNat : Int)) := by simp [cp, h]

set_option maxHeartbeats 400000 in
theorem model_any (b off cap : Nat) (l : List UInt8) (hl : 0 < l.length) (hbig : l.length ≤ 1048576) (w : World) (hc : ∀ j (hj : j < l.length), w.cell? ⟨b, off + j, none⟩ = some (.int .u8 (l[j].toNat : Int))) :
    Calls Yba.prog 6 #[.slice (some ⟨b, off, none⟩) l.length cap] w fun e w' => e = .returned (.string ⟨(descL l).toArray⟩) ∧ Below w.heap.size w w' := by
  have hd : l.headD 0 = l[0] := by cases l with | nil => simp at hl | cons x r => rfl
  have hc0 : w.cell? ⟨b, off, none⟩ = some (.int .u8 ((l.headD 0).toNat : Int)) := by rw [hd]; simpa using hc 0 hl
  have hbw : b < w.heap.size := World.block_lt_of_cell? _ _ hc0
  have hl' : (0 : Int) < (l.length : Int) := by omega
  have D34 : Hid ((l.headD 0).toNat = 34 → descL l = [97, 32, 115, 116, 114, 105, 110, 103]) := descL_34 l
  have D91 : Hid ((l.headD 0).toNat = 91 → descL l = [97, 110, 32, 97, 114, 114, 97, 121]) := descL_91 l
  have D123 : Hid ((l.headD 0).toNat = 123 → descL l = [97, 110, 32, 111, 98, 106, 101, 99, 116]) := descL_123 l
  have DE : Hid (¬ (l.headD 0).toNat = 34 → ¬ (l.headD 0).toNat = 91 → ¬ (l.headD 0).toNat = 123 → descL l = l) := descL_else l
  obtain ⟨c, hcd⟩ : ∃ c : Nat, c = (l.headD 0).toNat := ⟨_, rfl⟩
  rw [← hcd] at D34 D91 D123 DE hc0
  clear hcd hd
  have HC : Hid (∀ j (hj : j < l.length), w.cell? ⟨b, off + j, none⟩ = some (.int .u8 (l[j].toNat : Int))) := hc
  clear hc
  by_cases h34 : c = 34
  · subst h34
    have H : Hid (descL l = _) := D34.out rfl
    go_enter Yba.func6, Yba.ntmps6
    go_wp2
    go_ret
    exact ⟨ret_str H.out.symm, Below.refl _ _⟩
  by_cases h91 : c = 91
  · subst h91
    have H : Hid (descL l = _) := D91.out rfl
    go_enter Yba.func6, Yba.ntmps6
    go_wp2
    go_ret
    exact ⟨ret_str H.out.symm, Below.refl _ _⟩
  by_cases h123 : c = 123
  · subst h123
    have H : Hid (descL l = _) := D123.out rfl
    go_enter Yba.func6, Yba.ntmps6
    go_wp2
    go_ret
    exact ⟨ret_str H.out.symm, Below.refl _ _⟩
  have H : Hid (descL l = l) := DE.out h34 h91 h123
  have e34 : ((c : Int) == 34) = false := beq_eq_false_iff_ne.2 (by omega)
  have e91 : ((c : Int) == 91) = false := beq_eq_false_iff_ne.2 (by omega)
  have e123 : ((c : Int) == 123) = false := beq_eq_false_iff_ne.2 (by omega)
  have hmk := make_bytes l.length hbig
  clear D34 D91 D123 DE h34 h91 h123
  go_enter Yba.func6, Yba.ntmps6
  go_wp2
  clear hmk e34 e91 e123 hc0
  go_loopw [5] (fun i wr => ∃ k : Nat, k ≤ l.length ∧ i = .int .i64 k ∧ Blk wr w.heap.size 5 (cp l k) ∧ Below w.heap.size w wr) (fun i _ => l.length - (intOf i).toNat)
  case atStart => exact ⟨0, Nat.zero_le _, rfl, by rw [cp_zero]; exact Blk.new _ _ _, (Below.refl _ _).alloc (Nat.le_refl _) _⟩
  case round =>
    obtain ⟨k, hk, rfl, hblk, hbel⟩ := hrel
    by_cases hlt : k < l.length
    · have hsrc : wr.cell? ⟨b, off + k, none⟩ = some (.int .u8 (l[k].toNat : Int)) := (hbel.cell (p := ⟨b, off + k, none⟩) hbw).trans (HC.out k hlt)
      obtain ⟨n0, hn0⟩ := cp_get l k k hlt
      have hdst := hblk.cellAt hn0
      have hfr := hblk.free k
      have hB' := (hblk.set k (.int .u8 (l[k].toNat : Int)))
      rw [cp_set l k hlt] at hB'
      have HB : Hid (Blk (wr.setCell ⟨w.heap.size, k, none⟩ (.int .u8 (l[k].toNat : Int))) w.heap.size 5 (cp l (k + 1))) := hB'
      clear hB' hblk hn0
      go_wp2
      go_roundw
      case rel => exact ⟨k + 1, by omega, by go_num, HB.out, hbel.setCell (Nat.le_refl _) _⟩
      case measure => simp [intOf]; omega
    · obtain rfl : k = l.length := by omega
      have hconv := run_convert_bytes_back (P := Yba.prog) wr 22 9 5 ⟨w.heap.size, 0, none⟩ l.length l Yba.underlying22 Yba.underlying5 Yba.underlying9 (fun j hj => by rw [addr_add, Nat.zero_add]; exact hblk.cellAt (cp_all l j hj))
      go_wp2
      go_ret
      exact ⟨ret_str H.out.symm, hbel⟩
end Go.Proofs.Ybulkdgxk
