/-
  zzs5408cnn (4), zzs5408cplace (9), deadlineOf (28), fireTick (42).
-/
import Derived.Test.YbulkdgzaSub
namespace Go.Proofs.Ybulkdgza
open Go.RowKit B
set_option linter.unusedVariables false
set_option linter.unusedSimpArgs false

/-- Not negative. -/
def nnV (x : Int) : Int := if x < 0 then -(x + 1) else x
theorem nnV_bd (x : Int) (h1 : -9223372036854775808 ≤ x) (h2 : x ≤ 9223372036854775807) : 0 ≤ nnV x ∧ nnV x ≤ 9223372036854775807 := by unfold nnV; split <;> omega
theorem nn_arith (x : Int) (h1 : -9223372036854775808 ≤ x) (h : x < 0) : wrap64 (x + 1) = x + 1 ∧ wrap64 (-(x + 1)) = -(x + 1) := by unfold wrap64; omega
theorem nn_any (x : Int) (w : World) (h1 : -9223372036854775808 ≤ x) (h2 : x ≤ 9223372036854775807) : Calls Yba.prog 4 #[.int .i64 x] w fun e w' => e = .returned (.int .i64 (nnV x)) ∧ w' = w := by
  unfold nnV
  by_cases h : x < 0
  · obtain ⟨e1, e2⟩ := nn_arith x h1 h
    rw [if_pos h]
    clear h1 h2
    go_enter Yba.func4, Yba.ntmps4
    go_wp2
    go_ret
    exact ⟨congrArg (fun z => Ending.returned (Value.int .i64 z)) e2, rfl⟩
  · rw [if_neg h]
    clear h1 h2
    go_enter Yba.func4, Yba.ntmps4
    go_wp2
    go_ret
    exact ⟨rfl, rfl⟩

/-- The deadline. -/
def dlV (st d : Int) : Int := if 9223372036854775807 - st < d then 9223372036854775807 else st + d
theorem dl_arith (st d : Int) (h1 : 0 ≤ st) (h2 : st ≤ 9223372036854775807) (h3 : -9223372036854775808 ≤ d) : wrap64 (9223372036854775807 - st) = 9223372036854775807 - st ∧ (¬ 9223372036854775807 - st < d → wrap64 (st + d) = st + d) := by
  unfold wrap64; omega
theorem deadline_any (st d : Int) (w : World) (h1 : 0 ≤ st) (h2 : st ≤ 9223372036854775807) (h3 : -9223372036854775808 ≤ d) : Calls Yba.prog 28 #[.int .i64 st, .int .i64 d] w fun e w' => e = .returned (.int .i64 (dlV st d)) ∧ w' = w := by
  obtain ⟨e1, e2⟩ := dl_arith st d h1 h2 h3
  unfold dlV
  by_cases h : 9223372036854775807 - st < d
  · rw [if_pos h]
    clear h1 h2 h3 e2
    go_enter Yba.func28, Yba.ntmps28
    go_wp2
    go_ret
    exact ⟨rfl, rfl⟩
  · rw [if_neg h]
    have e3 := e2 h
    clear h1 h2 h3 e2
    go_enter Yba.func28, Yba.ntmps28
    go_wp2
    go_ret
    exact ⟨by first | rfl | (rw [e3]), rfl⟩

/-- The tick at which it fires: the quotient, up. -/
def ftV (tick due : Nat) : Nat := if due % tick = 0 then due / tick else due / tick + 1
set_option maxHeartbeats 400000 in
theorem fire_any (tick due : Nat) (st dl : Int) (w : World) (ht : 0 < tick) (ht2 : tick ≤ 9223372036854775807) (hd : due ≤ 9223372036854775807) (hm : max st dl = (due : Int)) :
    Calls Yba.prog 42 #[.agg #[.int .i64 tick], .int .i64 st, .int .i64 dl] w fun e w' => e = .returned (.int .i64 (ftV tick due)) ∧ Chg w w' (fun _ => False) := by
  have q0 : ((tick : Int) == 0) = false := by simp; omega
  have q1 : (due : Int).tdiv (tick : Int) = ((due / tick : Nat) : Int) := by rw [Int.tdiv_eq_ediv_of_nonneg (by omega)]; rfl
  have q2 : (due : Int).tmod (tick : Int) = ((due % tick : Nat) : Int) := by rw [Int.tmod_eq_emod_of_nonneg (by omega)]; rfl
  have hle : due / tick ≤ due := Nat.div_le_self _ _
  have hle2 : due % tick ≠ 0 → due / tick + 1 ≤ 9223372036854775807 := fun h => by
    have h1 : 1 < tick := by
      rcases Nat.lt_or_ge 1 tick with h1 | h1
      · exact h1
      · have : tick = 1 := by omega
        subst this; exact absurd (Nat.mod_one due) h
    have h2 : due / tick ≤ due / 2 := Nat.div_le_div_left h1 (by omega)
    omega
  unfold ftV
  have hmod : due % tick < tick := Nat.mod_lt _ ht
  generalize due / tick = qq at *
  generalize hr : due % tick = rr at *
  have q3 : IntKind.i64.wrap (qq : Int) = (qq : Int) := by rw [IntKind.wrap_i64]; omega
  have q4 : IntKind.i64.wrap (rr : Int) = (rr : Int) := by rw [IntKind.wrap_i64]; omega
  by_cases h : rr = 0
  · subst h
    rw [if_pos rfl]
    clear hr hle2 ht2 hd
    go_enter Yba.func42, Yba.ntmps42
    go_wp2
    go_ret
    exact ⟨rfl, (Chg.refl _ _).alloc _⟩
  · have h' : ((rr : Int) == 0) = false := by simp; omega
    have q5 : wrap64 ((qq : Int) + 1) = ((qq + 1 : Nat) : Int) := by
      have e : ((qq : Int) + 1) = ((qq + 1 : Nat) : Int) := by simp
      rw [e]; exact wrap64_nat _ (by have := hle2 h; omega)
    rw [if_neg h]
    clear hr hle2 ht2 hd
    go_enter Yba.func42, Yba.ntmps42
    go_wp2
    go_ret
    exact ⟨congrArg (fun z => Ending.returned (Value.int .i64 z)) q5, (Chg.refl _ _).alloc _⟩

theorem lev_at (x l : Nat) (h1 : x / 64 ^ (l + 1) = 0) (h2 : l = 0 ∨ x / 64 ^ l ≠ 0) : lev x 0 = l := by
  rw [lev_iff]
  refine ⟨by rw [h1]; simp, ?_⟩
  rcases h2 with h2 | h2
  · exact .inl h2
  · exact .inr (by simpa using h2)
set_option maxHeartbeats 400000 in
theorem place_any (x : Nat) (w : World) (hx : x < 9223372036854775808) :
    Calls Yba.prog 9 #[.int .i64 x] w fun e w' => e = .returned (.tuple #[.int .i64 (lev x 0), .int .i64 (slot x (lev x 0))]) ∧ w' = w := by
  have hw : IntKind.u64.wrap (x : Int) = (x : Int) := by rw [IntKind.wrap_u64]; omega
  have HL : Hid (∀ l, x / 64 ^ (l + 1) = 0 → (l = 0 ∨ x / 64 ^ l ≠ 0) → lev x 0 = l) := fun l h1 h2 => lev_at x l h1 h2
  have HD : Hid (∀ l, bits .and .i64 (wrap64 ((x : Int) / 2 ^ (l * 6))) 63 = (slot x l : Int)) := fun l => by
    have hd : x / 64 ^ l < 9223372036854775808 := Nat.lt_of_le_of_lt (Nat.div_le_self _ _) hx
    rw [div_cast, wrap64_nat _ hd, i64_and63]; rfl
  have H11 : Hid (x / 64 ^ 11 = 0) := Nat.div_eq_of_lt (Nat.lt_of_lt_of_le hx (by decide))
  have HE : Hid (∀ l, (x : Int) / 2 ^ ((l + 1) * 6) = ((x / 64 ^ (l + 1) : Nat) : Int)) := fun l => div_cast x (l + 1)
  clear hx
  go_enter Yba.func9, Yba.ntmps9
  go_wp2
  go_loopw [5] (fun i wr => ∃ l : Nat, l ≤ 10 ∧ i = .int .i64 (l : Int) ∧ (l = 0 ∨ x / 64 ^ l ≠ 0) ∧ wr = w) (fun i _ => (10 - intOf i).toNat)
  case atStart => exact ⟨0, by omega, rfl, .inl rfl, rfl⟩
  case round =>
    obtain ⟨l, hl, rfl, hl0, rfl⟩ := hrel
    have HL0 : Hid (l = 0 ∨ x / 64 ^ l ≠ 0) := hl0
    clear hl0
    have q := HE.out l
    by_cases h10 : l = 10
    · subst h10
      have E1 : Hid (lev x 0 = 10) := HL.out 10 H11.out HL0.out
      have d : bits .and .i64 (wrap64 ((x : Int) / 1152921504606846976)) 63 = (slot x 10 : Int) := by have := HD.out 10; rw [show ((2 : Int) ^ (10 * 6)) = 1152921504606846976 from by decide] at this; exact this
      clear q
      go_wp2
      refine bodyPost_ret (v := .tuple #[.int .i64 10, .int .i64 (slot x 10)]) (by simp [results, Yba.results9, go_sem]) rfl ?_
      exact ⟨by rw [E1.out]; rfl, rfl⟩
    · have h' : (l : Int) < 10 := by omega
      by_cases hz : x / 64 ^ (l + 1) = 0
      · have E1 : Hid (lev x 0 = l) := HL.out l hz HL0.out
        have d := HD.out l
        rw [hz] at q
        go_wp2
        refine bodyPost_ret (v := .tuple #[.int .i64 l, .int .i64 (slot x l)]) (by simp [results, Yba.results9, go_sem]) rfl ?_
        exact ⟨by rw [E1.out], rfl⟩
      · have HZ : Hid (x / 64 ^ (l + 1) ≠ 0) := hz
        generalize x / 64 ^ (l + 1) = y at q hz
        have hz' : ((y : Int) == 0) = false := by simp; omega
        go_wp2
        go_roundw
        case rel => exact ⟨l + 1, by omega, by go_num, .inr HZ.out, by first | rfl | trivial⟩
        case measure => simp [intOf]; omega
end Go.Proofs.Ybulkdgza
