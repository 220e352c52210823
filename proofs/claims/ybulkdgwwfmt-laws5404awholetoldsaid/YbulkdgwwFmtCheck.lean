/-
  checkName (function 7): nil just where the name is good, else a new error.
-/
import Derived.Test.YbulkdgwwFmtOk
import Derived.Laws.IdiomStrings
namespace Go.Proofs.YbulkdgwwFmt
open Go.RowKit Go.Extern.Stop Go.Stop Go.Extern

/-- '[]byte(s)': a new row with the string's bytes. -/
theorem conv (s : ByteArray) (w : World) : ∃ cap w1, (convert 9 35 (.string s)).run Ybaf.prog w = .ok (.slice (some ⟨w.heap.size, 0, none⟩) s.size cap) w1 ∧
    (∀ k, (h : k < s.size) → w1.cell? ⟨w.heap.size, k, none⟩ = some (.int .u8 (s[k].toNat : Int))) ∧ Below w.heap.size w w1 := by
  refine ⟨_, _, run_bytes_of_string w 9 35 5 s Ybaf.underlying9 Ybaf.underlying35 Ybaf.underlying5, fun k h => ?_, (Below.refl _ _).drew.alloc (Nat.le_refl _) _⟩
  have e : w.heap.size = w.drew.heap.size := rfl
  rw [e, World.cell?_alloc_mark]
  exact bytesRow_at s _ k h

/-- What checkName answers. -/
def Said (b : Bool) (w : World) (e : Ending) (w' : World) : Prop :=
  (b = true ∧ e = .returned .nilIface ∧ Below w.heap.size w w') ∨ (b = false ∧ NewErr w e w')

theorem said_new {b : Bool} {w0 w w' : World} {a : Addr} {s : ByteArray} (h : b = false) (hc : w'.cell? a = some (.string s)) (hb' : Below w.heap.size w w') (hb : Below w0.heap.size w0 w) :
    Said b w0 (.returned (.iface 38 (.pointer (some a)))) w' :=
  .inr ⟨h, a, s, rfl, hc, hb.trans (hb'.mono hb.size)⟩

set_option maxHeartbeats 1600000 in
theorem check_any (F : Interp) (s : ByteArray) (w : World) (hF : F.answers w.tape) :
    Calls Ybaf.prog 7 #[.string s] w (Said (okL s) w) := by
  by_cases h1 : s.size < 1
  · have H : Hid (okL s = false) := ok_short s h1
    have hem := empty_yes s h1
    go_enter Ybaf.func7, Ybaf.ntmps7
    go_wp2_with (go_at_call 8; refine (errorf1 F 128 _ _ (by exact hF) (by go_simp)).mono ?_; rintro e w1 ⟨a, t, rfl, hc, hb⟩)
    go_ret
    exact said_new H.out hc hb ((Below.refl _ _).alloc (Nat.le_refl _) _)
  have hem := empty_no s h1
  by_cases h2 : 128 < s.size
  · have h2' : (128 : Int) < s.size := by omega
    have H : Hid (okL s = false) := ok_long s h2
    go_enter Ybaf.func7, Ybaf.ntmps7
    go_wp2_with (go_at_call 8; refine (errorf2 F s.size 128 _ _ (by exact hF) (by go_simp) (by go_simp)).mono ?_; rintro e w1 ⟨a, t, rfl, hc, hb⟩)
    go_ret
    exact said_new H.out hc hb ((Below.refl _ _).alloc (Nat.le_refl _) _)
  have h2' : ¬ (128 : Int) < s.size := by omega
  have h0 : 0 < s.size := by omega
  by_cases h3 : s[0].toNat = 46
  · have h3' : ((s[0].toNat : Int) == 46) = true := by simp [h3]
    have H : Hid (okL s = false) := ok_dot s h0 h3
    clear h3
    go_enter Ybaf.func7, Ybaf.ntmps7
    go_wp2_with (go_at_call 8; refine (errorf3 _).mono ?_; rintro e w1 ⟨a, t, rfl, hc, hb⟩)
    go_ret
    exact said_new H.out hc hb (Below.refl _ _)
  have h3' : ((s[0].toNat : Int) == 46) = false := by simp; omega
  obtain ⟨cap, w1, hrun, hcells, hb1⟩ := conv s w
  have HC : Hid (∀ k, (h : k < s.size) → w1.cell? ⟨w.heap.size, k, none⟩ = some (.int .u8 (s[k].toNat : Int))) := hcells
  clear hcells
  go_enter Ybaf.func7, Ybaf.ntmps7
  go_wp2
  clear hrun
  go_loop [29] (fun i => ∃ k : Nat, k ≤ s.size ∧ i = .int .i64 k ∧ Hid (∀ j, j < k → goodN s[j]!.toNat = true)) (fun i => s.size - (intOf i).toNat)
  case atStart => exact ⟨0, Nat.zero_le _, rfl, fun j hj => by omega⟩
  case round =>
    obtain ⟨k, hk, rfl, hall⟩ := hrel
    by_cases hlt : k < s.size
    · have hcell := HC.out k hlt
      rcases twelve s[k].toNat with hc | hc
      · have hg : Hid (∀ j, j < k + 1 → goodN s[j]!.toNat = true) := good_step s k hlt hall.out (good_yes _ hc)
        rcases hc with hc | hc | hc | hc | hc | hc
        all_goals
          obtain ⟨hc1, hc2⟩ := hc
          first | have d97 : decide ((97 : Int) ≤ (s[k].toNat : Int)) = true := decide_eq_true (by omega) | have d97 : decide ((97 : Int) ≤ (s[k].toNat : Int)) = false := decide_eq_false (by omega)
          first | have d122 : decide ((s[k].toNat : Int) ≤ 122) = true := decide_eq_true (by omega) | have d122 : decide ((s[k].toNat : Int) ≤ 122) = false := decide_eq_false (by omega)
          first | have d65 : decide ((65 : Int) ≤ (s[k].toNat : Int)) = true := decide_eq_true (by omega) | have d65 : decide ((65 : Int) ≤ (s[k].toNat : Int)) = false := decide_eq_false (by omega)
          first | have d90 : decide ((s[k].toNat : Int) ≤ 90) = true := decide_eq_true (by omega) | have d90 : decide ((s[k].toNat : Int) ≤ 90) = false := decide_eq_false (by omega)
          first | have d48 : decide ((48 : Int) ≤ (s[k].toNat : Int)) = true := decide_eq_true (by omega) | have d48 : decide ((48 : Int) ≤ (s[k].toNat : Int)) = false := decide_eq_false (by omega)
          first | have d57 : decide ((s[k].toNat : Int) ≤ 57) = true := decide_eq_true (by omega) | have d57 : decide ((s[k].toNat : Int) ≤ 57) = false := decide_eq_false (by omega)
          first | have e46 : ((s[k].toNat : Int) == 46) = true := beq_iff_eq.2 (by omega) | have e46 : ((s[k].toNat : Int) == 46) = false := beq_eq_false_iff_ne.2 (by omega)
          first | have e95 : ((s[k].toNat : Int) == 95) = true := beq_iff_eq.2 (by omega) | have e95 : ((s[k].toNat : Int) == 95) = false := beq_eq_false_iff_ne.2 (by omega)
          first | have e45 : ((s[k].toNat : Int) == 45) = true := beq_iff_eq.2 (by omega) | have e45 : ((s[k].toNat : Int) == 45) = false := beq_eq_false_iff_ne.2 (by omega)
          clear hc1 hc2
          go_wp2
          go_round
          case rel => exact ⟨k + 1, by omega, by go_num, hg⟩
          case measure => simp [intOf]; omega
      · have hg : Hid (okL s = false) := ok_bad s k hlt (good_no _ hc)
        rcases hc with hc | hc | hc | hc | hc | hc
        all_goals
          (try obtain ⟨hc1, hc2⟩ := hc)
          first | have d97 : decide ((97 : Int) ≤ (s[k].toNat : Int)) = true := decide_eq_true (by omega) | have d97 : decide ((97 : Int) ≤ (s[k].toNat : Int)) = false := decide_eq_false (by omega)
          first | have d122 : decide ((s[k].toNat : Int) ≤ 122) = true := decide_eq_true (by omega) | have d122 : decide ((s[k].toNat : Int) ≤ 122) = false := decide_eq_false (by omega)
          first | have d65 : decide ((65 : Int) ≤ (s[k].toNat : Int)) = true := decide_eq_true (by omega) | have d65 : decide ((65 : Int) ≤ (s[k].toNat : Int)) = false := decide_eq_false (by omega)
          first | have d90 : decide ((s[k].toNat : Int) ≤ 90) = true := decide_eq_true (by omega) | have d90 : decide ((s[k].toNat : Int) ≤ 90) = false := decide_eq_false (by omega)
          first | have d48 : decide ((48 : Int) ≤ (s[k].toNat : Int)) = true := decide_eq_true (by omega) | have d48 : decide ((48 : Int) ≤ (s[k].toNat : Int)) = false := decide_eq_false (by omega)
          first | have d57 : decide ((s[k].toNat : Int) ≤ 57) = true := decide_eq_true (by omega) | have d57 : decide ((s[k].toNat : Int) ≤ 57) = false := decide_eq_false (by omega)
          first | have e46 : ((s[k].toNat : Int) == 46) = true := beq_iff_eq.2 (by omega) | have e46 : ((s[k].toNat : Int) == 46) = false := beq_eq_false_iff_ne.2 (by omega)
          first | have e95 : ((s[k].toNat : Int) == 95) = true := beq_iff_eq.2 (by omega) | have e95 : ((s[k].toNat : Int) == 95) = false := beq_eq_false_iff_ne.2 (by omega)
          first | have e45 : ((s[k].toNat : Int) == 45) = true := beq_iff_eq.2 (by omega) | have e45 : ((s[k].toNat : Int) == 45) = false := beq_eq_false_iff_ne.2 (by omega)
          go_wp2_with (go_at_call 8; refine (errorf4 _).mono ?_; rintro e w2 ⟨a, t, rfl, hcc, hbb⟩)
          go_ret
          exact said_new hg.out hcc hbb hb1
    · have H : Hid (okL s = true) := ok_yes s h0 (by omega) h3 (fun j hj => hall.out j (by omega))
      go_wp2
      go_ret
      exact .inl ⟨H.out, rfl, hb1⟩
end Go.Proofs.YbulkdgwwFmt
