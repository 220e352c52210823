/-
  dueQueue.add (7) on the nil queue, dueQueue.remove (25) of its one timer.
-/
import Derived.Test.YbulkdgzaQueue
import Derived.Lib.Walk
import Derived.OwnWalk
namespace Go.Proofs.Ybulkdgza
open Go.RowKit B
set_option linter.unusedVariables false
set_option linter.unusedSimpArgs false

theorem info_parts' {t : TypeId} {z : Value} {s b : Nat} (h : (Yba.prog.info? t).map (fun i => (i.zero, i.size, i.bytes)) = some (some z, s, b)) : ∃ i, Yba.prog.info? t = some i ∧ i.zero = some z ∧ i.size = s ∧ i.bytes = b := by
  cases hi : Yba.prog.info? t with
  | none => rw [hi] at h; cases h
  | some i =>
    rw [hi] at h
    simp only [Option.map_some, Option.some.injEq, Prod.mk.injEq] at h
    exact ⟨i, rfl, h.1, h.2.1, h.2.2⟩
theorem info47 : (Yba.prog.info? 47).map (fun i => (i.zero, i.size, i.bytes)) = some (some (.pointer none), 1, 8) := by kernel_rfl

set_option maxHeartbeats 1000000 in
theorem due_remove (Wb g cap : Nat) (w : World) (v' : Option Addr) (hcap : 1 ≤ cap) (c : w.cell? ⟨Wb, 725, none⟩ = some (.slice (some ⟨g, 0, none⟩) 1 cap)) (gc : w.frozen? ⟨Wb, 725, none⟩ = false) (d : w.cell? ⟨g, 0, none⟩ = some (.pointer v')) (gd : w.frozen? ⟨g, 0, none⟩ = false) (hne : ¬ Wb = g) :
    Calls Yba.prog 25 #[.pointer (some ⟨Wb, 725, none⟩), .int .i64 0] w fun e w' => e = .returned (.tuple #[]) ∧ w' = ((w.setCell ⟨g, 0, none⟩ (.pointer v')).setCell ⟨g, 0, none⟩ (.pointer none)).setCell ⟨Wb, 725, none⟩ (.slice (some ⟨g, 0, none⟩) 0 cap) := by
  have hne' : ¬ g = Wb := fun e => hne e.symm
  have hcap' : (0 : Int) ≤ (cap : Int) := by omega
  have hcap2 : ¬ cap = 0 := by omega
  go_enter Yba.func25, Yba.ntmps25
  go_wp2
  go_end0
  exact ⟨rfl, rfl⟩

set_option maxHeartbeats 1000000 in
theorem due_add (Wb Tb : Nat) (f ft : Nat → Value) (w : World) (hW : RowF w Wb 55 729 f) (hT : RowF w Tb 59 12 ft) (hne : ¬ Wb = Tb) (f725 : f 725 = .slice none 0 0) :
    Calls Yba.prog 7 #[.pointer (some ⟨Wb, 725, none⟩), .pointer (some ⟨Tb, 0, none⟩)] w fun e w' => e = .returned (.tuple #[]) ∧ ∃ g cap, 1 ≤ cap ∧ w.heap.size ≤ g ∧ RowF w' g 47 1 (fun _ => PT Tb) ∧ RowF w' Wb 55 729 (upd f 725 (.slice (some ⟨g, 0, none⟩) 1 cap)) ∧ RowF w' Tb 59 12 (upd ft 9 (.int .i32 0)) ∧ Chg w w' (fun j => j = Wb ∨ j = Tb) := by
  obtain ⟨i0, hi, hz0, hz1, hz2⟩ := info_parts' info47
  have hne' : ¬ Tb = Wb := fun e => hne e.symm
  have c := (hW.cell (i := 725) (by omega)).trans (congrArg some f725)
  have gc := hW.free 725
  have c9 := hT.cell (i := 9) (by omega)
  have g9 := hT.free 9
  have lW := hW.lt
  have lT := hT.lt
  have n1 : ¬ Wb = w.heap.size := by omega
  have n2 : ¬ Tb = w.heap.size := by omega
  have HW : Hid (RowF w Wb 55 729 f) := hW
  have HT : Hid (RowF w Tb 59 12 ft) := hT
  clear hW hT f725
  go_enter Yba.func7, Yba.ntmps7
  go_wp2_with (at_builtin; refine wpList_append_own _ rfl _ _ 53 rfl w.heap.size 47 i0 (.pointer none) 1 8 Yba.underlying53 hi hz0 hz1 hz2 rfl (by decide) _ _ _ rfl (World.ownsRow_nil _ _ _ _) ⟨w.heap.size, 0, none⟩ 1 1 [PT Tb] rfl ?qc1 ?qc2 ?qc3 ?qc4 ?qc5 ?qc6 ?_)
  case qc1 => simp
  case qc2 =>
    intro j u hj
    have e : (w.setCell ⟨Tb, 9, none⟩ (.int .i32 0)).heap.size = w.heap.size := by simp [World.setCell]
    have hn := heap_alloc_new (w.setCell ⟨Tb, 9, none⟩ (.int .i32 0)) (.cells #[PT Tb] 47)
    rw [e] at hn
    rw [Addr.add_lit]
    refine (cell_of_row _ _ _ _ _ _ hn).trans ?_
    match j, hj with
    | 0, hj => exact hj
  case qc3 => intro u hu; simp at hu; subst hu; rfl
  case qc4 => unfold maxLen; omega
  case qc5 => omega
  case qc6 => simp
  intro v' w1 hown hgrow hnil
  rcases hown.2 with ⟨hv, _⟩ | ⟨g, cap, cur, rfl, hb, hg, h1, h2, h3, h4⟩
  · exact absurd hv hnil
  have rW : RowF w1 Wb 55 729 f := ((HW.out.other (fun e => hne' e) _).alloc _).grown hgrow (by simp [Value.ownBlock])
  have rT : RowF w1 Tb 59 12 (upd ft 9 (.int .i32 0)) := ((HT.out.set 9 _).alloc _).grown hgrow (by simp [Value.ownBlock])
  have rg : RowF w1 g 47 1 (fun _ => PT Tb) := ⟨cur, hg, by omega, fun i hi => by
    have : i = 0 := by omega
    subst this
    have h5 := congrArg (fun l => l[0]?) h4
    simpa using h5⟩
  have cW : Chg w w1 (fun j => j = Wb ∨ j = Tb) := (((Chg.refl w (fun j => j = Wb ∨ j = Tb)).setCell (.inl (.inr rfl)) _).alloc _).grown hgrow (by simp [Value.ownBlock])
  have k := rW.cell (i := 725) (by omega)
  have gk := rW.free 725
  have gW : ¬ g = Wb := by omega
  have gT : ¬ g = Tb := by omega
  have RW : Hid (RowF w1 Wb 55 729 f ∧ RowF w1 Tb 59 12 (upd ft 9 (.int .i32 0)) ∧ RowF w1 g 47 1 (fun _ => PT Tb) ∧ Chg w w1 (fun j => j = Wb ∨ j = Tb) ∧ 1 ≤ cap ∧ w.heap.size ≤ g) := ⟨rW, rT, rg, cW, by omega, hb⟩
  clear rW rT rg cW hown hgrow hnil h1 h2 h3 h4 hg hb c gc c9 g9 HW HT hi hz0 hz1 hz2 lW lT n1 n2
  go_wp2
  go_end0
  obtain ⟨q1, q2, q3, q4, q5, q6⟩ := RW.out
  exact ⟨rfl, g, cap, q5, q6, q3.other (fun e => gW e.symm) _, q1.set 725 _, q2.other (fun e => hne e) _, q4.setCell (.inl (.inl rfl)) _⟩
end Go.Proofs.Ybulkdgza
