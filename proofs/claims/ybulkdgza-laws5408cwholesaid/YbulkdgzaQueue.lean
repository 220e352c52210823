/-
  Wheel.wakeFor (43), Wheel.queue (27).
-/
import Derived.Test.YbulkdgzaSmall
import Derived.Test.YbulkdgzaRemove
namespace Go.Proofs.Ybulkdgza
open Go.RowKit B
set_option linter.unusedVariables false
set_option linter.unusedSimpArgs false

set_option maxHeartbeats 400000 in
/-- No driver: nothing to wake. -/
theorem wake_any (Wb Tb : Nat) (w : World) (c5 : w.cell? ⟨Wb, 5, none⟩ = some (.pointer none)) :
    Calls Yba.prog 43 #[.pointer (some ⟨Wb, 0, none⟩), .pointer (some ⟨Tb, 0, none⟩)] w fun e w' => e = .returned (.tuple #[]) ∧ ∃ q, w' = w.drewN q := by
  go_enter Yba.func43, Yba.ntmps43
  go_wp2
  go_region
  go_wp2
  first | go_end0 | (refine bodyPost_ret (v := .tuple #[]) (by simp [results, Yba.results43, go_sem]) rfl ?_)
  exact ⟨rfl, 1, rfl⟩

theorem upd_ne (f : Nat → Value) (i : Nat) (v : Value) (j : Nat) (h : ¬ j = i) : upd f i v j = f j := by unfold upd; rw [if_neg h]
theorem upd_eq (f : Nat → Value) (i : Nat) (v : Value) : upd f i v i = v := by unfold upd; rw [if_pos rfl]
/-- What queue does to the timer ahead of add. -/
def armT (ft : Nat → Value) (dl : Int) (n : Nat) (seq : Int) : Nat → Value := upd (upd (upd (upd ft 4 (.int .i64 dl)) 5 (.int .i64 n)) 6 (.int .u64 seq)) 10 (.int .u8 1)

set_option maxHeartbeats 1000000 in
/-- queue, whatever add does. -/
theorem queue_core (Wb Tb tick due : Nat) (st dl seq p : Int) (f ft : Nat → Value) (w : World) (f1 t1 : Nat → Value) (G : World → Prop) (hW : RowF w Wb 55 729 f) (hT : RowF w Tb 59 12 ft) (hne : ¬ Wb = Tb)
    (ht : 0 < tick) (ht2 : tick ≤ 9223372036854775807) (hd : due ≤ 9223372036854775807) (hm : max st dl = (due : Int)) (fk : f 4 = .int .i64 tick) (fp : f1 726 = .int .i64 p) (fd : f1 5 = .pointer none) (hp : 0 ≤ p) (hp2 : p ≤ 1000)
    (HA : Hid (∀ W, RowF W Wb 55 729 f → RowF W Tb 59 12 (armT ft dl (ftV tick due) seq) → Chg w W (fun j => j = Tb) → Calls Yba.prog 6 #[.pointer (some ⟨Wb, 9, none⟩), .pointer (some ⟨Tb, 0, none⟩)] W fun e W' => e = .returned (.tuple #[]) ∧ RowF W' Wb 55 729 f1 ∧ RowF W' Tb 59 12 t1 ∧ G W'))
    (HG : Hid (∀ W v, G W → G (W.setCell ⟨Wb, 726, none⟩ v))) (HGd : Hid (∀ W q, G W → G (W.drewN q))) :
    Calls Yba.prog 27 #[.pointer (some ⟨Wb, 0, none⟩), .pointer (some ⟨Tb, 0, none⟩), .int .i64 st, .int .i64 dl, .int .u64 seq] w fun e w' => e = .returned (.tuple #[]) ∧ RowF w' Wb 55 729 (upd f1 726 (.int .i64 (p + 1))) ∧ RowF w' Tb 59 12 t1 ∧ G w' := by
  have hne' : ¬ Tb = Wb := fun e => hne e.symm
  have c4 := hT.cell (i := 4) (by omega)
  have g4 := hT.free 4
  have k4 := (hW.cell (i := 4) (by omega)).trans (congrArg some fk)
  have r1 : RowF (w.setCell ⟨Tb, 4, none⟩ (.int .i64 dl)) Tb 59 12 (upd ft 4 (.int .i64 dl)) := hT.set 4 _
  have q1 : RowF (w.setCell ⟨Tb, 4, none⟩ (.int .i64 dl)) Wb 55 729 f := hW.other (fun e => hne' e) _
  have HC1 : Hid (Chg w (w.setCell ⟨Tb, 4, none⟩ (.int .i64 dl)) (fun j => j = Tb)) := (Chg.refl w (fun j => j = Tb)).setCell (.inl rfl) _
  have hf := fire_any tick due st dl (w.setCell ⟨Tb, 4, none⟩ (.int .i64 dl)) ht ht2 hd hm
  have HR1 : Hid (RowF (w.setCell ⟨Tb, 4, none⟩ (.int .i64 dl)) Tb 59 12 (upd ft 4 (.int .i64 dl))) := r1
  have HQ1 : Hid (RowF (w.setCell ⟨Tb, 4, none⟩ (.int .i64 dl)) Wb 55 729 f) := q1
  have HF : Hid (Calls Yba.prog 42 #[.agg #[.int .i64 tick], .int .i64 st, .int .i64 dl] (w.setCell ⟨Tb, 4, none⟩ (.int .i64 dl)) fun e w' => e = .returned (.int .i64 (ftV tick due)) ∧ Chg (w.setCell ⟨Tb, 4, none⟩ (.int .i64 dl)) w' (fun _ => False)) := hf
  clear hf r1 q1 ht ht2 hd hm fk hW hT
  generalize ftV tick due = n at *
  go_enter Yba.func27, Yba.ntmps27
  go_wp2_with fail
  refine Calls.mono HF.out ?_
  rintro e w2 ⟨rfl, hc2⟩
  have r2 := HR1.out.chg hc2 (fun h => h)
  have q2 := HQ1.out.chg hc2 (fun h => h)
  have C2 : Hid (Chg w w2 (fun j => j = Tb)) := HC1.out.trans (hc2.mono (fun _ _ h => h.elim))
  have c5 := r2.cell (i := 5) (by omega)
  have c6 := r2.cell (i := 6) (by omega)
  have c10 := r2.cell (i := 10) (by omega)
  have g5 := r2.free 5
  have g6 := r2.free 6
  have g10 := r2.free 10
  have R2 : Hid (RowF w2 Tb 59 12 (upd ft 4 (.int .i64 dl))) := r2
  have Q2 : Hid (RowF w2 Wb 55 729 f) := q2
  clear r2 q2 HF HR1 HQ1 HC1 hc2 c4 g4 k4
  go_wp2_with fail
  refine Calls.mono (HA.out _ (((Q2.out.other (fun e => hne' e) _).other (fun e => hne' e) _).other (fun e => hne' e) _) (((R2.out.set 5 _).set 6 _).set 10 _) (((C2.out.setCell (.inl rfl) _).setCell (.inl rfl) _).setCell (.inl rfl) _)) ?_
  rintro e w3 ⟨rfl, r3, s3, g3⟩
  have k726 := (r3.cell (i := 726) (by omega)).trans (congrArg some fp)
  have g726 := r3.free 726
  have R3 : Hid (RowF w3 Wb 55 729 f1) := r3
  have S3 : Hid (RowF w3 Tb 59 12 t1) := s3
  have G3 : Hid (G w3) := g3
  have k5 : (w3.setCell ⟨Wb, 726, none⟩ (.int .i64 (p + 1))).cell? ⟨Wb, 5, none⟩ = some (.pointer none) := ((r3.set 726 (.int .i64 (p + 1))).cell (i := 5) (by omega)).trans (congrArg some ((upd_ne _ _ _ _ (by omega)).trans fd))
  have HWk := wake_any Wb Tb (w3.setCell ⟨Wb, 726, none⟩ (.int .i64 (p + 1))) k5
  have HK : Hid _ := HWk
  clear r3 s3 g3 k5 HWk R2 Q2 C2 c5 c6 c10 g5 g6 g10 fp fd
  go_wp2_with fail
  refine Calls.mono HK.out ?_
  rintro e w4 ⟨rfl, q, rfl⟩
  clear HK
  go_wp2
  go_end0
  exact ⟨rfl, (R3.out.set 726 _).drewN q, (S3.out.other (fun e => hne e) _).drewN q, HGd.out _ q (HG.out _ _ G3.out)⟩
end Go.Proofs.Ybulkdgza
