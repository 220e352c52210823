/-
  CheckName (function 6) and NewPath (function 4).
-/
import Derived.Test.YbulkdgwwFmtCheck
namespace Go.Proofs.YbulkdgwwFmt
open Go.RowKit Go.Extern.Stop Go.Stop Go.Extern

theorem check_ok (F : Interp) (s : ByteArray) (w : World) (hF : F.answers w.tape) (h : Hid (okL s = true)) :
    Calls Ybaf.prog 7 #[.string s] w fun e w' => e = .returned .nilIface ∧ Below w.heap.size w w' :=
  (check_any F s w hF).mono fun e w' hs => by
    rcases hs with ⟨_, he, hb⟩ | ⟨hf, _⟩
    · exact ⟨he, hb⟩
    · rw [h.out] at hf; cases hf
theorem check_bad (F : Interp) (s : ByteArray) (w : World) (hF : F.answers w.tape) (h : Hid (okL s = false)) :
    Calls Ybaf.prog 7 #[.string s] w (NewErr w) :=
  (check_any F s w hF).mono fun e w' hs => by
    rcases hs with ⟨hf, _⟩ | ⟨_, hn⟩
    · rw [h.out] at hf; cases hf
    · exact hn

theorem name_ok (F : Interp) (k s : ByteArray) (w : World) (hF : F.answers w.tape) (h : Hid (okL s = true)) :
    Calls Ybaf.prog 6 #[.string k, .string s] w fun e w' => e = .returned .nilIface ∧ Below w.heap.size w w' := by
  go_enter Ybaf.func6, Ybaf.ntmps6
  go_wp2_with (go_at_call 7; refine (check_ok F _ _ (by exact hF) h).mono ?_; rintro e w1 ⟨rfl, hb⟩)
  go_ret
  exact ⟨rfl, hb⟩
theorem name_bad (F : Interp) (k s : ByteArray) (w : World) (hF : F.answers w.tape) (h : Hid (okL s = false)) :
    Calls Ybaf.prog 6 #[.string k, .string s] w (NewErr w) := by
  go_enter Ybaf.func6, Ybaf.ntmps6
  go_wp2_with (first | (go_at_call 7; refine (check_bad F _ _ (by exact hF) h).mono ?_; rintro e w1 ⟨a, t, rfl, hc, hb⟩; have hF1 : F.answers w1.tape := (by rw [hb.tape]; exact hF)) | (go_at_call 8; refine (errorf0 F k s a t _ _ (by exact hF1) (by go_simp) (by go_simp) (by go_simp) (by exact cell_later ((Below.refl _ _).alloc (Nat.le_refl _) _) hc)).mono ?_; rintro e w2 ⟨a2, t2, rfl, hc2, hb2⟩))
  go_ret
  exact ⟨_, _, rfl, hc2, hb.trans (((Below.refl _ _).alloc hb.size _).trans (hb2.mono (by have := hb.size; simp; omega)))⟩

/-- What the loop's rounds find: the result's three empty cells, free to be written; the slice of pairs. -/
structure Laid (B : Nat) (s0 s1 s2 : ByteArray) (w : World) : Prop where
  r0 : w.cell? ⟨B, 0, none⟩ = some (.string ⟨#[]⟩)
  r1 : w.cell? ⟨B, 1, none⟩ = some (.string ⟨#[]⟩)
  r2 : w.cell? ⟨B, 2, none⟩ = some (.string ⟨#[]⟩)
  f0 : w.frozen? ⟨B, 0, none⟩ = false
  f1 : w.frozen? ⟨B, 1, none⟩ = false
  f2 : w.frozen? ⟨B, 2, none⟩ = false
  c0 : w.cell? ⟨B + 1, 0, none⟩ = some (.string ⟨#[99, 111, 110, 116, 97, 105, 110, 101, 114]⟩)
  c1 : w.cell? ⟨B + 1, 1, none⟩ = some (.string s0)
  c2 : w.cell? ⟨B + 1, 2, none⟩ = some (.string ⟨#[99, 111, 110, 102, 105, 103]⟩)
  c3 : w.cell? ⟨B + 1, 3, none⟩ = some (.string s1)
  c4 : w.cell? ⟨B + 1, 4, none⟩ = some (.string ⟨#[107, 101, 121]⟩)
  c5 : w.cell? ⟨B + 1, 5, none⟩ = some (.string s2)

theorem Laid.below {B : Nat} {s0 s1 s2 : ByteArray} {W w1 : World} (h : Laid B s0 s1 s2 W) (hb : Below W.heap.size W w1) (hB : B + 1 < W.heap.size) : Laid B s0 s1 s2 w1 := by
  have hB' : B < W.heap.size := by omega
  constructor
  · exact (hb.cell hB').trans h.r0
  · exact (hb.cell hB').trans h.r1
  · exact (hb.cell hB').trans h.r2
  · exact (hb.frozen hB').trans h.f0
  · exact (hb.frozen hB').trans h.f1
  · exact (hb.frozen hB').trans h.f2
  · exact (hb.cell hB).trans h.c0
  · exact (hb.cell hB).trans h.c1
  · exact (hb.cell hB).trans h.c2
  · exact (hb.cell hB).trans h.c3
  · exact (hb.cell hB).trans h.c4
  · exact (hb.cell hB).trans h.c5

theorem laid_start (s0 s1 s2 : ByteArray) (w : World) : Laid w.heap.size s0 s1 s2 ((w.alloc (.cells #[.string ⟨#[]⟩, .string ⟨#[]⟩, .string ⟨#[]⟩] 23)).alloc (.cells #[.string ⟨#[99, 111, 110, 116, 97, 105, 110, 101, 114]⟩, .string s0, .string ⟨#[99, 111, 110, 102, 105, 103]⟩, .string s1, .string ⟨#[107, 101, 121]⟩, .string s2] 30)) := by
  constructor <;> go_simp

set_option maxHeartbeats 1000000 in
theorem new_ok (F : Interp) (s0 s1 s2 : ByteArray) (w : World) (hF : F.answers w.tape) (h0 : Hid (okL s0 = true)) (h1 : Hid (okL s1 = true)) (h2 : Hid (okL s2 = true)) :
    Calls Ybaf.prog 4 #[.string s0, .string s1, .string s2] w fun e w' => e = .returned (.tuple #[.agg #[.string s0, .string s1, .string s2], .nilIface]) ∧ Below w.heap.size w w' := by
  go_enter Ybaf.func4, Ybaf.ntmps4
  go_wp2_with fail
  refine wp_loop_rounds 4 ?_
  rw [rounds_succ]
  go_wp2_with fail
  refine (name_ok F _ _ _ (by exact hF) h0).mono ?_
  rintro e w1 ⟨rfl, hb1⟩
  have hF1 : F.answers w1.tape := by rw [hb1.tape]; exact hF
  have hL1 := ((laid_start s0 s1 s2 w).below ((Below.refl _ _).alloc (Nat.le_refl _) _) (by simp)).below hb1 (by simp)
  have hB1 : Below w.heap.size w w1 := ((((Below.refl _ _).alloc (Nat.le_refl _) _).alloc (by simp) _).alloc (by simp; omega) _).trans (hb1.mono (by simp; omega))
  have hz1 : w.heap.size + 1 < w1.heap.size := by have := hb1.size; simp at this; omega
  clear hb1
  obtain ⟨r0, r1, r2, f0, f1, f2, c0, c1, c2, c3, c4, c5⟩ := id hL1
  go_wp2_with fail
  rw [rounds_succ]
  go_wp2_with fail
  refine (name_ok F _ _ _ (by exact hF1) h1).mono ?_
  rintro e w2 ⟨rfl, hb2⟩
  have hF2 : F.answers w2.tape := by rw [hb2.tape]; exact hF1
  have hL2 := (hL1.below ((Below.refl _ _).alloc (Nat.le_refl _) _) hz1).below hb2 (by simp; omega)
  have hB2 : Below w.heap.size w w2 := (hB1.alloc hB1.size _).trans (hb2.mono (by have := hB1.size; simp; omega))
  have hz2 : w.heap.size + 1 < w2.heap.size := by have := hb2.size; simp at this; omega
  clear hb2
  obtain ⟨r0, r1, r2, f0, f1, f2, c0, c1, c2, c3, c4, c5⟩ := id hL2
  go_wp2_with fail
  rw [rounds_succ]
  go_wp2_with fail
  refine (name_ok F _ _ _ (by exact hF2) h2).mono ?_
  rintro e w3 ⟨rfl, hb3⟩
  have hF3 : F.answers w3.tape := by rw [hb3.tape]; exact hF2
  have hL3 := (hL2.below ((Below.refl _ _).alloc (Nat.le_refl _) _) hz2).below hb3 (by simp; omega)
  have hB3 : Below w.heap.size w w3 := (hB2.alloc hB2.size _).trans (hb3.mono (by have := hB2.size; simp; omega))
  have hz3 : w.heap.size + 1 < w3.heap.size := by have := hb3.size; simp at this; omega
  clear hb3
  obtain ⟨r0, r1, r2, f0, f1, f2, c0, c1, c2, c3, c4, c5⟩ := id hL3
  go_wp2_with fail
  rw [rounds_succ]
  go_wp2
  refine bodyPost_ret (v := .tuple #[.agg #[.string s0, .string s1, .string s2], .nilIface]) (by simp [results, Ybaf.results4, go_sem, r0, r1, r2]) rfl ?_
  exact ⟨rfl, ((hB3.setCell (Nat.le_refl _) _).setCell (Nat.le_refl _) _).setCell (Nat.le_refl _) _⟩

set_option maxHeartbeats 1000000 in
theorem new_bad0 (F : Interp) (s0 s1 s2 : ByteArray) (w : World) (hF : F.answers w.tape) (h0 : Hid (okL s0 = false)) :
    Calls Ybaf.prog 4 #[.string s0, .string s1, .string s2] w fun e w' => ∃ a, e = .returned (.tuple #[.agg #[.string ⟨#[]⟩, .string ⟨#[]⟩, .string ⟨#[]⟩], .iface 38 (.pointer (some a))]) ∧ Below w.heap.size w w' := by
  go_enter Ybaf.func4, Ybaf.ntmps4
  go_wp2_with fail
  refine wp_loop_rounds 4 ?_
  rw [rounds_succ]
  go_wp2_with fail
  refine (name_bad F _ _ _ (by exact hF) h0).mono ?_
  rintro e w1 ⟨a, t, rfl, _, hb1⟩
  have hL1 := ((laid_start s0 s1 s2 w).below ((Below.refl _ _).alloc (Nat.le_refl _) _) (by simp)).below hb1 (by simp)
  have hB1 : Below w.heap.size w w1 := ((((Below.refl _ _).alloc (Nat.le_refl _) _).alloc (by simp) _).alloc (by simp; omega) _).trans (hb1.mono (by simp; omega))
  have hz1 : w.heap.size + 1 < w1.heap.size := by have := hb1.size; simp at this; omega
  clear hb1
  obtain ⟨r0, r1, r2, f0, f1, f2, c0, c1, c2, c3, c4, c5⟩ := id hL1
  go_wp2
  refine bodyPost_ret (v := .tuple #[.agg #[.string ⟨#[]⟩, .string ⟨#[]⟩, .string ⟨#[]⟩], .iface 38 (.pointer (some a))]) (by simp [results, Ybaf.results4, go_sem, r0, r1, r2]) rfl ?_
  exact ⟨a, rfl, ((hB1.setCell (Nat.le_refl _) _).setCell (Nat.le_refl _) _).setCell (Nat.le_refl _) _⟩

set_option maxHeartbeats 1000000 in
theorem new_bad1 (F : Interp) (s0 s1 s2 : ByteArray) (w : World) (hF : F.answers w.tape) (h0 : Hid (okL s0 = true)) (h1 : Hid (okL s1 = false)) :
    Calls Ybaf.prog 4 #[.string s0, .string s1, .string s2] w fun e w' => ∃ a, e = .returned (.tuple #[.agg #[.string ⟨#[]⟩, .string ⟨#[]⟩, .string ⟨#[]⟩], .iface 38 (.pointer (some a))]) ∧ Below w.heap.size w w' := by
  go_enter Ybaf.func4, Ybaf.ntmps4
  go_wp2_with fail
  refine wp_loop_rounds 4 ?_
  rw [rounds_succ]
  go_wp2_with fail
  refine (name_ok F _ _ _ (by exact hF) h0).mono ?_
  rintro e w1 ⟨rfl, hb1⟩
  have hF1 : F.answers w1.tape := by rw [hb1.tape]; exact hF
  have hL1 := ((laid_start s0 s1 s2 w).below ((Below.refl _ _).alloc (Nat.le_refl _) _) (by simp)).below hb1 (by simp)
  have hB1 : Below w.heap.size w w1 := ((((Below.refl _ _).alloc (Nat.le_refl _) _).alloc (by simp) _).alloc (by simp; omega) _).trans (hb1.mono (by simp; omega))
  have hz1 : w.heap.size + 1 < w1.heap.size := by have := hb1.size; simp at this; omega
  clear hb1
  obtain ⟨r0, r1, r2, f0, f1, f2, c0, c1, c2, c3, c4, c5⟩ := id hL1
  go_wp2_with fail
  rw [rounds_succ]
  go_wp2_with fail
  refine (name_bad F _ _ _ (by exact hF1) h1).mono ?_
  rintro e w2 ⟨a, t, rfl, _, hb2⟩
  have hL2 := (hL1.below ((Below.refl _ _).alloc (Nat.le_refl _) _) hz1).below hb2 (by simp; omega)
  have hB2 : Below w.heap.size w w2 := (hB1.alloc hB1.size _).trans (hb2.mono (by have := hB1.size; simp; omega))
  have hz2 : w.heap.size + 1 < w2.heap.size := by have := hb2.size; simp at this; omega
  clear hb2
  obtain ⟨r0, r1, r2, f0, f1, f2, c0, c1, c2, c3, c4, c5⟩ := id hL2
  go_wp2
  refine bodyPost_ret (v := .tuple #[.agg #[.string ⟨#[]⟩, .string ⟨#[]⟩, .string ⟨#[]⟩], .iface 38 (.pointer (some a))]) (by simp [results, Ybaf.results4, go_sem, r0, r1, r2]) rfl ?_
  exact ⟨a, rfl, ((hB2.setCell (Nat.le_refl _) _).setCell (Nat.le_refl _) _).setCell (Nat.le_refl _) _⟩

set_option maxHeartbeats 1000000 in
theorem new_bad2 (F : Interp) (s0 s1 s2 : ByteArray) (w : World) (hF : F.answers w.tape) (h0 : Hid (okL s0 = true)) (h1 : Hid (okL s1 = true)) (h2 : Hid (okL s2 = false)) :
    Calls Ybaf.prog 4 #[.string s0, .string s1, .string s2] w fun e w' => ∃ a, e = .returned (.tuple #[.agg #[.string ⟨#[]⟩, .string ⟨#[]⟩, .string ⟨#[]⟩], .iface 38 (.pointer (some a))]) ∧ Below w.heap.size w w' := by
  go_enter Ybaf.func4, Ybaf.ntmps4
  go_wp2_with fail
  refine wp_loop_rounds 4 ?_
  rw [rounds_succ]
  go_wp2_with fail
  refine (name_ok F _ _ _ (by exact hF) h0).mono ?_
  rintro e w1 ⟨rfl, hb1⟩
  have hF1 : F.answers w1.tape := by rw [hb1.tape]; exact hF
  have hL1 := ((laid_start s0 s1 s2 w).below ((Below.refl _ _).alloc (Nat.le_refl _) _) (by simp)).below hb1 (by simp)
  have hB1 : Below w.heap.size w w1 := ((((Below.refl _ _).alloc (Nat.le_refl _) _).alloc (by simp) _).alloc (by simp; omega) _).trans (hb1.mono (by simp; omega))
  have hz1 : w.heap.size + 1 < w1.heap.size := by have := hb1.size; simp at this; omega
  clear hb1
  obtain ⟨r0, r1, r2, f0, f1, f2, c0, c1, c2, c3, c4, c5⟩ := id hL1
  go_wp2_with fail
  rw [rounds_succ]
  go_wp2_with fail
  refine (name_ok F _ _ _ (by exact hF1) h1).mono ?_
  rintro e w2 ⟨rfl, hb2⟩
  have hF2 : F.answers w2.tape := by rw [hb2.tape]; exact hF1
  have hL2 := (hL1.below ((Below.refl _ _).alloc (Nat.le_refl _) _) hz1).below hb2 (by simp; omega)
  have hB2 : Below w.heap.size w w2 := (hB1.alloc hB1.size _).trans (hb2.mono (by have := hB1.size; simp; omega))
  have hz2 : w.heap.size + 1 < w2.heap.size := by have := hb2.size; simp at this; omega
  clear hb2
  obtain ⟨r0, r1, r2, f0, f1, f2, c0, c1, c2, c3, c4, c5⟩ := id hL2
  go_wp2_with fail
  rw [rounds_succ]
  go_wp2_with fail
  refine (name_bad F _ _ _ (by exact hF2) h2).mono ?_
  rintro e w3 ⟨a, t, rfl, _, hb3⟩
  have hL3 := (hL2.below ((Below.refl _ _).alloc (Nat.le_refl _) _) hz2).below hb3 (by simp; omega)
  have hB3 : Below w.heap.size w w3 := (hB2.alloc hB2.size _).trans (hb3.mono (by have := hB2.size; simp; omega))
  have hz3 : w.heap.size + 1 < w3.heap.size := by have := hb3.size; simp at this; omega
  clear hb3
  obtain ⟨r0, r1, r2, f0, f1, f2, c0, c1, c2, c3, c4, c5⟩ := id hL3
  go_wp2
  refine bodyPost_ret (v := .tuple #[.agg #[.string ⟨#[]⟩, .string ⟨#[]⟩, .string ⟨#[]⟩], .iface 38 (.pointer (some a))]) (by simp [results, Ybaf.results4, go_sem, r0, r1, r2]) rfl ?_
  exact ⟨a, rfl, ((hB3.setCell (Nat.le_refl _) _).setCell (Nat.le_refl _) _).setCell (Nat.le_refl _) _⟩
end Go.Proofs.YbulkdgwwFmt
