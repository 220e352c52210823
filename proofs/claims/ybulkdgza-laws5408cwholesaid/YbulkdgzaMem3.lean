/-
  The callees on the memory: the way out of the timer's channel, disarm, arm, Reset.
-/
import Derived.Test.YbulkdgzaMem2
namespace Go.Proofs.Ybulkdgza
open Go.RowKit B
set_option linter.unusedVariables false
set_option linter.unusedSimpArgs false

theorem cell_lt {w : World} {b i : Nat} {v : Value} (h : w.cell? ⟨b, i, none⟩ = some v) : b < w.heap.size := by
  apply Decidable.byContradiction
  intro hn
  unfold World.cell? at h
  rw [show w.heap[(⟨b, i, none⟩ : Addr).block]? = none from Array.getElem?_eq_none (by show w.heap.size ≤ b; omega)] at h
  cases h
theorem ft_le (t d : Nat) (ht : 0 < t) : ftV t d ≤ d := by
  unfold ftV
  split
  · exact Nat.div_le_self d t
  · rename_i h
    have h1 : 2 ≤ t := by
      apply Decidable.byContradiction
      intro hn
      have : t = 1 := by omega
      subst this
      exact h (Nat.mod_one d)
    have h2 : d / t ≤ d / 2 := Nat.div_le_div_left h1 (by omega)
    have h3 : d ≠ 0 := by intro e; subst e; simp at h
    by_cases h4 : d = 1
    · subst h4
      rw [Nat.div_eq_of_lt (by omega)]; omega
    · omega
section
variable {L : Lay} {w0 w : World}
theorem Mem.setMu {s : Sta} (M : Mem L s w0 w) (ok : L.Ok) (x : Int) : Mem L { s with mu := x } w0 (w.setCell ⟨L.Wb, 7, none⟩ (.int .i32 x)) := by
  have o1 := ok.t
  have R := M.r.setCell ok (.inl rfl) 7 (.int .i32 x)
  exact ⟨(M.hW.set 7 _).congr (fun i _ => wh_7 _ _ _ _ _ _ _ _ _ _ _), M.hT.other (by show L.Wb ≠ L.Tb; omega) _, ⟨R.hC, R.hO, R.hH, R.chg⟩⟩
theorem Mem.setP {s : Sta} (M : Mem L s w0 w) (ok : L.Ok) (x : Int) : Mem L { s with p := x } w0 (w.setCell ⟨L.Wb, 726, none⟩ (.int .i64 x)) := by
  have o1 := ok.t
  have R := M.r.setCell ok (.inl rfl) 726 (.int .i64 x)
  exact ⟨(M.hW.set 726 _).congr (fun i _ => wh_726 _ _ _ _ _ _ _ _ _ _ _), M.hT.other (by show L.Wb ≠ L.Tb; omega) _, ⟨R.hC, R.hO, R.hH, R.chg⟩⟩
theorem Mem.setSt {s : Sta} (M : Mem L s w0 w) (ok : L.Ok) (x : Int) : Mem L { s with st := x } w0 (w.setCell ⟨L.Tb, 10, none⟩ (.int .u8 x)) := by
  have o1 := ok.t
  have R := M.r.setCell ok (.inr (.inl rfl)) 10 (.int .u8 x)
  exact ⟨M.hW.other (by show L.Tb ≠ L.Wb; omega) _, (M.hT.set 10 _).congr (fun i hi => tm_10 _ _ _ _ _ _ _ _ _ _ i hi), ⟨R.hC, R.hO, R.hH, R.chg⟩⟩

/-- withdraw -/
theorem wd_t (ok : L.Ok) (s : Sta) (M : Mem L s w0 w) (hf : L.ch = none → s.full = false) :
    Calls Yba.prog 23 #[.pointer (some ⟨L.Tb, 0, none⟩)] w fun e w' => e = .returned (.bool s.full) ∧ Mem L { s with full := false } w0 w' := by
  have c3 : w.cell? ⟨L.Tb, 3, none⟩ = some (.chan L.ch) := M.hT.cell (i := 3) (by omega)
  cases hc : L.ch with
  | none =>
    rw [hc] at c3
    have e := hf hc
    refine (withdraw_nil L.Tb w c3).mono ?_
    rintro r w1 ⟨rfl, rfl⟩
    rw [e]
    refine ⟨rfl, M.hW, M.hT, M.r.hC, M.r.hO, fun j hj => ?_, M.r.chg⟩
    rw [hc] at hj; cases hj
  | some j =>
    obtain ⟨a, b, hh⟩ := M.r.hH j hc
    rw [hc] at c3
    cases hfu : s.full with
    | false =>
      rw [hfu] at hh
      refine (withdraw_empty L.Tb j 1 a b false w c3 hh).mono ?_
      rintro r w1 ⟨rfl, rfl⟩
      refine ⟨rfl, M.hW, M.hT, M.r.hC, M.r.hO, fun k hk => ?_, M.r.chg⟩
      rw [hc] at hk; cases hk
      exact ⟨a, b, hh⟩
    | true =>
      rw [hfu] at hh
      refine (withdraw_full L.Tb j 1 a b false zT w c3 hh).mono ?_
      rintro r w1 ⟨rfl, rfl⟩
      have hj := ok.k j hc
      have o1 := ok.c
      have o2 := ok.w
      have o3 := ok.t
      have o4 := ok.h
      refine ⟨rfl, M.hW.setChan _ _ _ _ _ _ _ (by omega), M.hT.setChan _ _ _ _ _ _ _ (by omega), M.r.hC.setChan _ _ _ _ _ _ _ (by omega), M.r.hO.setChan _ _ _ _ _ _ _ (by omega), fun k hk => ?_, M.r.chg.setChan (.inl ⟨by omega, by omega⟩) _ _ _ _ _ _⟩
      rw [hc] at hk; cases hk
      exact ⟨a, b + 1, Go.Conc.heap_setChan _ _ _ _ _ _ _ _ (Array.getElem?_eq_some_iff.1 hh).1⟩

variable {calls : Nat} {mu : Int} {due : Value} {p dl tk sq ps st : Int} {full : Bool}
theorem dis_q (ok : L.Ok) (hcl : L.cl = false) (x : Nat) (hx : x < 9223372036854775808) (hp : 0 ≤ p) (hp2 : p ≤ 1000) (M : Mem L ⟨calls, mu, due, p, some x, dl, x, sq, kix x, 1, full⟩ w0 w) :
    Calls Yba.prog 18 #[.pointer (some ⟨L.Wb, 0, none⟩), .pointer (some ⟨L.Tb, 0, none⟩)] w fun e w' => e = .returned (.bool true) ∧ Mem L ⟨calls, mu, due, p - 1, none, dl, x, sq, kix x, 0, full⟩ w0 w' := by
  have o1 := ok.t
  refine (disarm_queued L.Wb L.Tb p w (L.wh ⟨calls, mu, due, p, none, dl, x, sq, kix x, 1, full⟩) (L.tm ⟨calls, mu, due, p, none, dl, x, sq, kix x, 1, full⟩) (Rest L ⟨calls, mu, due, p, none, dl, x, sq, kix x, 1, full⟩ w0) (by omega) ?_ (M.hT.cell (i := 10) (by omega)) rfl hp hp2 ((rem_t ok x hx M).mono (fun e w' h => ⟨h.1, h.2.hW, h.2.hT, h.2.r⟩)) (fun W v R => R.setCell ok (.inl rfl) 726 v) (fun W v R => R.setCell ok (.inr (.inl rfl)) 10 v)).mono ?_
  · have := M.hW.cell (i := 727) (by omega)
    rw [this]; show some (Value.bool L.cl) = _; rw [hcl]
  · rintro e w1 ⟨rfl, hW, hT, R⟩
    exact ⟨rfl, hW.congr (fun i _ => wh_726 _ _ _ _ _ _ _ _ _ _ _), hT.congr (fun i hi => tm_10 _ _ _ _ _ _ _ _ _ _ i hi), ⟨R.hC, R.hO, R.hH, R.chg⟩⟩
theorem dis_d (ok : L.Ok) (hcl : L.cl = false) (g cap : Nat) (hcap : 1 ≤ cap) (hg1 : L.Ob < g) (hg2 : g < L.hi) (hg : RowF w g 47 1 (fun _ => PT L.Tb)) (hp : 0 ≤ p) (hp2 : p ≤ 1000) (M : Mem L ⟨calls, mu, .slice (some ⟨g, 0, none⟩) 1 cap, p, none, dl, tk, sq, 0, 2, full⟩ w0 w) :
    Calls Yba.prog 18 #[.pointer (some ⟨L.Wb, 0, none⟩), .pointer (some ⟨L.Tb, 0, none⟩)] w fun e w' => e = .returned (.bool true) ∧ Mem L ⟨calls, mu, .slice (some ⟨g, 0, none⟩) 0 cap, p - 1, none, dl, tk, sq, 0, 0, full⟩ w0 w' := by
  have o1 := ok.t
  have o2 := ok.o
  refine (disarm_due L.Wb L.Tb p w (L.wh ⟨calls, mu, .slice (some ⟨g, 0, none⟩) 0 cap, p, none, dl, tk, sq, 0, 2, full⟩) (L.tm ⟨calls, mu, .slice (some ⟨g, 0, none⟩) 0 cap, p, none, dl, tk, sq, 0, 2, full⟩) (Rest L ⟨calls, mu, .slice (some ⟨g, 0, none⟩) 0 cap, p, none, dl, tk, sq, 0, 2, full⟩ w0) (by omega) ?_ (M.hT.cell (i := 10) (by omega)) (M.hT.cell (i := 9) (by omega)) rfl hp hp2 ((due_remove L.Wb g cap w.drew (some ⟨L.Tb, 0, none⟩) hcap (M.hW.cell (i := 725) (by omega)) (M.hW.free 725) (hg.cell (i := 0) (by omega)) (hg.free 0) (by omega)).mono ?_) (fun W v R => R.setCell ok (.inl rfl) 726 v) (fun W v R => R.setCell ok (.inr (.inl rfl)) 10 v)).mono ?_
  · have := M.hW.cell (i := 727) (by omega)
    rw [this]; show some (Value.bool L.cl) = _; rw [hcl]
  · rintro e w1 ⟨rfl, rfl⟩
    have R := ((M.r.drew.setCell ok (b := g) (.inr (.inr ⟨hg1, hg2⟩)) 0 (.pointer (some ⟨L.Tb, 0, none⟩))).setCell ok (b := g) (.inr (.inr ⟨hg1, hg2⟩)) 0 (.pointer none)).setCell ok (b := L.Wb) (.inl rfl) 725 (.slice (some ⟨g, 0, none⟩) 0 cap)
    refine ⟨rfl, ?_, ?_, ⟨R.hC, R.hO, R.hH, R.chg⟩⟩
    · exact (((M.hW.drew.other (by show g ≠ L.Wb; omega) _).other (by show g ≠ L.Wb; omega) _).set 725 _).congr (fun i _ => wh_725 _ _ _ _ _ _ _ _ _ _ _)
    · exact ((M.hT.drew.other (by show g ≠ L.Tb; omega) _).other (by show g ≠ L.Tb; omega) _).other (by show L.Wb ≠ L.Tb; omega) _
  · rintro e w1 ⟨rfl, hW, hT, R⟩
    exact ⟨rfl, hW.congr (fun i _ => wh_726 _ _ _ _ _ _ _ _ _ _ _), hT.congr (fun i hi => tm_10 _ _ _ _ _ _ _ _ _ _ i hi), ⟨R.hC, R.hO, R.hH, R.chg⟩⟩
theorem dis_i (ok : L.Ok) (hcl : L.cl = false) (hf : L.ch = none → full = false) (M : Mem L ⟨calls, mu, due, p, none, dl, tk, sq, ps, 0, full⟩ w0 w) :
    Calls Yba.prog 18 #[.pointer (some ⟨L.Wb, 0, none⟩), .pointer (some ⟨L.Tb, 0, none⟩)] w fun e w' => e = .returned (.bool full) ∧ Mem L ⟨calls, mu, due, p, none, dl, tk, sq, ps, 0, false⟩ w0 w' := by
  refine disarm_idle L.Wb L.Tb full w _ ?_ (M.hT.cell (i := 10) (by omega)) (wd_t ok _ M hf)
  have := M.hW.cell (i := 727) (by omega)
  rw [this]; show some (Value.bool L.cl) = _; rw [hcl]

theorem arm_t (ok : L.Ok) (hcl : L.cl = false) (off du : Nat) (d : Int) (ho : off < 9223372036854775808) (hn : off % 1000000000 = L.n) (hs : off / 1000000000 = L.s) (hd : -9223372036854775808 ≤ d) (ht : 0 < L.tick) (ht2 : L.tick ≤ 9223372036854775807) (hdu : du ≤ 9223372036854775807)
    (hm : max (off : Int) (dlV off d) = (du : Int)) (hp : 0 ≤ p) (hp2 : p ≤ 1000) (M : Mem L ⟨0, mu, due, p, none, dl, tk, sq, ps, st, full⟩ w0 w) :
    Calls Yba.prog 19 #[.pointer (some ⟨L.Wb, 0, none⟩), .pointer (some ⟨L.Tb, 0, none⟩), .int .i64 d] w fun e w' => e = .returned (.tuple #[]) ∧ Mem L ⟨1, mu, due, p + 1, some (ftV L.tick du), dlV off d, ftV L.tick du, L.sq, kix (ftV L.tick du), 1, full⟩ w0 w' := by
  have o0 := ok.w
  have o1 := ok.t
  have o2 := ok.o
  have o3 := ok.c
  have o4 := ok.h
  have c727 : w.cell? ⟨L.Wb, 727, none⟩ = some (.bool false) := by
    have := M.hW.cell (i := 727) (by omega)
    rw [this]; show some (Value.bool L.cl) = _; rw [hcl]
  have hft : ftV L.tick du < 9223372036854775808 := by have := ft_le L.tick du ht; omega
  refine arm_core L.Wb L.Tb L.Cb L.n L.s L.sq d off (dlV off d) w (M.hW.cell (i := 0) (by omega)) c727 (Mem L ⟨1, mu, due, p, none, dl, tk, sq, ps, st, full⟩ w0) _ (fun W M => ⟨M.hW.cell (i := 1) (by omega), M.hW.cell (i := 2) (by omega), M.hW.cell (i := 3) (by omega)⟩) (fun W o M => M.alloc o) (fun W M => M.drew) ?_ ?_ ?_ ?_
  · refine (stamp_any L.Cb L.n L.s 0 L.sq _ w (by omega) M.r.hC rfl rfl rfl rfl rfl).mono ?_
    rintro e w1 ⟨rfl, hC, hc⟩
    refine ⟨rfl, M.hW.chg hc (by omega), M.hT.chg hc (by omega), hC.congr (fun i hi => ?_), M.r.hO.chg hc (by omega), fun j hj => ?_, M.r.chg.trans (hc.mono (fun j _ e => by subst e; exact ⟨o3, by omega⟩))⟩
    · match i, hi with
      | 0, _ => rfl
      | 1, _ => rfl
      | 2, _ => rfl
      | 3, _ => rfl
      | 4, _ => rfl
    · obtain ⟨a, b, hh⟩ := M.r.hH j hj
      have := ok.k j hj
      exact ⟨a, b, by rw [hc.block j (Array.getElem?_eq_some_iff.1 hh).1 (by omega)]; exact hh⟩
  · intro b W hk
    obtain ⟨a0, a1, a2, b0, b1, b2, M1⟩ := hk
    refine (sub_zero off L.n L.s W ho hn hs).mono ?_
    rintro e w1 ⟨rfl, hc⟩
    have lb := cell_lt a0
    have lw := cell_lt b0
    exact ⟨rfl, by rw [hc.cell lb id]; exact a0, by rw [hc.cell lb id]; exact a1, by rw [hc.cell lb id]; exact a2, by rw [hc.cell lw id]; exact b0, by rw [hc.cell lw id]; exact b1, by rw [hc.cell lw id]; exact b2, M1.same ok hc (fun _ _ h => h) (fun _ h _ => h)⟩
  · intro W
    exact deadline_any off d W (by omega) (by omega) hd
  · intro W M1
    refine (queue_core L.Wb L.Tb L.tick du off (dlV off d) L.sq p _ _ W (L.wh ⟨1, mu, due, p, some (ftV L.tick du), dlV off d, ftV L.tick du, L.sq, kix (ftV L.tick du), 1, full⟩) (L.tm ⟨1, mu, due, p, some (ftV L.tick du), dlV off d, ftV L.tick du, L.sq, kix (ftV L.tick du), 1, full⟩) (Rest L ⟨1, mu, due, p, some (ftV L.tick du), dlV off d, ftV L.tick du, L.sq, kix (ftV L.tick du), 1, full⟩ w0) M1.hW M1.hT (by omega) ht ht2 hdu hm rfl rfl rfl hp hp2 ?_ (fun W v R => R.setCell ok (.inl rfl) 726 v) (fun W q R => R.drewN q)).mono ?_
    · intro W1 hW1 hT1 hc
      have M2 : Mem L ⟨1, mu, due, p, none, dlV off d, ftV L.tick du, L.sq, ps, 1, full⟩ w0 W1 :=
        ⟨hW1, hT1.congr (fun i hi => tm_arm _ _ _ _ _ _ _ _ _ _ _ _ i hi), M1.r.to ok hc (fun j h => .inr (.inl h)) (M1.r.hO.chg hc (by omega)) rfl rfl⟩
      exact (add_t ok _ hft M2).mono (fun e w' h => ⟨h.1, h.2.hW, h.2.hT, h.2.r⟩)
    · rintro e w1 ⟨rfl, hW, hT, R⟩
      exact ⟨rfl, hW.congr (fun i _ => wh_726 _ _ _ _ _ _ _ _ _ _ _), hT, ⟨R.hC, R.hO, R.hH, R.chg⟩⟩

theorem reset_shut (ok : L.Ok) (hcl : L.cl = true) (d : Int) (s : Sta) (hmu : s.mu = 0) (hf : L.ch = none → s.full = false) (M : Mem L s w w) :
    Calls Yba.prog 8 #[.pointer (some ⟨L.Tb, 0, none⟩), .int .i64 d] w fun e w' => e = .returned (.bool s.full) ∧ Mem L { s with full := false } w w' := by
  have o1 := ok.t
  have hcell : ∀ {s : Sta} {W}, Mem L s w W → W.cell? ⟨L.Wb, 727, none⟩ = some (.bool true) := fun M => by
    have := M.hW.cell (i := 727) (by omega)
    rw [this]; show some (Value.bool L.cl) = _; rw [hcl]
  refine (reset_core L.Wb L.Tb d s.full w (Mem L { s with mu := 1, full := false } w) (Mem L { s with mu := 1, full := false } w) (by omega) (M.hT.cell (i := 1) (by omega)) ?_ (M.hW.free 7) (fun W M => M.hT.cell (i := 1) (by omega)) (fun W M => ⟨M.hW.cell (i := 7) (by omega), M.hW.free 7⟩) ?_ ?_).mono ?_
  · have := M.hW.cell (i := 7) (by omega)
    rw [this]; show some (Value.int .i32 s.mu) = _; rw [hmu]
  · have M1 := M.setMu ok 1
    exact disarm_closed L.Wb L.Tb s.full _ _ (hcell M1) (wd_t ok _ M1 hf)
  · intro W M1
    refine (arm_closed L.Wb L.Tb d W (hcell M1)).mono ?_
    rintro e w1 ⟨rfl, rfl⟩
    exact ⟨rfl, M1⟩
  · rintro e w1 ⟨rfl, W, M1, rfl⟩
    have := M1.setMu ok 0
    refine ⟨rfl, ?_⟩
    have e : ({ { s with mu := 1, full := false } with mu := 0 } : Sta) = { s with full := false } := by rw [← hmu]
    rw [← e]; exact this

theorem reset_go (ok : L.Ok) (hcl : L.cl = false) (off du : Nat) (d : Int) (ho : off < 9223372036854775808) (hn : off % 1000000000 = L.n) (hs : off / 1000000000 = L.s) (hd : -9223372036854775808 ≤ d) (ht : 0 < L.tick) (ht2 : L.tick ≤ 9223372036854775807) (hdu : du ≤ 9223372036854775807)
    (hm : max (off : Int) (dlV off d) = (du : Int)) (s : Sta) (hmu : s.mu = 0) (b : Bool) (M : Mem L s w w)
    (HD : Calls Yba.prog 18 #[.pointer (some ⟨L.Wb, 0, none⟩), .pointer (some ⟨L.Tb, 0, none⟩)] (w.setCell ⟨L.Wb, 7, none⟩ (.int .i32 1)) fun e w' => e = .returned (.bool b) ∧ Mem L ⟨0, 1, due, 1, none, dl, tk, sq, ps, 0, false⟩ w w') :
    Calls Yba.prog 8 #[.pointer (some ⟨L.Tb, 0, none⟩), .int .i64 d] w fun e w' => e = .returned (.bool b) ∧ Mem L ⟨1, 0, due, 2, some (ftV L.tick du), dlV off d, ftV L.tick du, L.sq, kix (ftV L.tick du), 1, false⟩ w w' := by
  have o1 := ok.t
  refine (reset_core L.Wb L.Tb d b w (Mem L ⟨0, 1, due, 1, none, dl, tk, sq, ps, 0, false⟩ w) (Mem L ⟨1, 1, due, 2, some (ftV L.tick du), dlV off d, ftV L.tick du, L.sq, kix (ftV L.tick du), 1, false⟩ w) (by omega) (M.hT.cell (i := 1) (by omega)) ?_ (M.hW.free 7) (fun W M => M.hT.cell (i := 1) (by omega)) (fun W M => ⟨M.hW.cell (i := 7) (by omega), M.hW.free 7⟩) HD ?_).mono ?_
  · have := M.hW.cell (i := 7) (by omega)
    rw [this]; show some (Value.int .i32 s.mu) = _; rw [hmu]
  · intro W M1
    exact arm_t ok hcl off du d ho hn hs hd ht ht2 hdu hm (by omega) (by omega) M1
  · rintro e w1 ⟨rfl, W, M1, rfl⟩
    exact ⟨rfl, M1.setMu ok 0⟩
end
end Go.Proofs.Ybulkdgza
