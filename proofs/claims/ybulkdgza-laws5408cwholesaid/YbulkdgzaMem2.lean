/-
  The callees on the memory: add and remove of the timer, the way in and out of its channel, disarm, arm, Reset.
-/
import Derived.Test.YbulkdgzaMem
namespace Go.Proofs.Ybulkdgza
open Go.RowKit B
set_option linter.unusedVariables false
set_option linter.unusedSimpArgs false

theorem wh_at_oc (Cb tick Db : Nat) (cl : Bool) (mu : Int) (occ : Nat → Nat) (hd : Nat → Value) (due : Value) (p : Int) (l : Nat) (hl : l < 11) : whF Cb tick Db cl mu occ hd due p (10 + l) = .int .u64 (occ l) := by
  have := wh_oc Cb tick Db cl mu occ hd due p l hl (occ l) (10 + l)
  unfold whF
  rw [if_neg (by omega), if_neg (by omega), if_neg (by omega), if_neg (by omega), if_neg (by omega), if_neg (by omega), if_neg (by omega), if_neg (by omega), if_neg (by omega), if_neg (by omega), if_pos (by omega)]
  rw [show 10 + l - 10 = l by omega]
theorem wh_at_hd (Cb tick Db : Nat) (cl : Bool) (mu : Int) (occ : Nat → Nat) (hd : Nat → Value) (due : Value) (p : Int) (k : Nat) (hk : k < 704) : whF Cb tick Db cl mu occ hd due p (21 + k) = hd k := by
  unfold whF
  rw [if_neg (by omega), if_neg (by omega), if_neg (by omega), if_neg (by omega), if_neg (by omega), if_neg (by omega), if_neg (by omega), if_neg (by omega), if_neg (by omega), if_neg (by omega), if_neg (by omega), if_pos (by omega)]
  rw [show 21 + k - 21 = k by omega]
section
variable (Wb : Nat) (c : Value) (dl tk sq : Int) (nx pv : Value) (ps st : Int)
theorem tm_879 (a b : Value) (x : Int) : ∀ i, i < 12 → upd (upd (upd (tmF Wb c dl tk sq nx pv ps st) 8 a) 7 b) 9 (.int .i32 x) i = tmF Wb c dl tk sq b a x st i := by
  intro i hi
  match i, hi with
  | 0, _ => rfl
  | 1, _ => rfl
  | 2, _ => rfl
  | 3, _ => rfl
  | 4, _ => rfl
  | 5, _ => rfl
  | 6, _ => rfl
  | 7, _ => rfl
  | 8, _ => rfl
  | 9, _ => rfl
  | 10, _ => rfl
  | 11, _ => rfl
theorem tm_87 (a b : Value) : ∀ i, i < 12 → upd (upd (tmF Wb c dl tk sq nx pv ps st) 8 a) 7 b i = tmF Wb c dl tk sq b a ps st i := by
  intro i hi
  match i, hi with
  | 0, _ => rfl
  | 1, _ => rfl
  | 2, _ => rfl
  | 3, _ => rfl
  | 4, _ => rfl
  | 5, _ => rfl
  | 6, _ => rfl
  | 7, _ => rfl
  | 8, _ => rfl
  | 9, _ => rfl
  | 10, _ => rfl
  | 11, _ => rfl
theorem tm_8 (a : Value) : ∀ i, i < 12 → upd (tmF Wb c dl tk sq nx pv ps st) 8 a i = tmF Wb c dl tk sq nx a ps st i := by
  intro i hi
  match i, hi with
  | 0, _ => rfl
  | 1, _ => rfl
  | 2, _ => rfl
  | 3, _ => rfl
  | 4, _ => rfl
  | 5, _ => rfl
  | 6, _ => rfl
  | 7, _ => rfl
  | 8, _ => rfl
  | 9, _ => rfl
  | 10, _ => rfl
  | 11, _ => rfl
theorem tm_10 (x : Int) : ∀ i, i < 12 → upd (tmF Wb c dl tk sq nx pv ps st) 10 (.int .u8 x) i = tmF Wb c dl tk sq nx pv ps x i := by
  intro i hi
  match i, hi with
  | 0, _ => rfl
  | 1, _ => rfl
  | 2, _ => rfl
  | 3, _ => rfl
  | 4, _ => rfl
  | 5, _ => rfl
  | 6, _ => rfl
  | 7, _ => rfl
  | 8, _ => rfl
  | 9, _ => rfl
  | 10, _ => rfl
  | 11, _ => rfl
theorem tm_9 (x : Int) : ∀ i, i < 12 → upd (tmF Wb c dl tk sq nx pv ps st) 9 (.int .i32 x) i = tmF Wb c dl tk sq nx pv x st i := by
  intro i hi
  match i, hi with
  | 0, _ => rfl
  | 1, _ => rfl
  | 2, _ => rfl
  | 3, _ => rfl
  | 4, _ => rfl
  | 5, _ => rfl
  | 6, _ => rfl
  | 7, _ => rfl
  | 8, _ => rfl
  | 9, _ => rfl
  | 10, _ => rfl
  | 11, _ => rfl
theorem tm_arm (d : Int) (n : Nat) (q : Int) : ∀ i, i < 12 → armT (tmF Wb c dl tk sq nx pv ps st) d n q i = tmF Wb c d n q nx pv ps 1 i := by
  intro i hi
  match i, hi with
  | 0, _ => rfl
  | 1, _ => rfl
  | 2, _ => rfl
  | 3, _ => rfl
  | 4, _ => rfl
  | 5, _ => rfl
  | 6, _ => rfl
  | 7, _ => rfl
  | 8, _ => rfl
  | 9, _ => rfl
  | 10, _ => rfl
  | 11, _ => rfl
end
theorem kix_cast (x : Nat) : ((lev x 0 : Nat) : Int) * 64 + ((slot x (lev x 0) : Nat) : Int) = ((kix x : Nat) : Int) := by unfold kix; omega
theorem kix_704 (x : Nat) (hx : x < 9223372036854775808) : kix x < 704 := by
  have := kix_lt x hx
  have := slot_lt x (lev x 0)
  unfold kix; omega
theorem oc_lt (oT : Nat) (l : Nat) : ocF oT none l < 18446744073709551616 := by
  have h := slot_lt oT (lev oT 0)
  have : 2 ^ slot oT (lev oT 0) < 2 ^ 64 := Nat.pow_lt_pow_right (by omega) h
  have e : (2 : Nat) ^ 64 = 18446744073709551616 := by decide
  unfold ocF
  split <;> simp <;> omega
theorem oc_lt' (oT x : Nat) (l : Nat) : ocF oT (some x) l < 18446744073709551616 := by
  have h := slot_lt oT (lev oT 0)
  have h2 := slot_lt x (lev x 0)
  have a1 : (if l = lev oT 0 then 2 ^ slot oT (lev oT 0) else 0) < 2 ^ 64 := by
    split
    · exact Nat.pow_lt_pow_right (by omega) h
    · decide
  have a2 : (if l = lev x 0 then 2 ^ slot x (lev x 0) else 0) < 2 ^ 64 := by
    split
    · exact Nat.pow_lt_pow_right (by omega) h2
    · decide
  exact Nat.or_lt_two_pow a1 a2
theorem oc_add (oT x l : Nat) : (if l = lev x 0 then ocF oT none (lev x 0) ||| 2 ^ slot x (lev x 0) else ocF oT none l) = ocF oT (some x) l := by
  unfold ocF
  by_cases h : l = lev x 0
  · subst h; simp
  · simp [h]
theorem hd_add (L : Lay) (x k : Nat) : upd (hdF L none) (kix x) (PT L.Tb) k = hdF L (some x) k := by
  unfold upd hdF
  by_cases h : k = kix x
  · subst h; simp
  · have h' : ¬ kix x = k := fun e => h e.symm
    simp [h, h']
theorem bit_off (a sl : Nat) (hs : sl < 64) (ha : a.testBit sl = false) (h64 : a < 2 ^ 64) : (a ||| 2 ^ sl) &&& (18446744073709551615 - 2 ^ sl) = a := by
  apply Nat.eq_of_testBit_eq
  intro i
  have e : 18446744073709551615 - 2 ^ sl = 2 ^ 64 - (2 ^ sl + 1) := by
    have : (2 : Nat) ^ 64 = 18446744073709551616 := by decide
    omega
  rw [Nat.testBit_and, Nat.testBit_or, e, Nat.testBit_two_pow_sub_succ (Nat.pow_lt_pow_right (by omega) hs), Nat.testBit_two_pow]
  by_cases h : sl = i
  · subst h; simp [ha]
  · simp [h]
    intro hi
    apply Decidable.byContradiction
    intro hn
    rw [Nat.testBit_lt_two_pow (Nat.lt_of_lt_of_le h64 (Nat.pow_le_pow_right (by omega) (by omega)))] at hi
    cases hi
theorem oc_rem (oT x l : Nat) (hne : ¬ kix x = kix oT) : (if l = lev x 0 then ocF oT (some x) (lev x 0) &&& (18446744073709551615 - 2 ^ slot x (lev x 0)) else ocF oT (some x) l) = ocF oT none l := by
  have h1 := slot_lt oT (lev oT 0)
  have h2 := slot_lt x (lev x 0)
  have hk := kix_eq x oT
  by_cases h : l = lev x 0
  · rw [if_pos h, ← h]
    have e : ocF oT (some x) l = ocF oT none l ||| 2 ^ slot x l := by unfold ocF; subst h; simp
    rw [e]
    refine bit_off _ _ (slot_lt x l) ?_ (oc_lt oT l)
    unfold ocF
    by_cases g : l = lev oT 0
    · simp only [if_pos g, Nat.or_zero]
      rw [Nat.testBit_two_pow]
      simp
      intro hh
      exact hne (hk.2 ⟨by omega, by rw [← h]; exact hh.symm⟩)
    · simp [g]
  · rw [if_neg h]; unfold ocF; simp [h]
theorem oc_rem' (oT x l : Nat) (he : kix x = kix oT) : ocF oT (some x) l = ocF oT none l := by
  obtain ⟨h1, h2⟩ := (kix_eq x oT).1 he
  unfold ocF
  by_cases g : l = lev oT 0
  · simp only [if_pos g, if_pos (g.trans h1.symm), h2, Nat.or_self, Nat.or_zero]
  · simp [g, h1]
theorem hd_rem (L : Lay) (x k : Nat) (hne : ¬ kix x = kix L.oT) : upd (hdF L (some x)) (kix x) (.pointer none) k = hdF L none k := by
  unfold upd hdF
  by_cases h : k = kix x
  · subst h; simp [hne]
  · have h' : ¬ kix x = k := fun e => h e.symm
    simp [h, h']
theorem hd_rem' (L : Lay) (x k : Nat) (he : kix x = kix L.oT) : upd (hdF L (some x)) (kix x) (PT L.Ob) k = hdF L none k := by
  unfold upd hdF
  by_cases h : k = kix x
  · subst h; simp [he]
  · have h' : ¬ kix x = k := fun e => h e.symm
    simp [h, h']

section
variable {L : Lay} {w0 w : World} {calls : Nat} {mu : Int} {due : Value} {p dl sq ps st : Int} {full : Bool}

/-- add(t) -/
theorem add_t (ok : L.Ok) (x : Nat) (hx : x < 9223372036854775808) (M : Mem L ⟨calls, mu, due, p, none, dl, x, sq, ps, st, full⟩ w0 w) :
    Calls Yba.prog 6 #[.pointer (some ⟨L.Wb, 9, none⟩), .pointer (some ⟨L.Tb, 0, none⟩)] w fun e w' => e = .returned (.tuple #[]) ∧ Mem L ⟨calls, mu, due, p, some x, dl, x, sq, kix x, st, full⟩ w0 w' := by
  have hl := kix_lt x hx
  have hk := kix_704 x hx
  have e21 : 21 + lev x 0 * 64 + slot x (lev x 0) = 21 + kix x := by unfold kix; omega
  have o1 := ok.t
  have o2 := ok.o
  have hW : ∀ i, upd (upd (L.wh ⟨calls, mu, due, p, none, dl, x, sq, ps, st, full⟩) (21 + lev x 0 * 64 + slot x (lev x 0)) (PT L.Tb)) (10 + lev x 0) (.int .u64 ((ocF L.oT none (lev x 0) ||| 2 ^ slot x (lev x 0) : Nat) : Int)) i = L.wh ⟨calls, mu, due, p, some x, dl, x, sq, kix x, st, full⟩ i := by
    intro i
    rw [e21]
    rw [show upd (L.wh ⟨calls, mu, due, p, none, dl, x, sq, ps, st, full⟩) (21 + kix x) (PT L.Tb) = _ from funext (wh_hd L.Cb L.tick L.Db L.cl mu (ocF L.oT none) (hdF L none) due p (kix x) hk (PT L.Tb))]
    rw [wh_oc _ _ _ _ _ _ _ _ _ _ hl]
    exact wh_congr _ _ _ _ _ _ _ _ _ (fun l _ => oc_add L.oT x l) (fun k _ => hd_add L x k) i
  by_cases e : kix x = kix L.oT
  · refine (add_some L.Wb L.Tb L.Ob x (lev x 0) (slot x (lev x 0)) (ocF L.oT none (lev x 0)) _ _ _ w M.hW M.hT M.r.hO (by omega) (by omega) (by omega) hx rfl rfl hl (oc_lt _ _) rfl rfl (wh_at_oc _ _ _ _ _ _ _ _ _ _ hl) ?_).mono ?_
    · rw [e21]
      refine (wh_at_hd _ _ _ _ _ _ _ _ _ _ hk).trans ?_
      show (hdF L none (kix x)) = _
      unfold hdF; simp [e]
    · rintro r w1 ⟨rfl, hW1, hT1, hO1, hc⟩
      refine ⟨rfl, hW1.congr (fun i _ => hW i), hT1.congr (fun i hi => ?_), M.r.to ok hc (fun j h => h) (hO1.congr (fun i hi => ?_)) rfl rfl⟩
      · rw [tm_879 _ _ _ _ _ _ _ _ _ _ _ _ i hi, kix_cast]
        show tmF _ _ _ _ _ _ _ _ _ i = tmF _ _ _ _ _ (nxF L (some x)) _ _ _ i
        rw [show nxF L (some x) = PT L.Ob from by unfold nxF; simp [e]]
      · rw [tm_8 _ _ _ _ _ _ _ _ _ _ i hi]
        show tmF _ _ _ _ _ _ _ _ _ i = tmF _ _ _ _ _ _ (pvF L (some x)) _ _ i
        rw [show pvF L (some x) = PT L.Tb from by unfold pvF; simp [e]]
  · refine (add_none L.Wb L.Tb x (lev x 0) (slot x (lev x 0)) (ocF L.oT none (lev x 0)) _ _ w M.hW M.hT (by omega) hx rfl rfl hl (oc_lt _ _) rfl rfl (wh_at_oc _ _ _ _ _ _ _ _ _ _ hl) ?_).mono ?_
    · rw [e21]
      refine (wh_at_hd _ _ _ _ _ _ _ _ _ _ hk).trans ?_
      show (hdF L none (kix x)) = _
      unfold hdF; simp [e]
    · rintro r w1 ⟨rfl, hW1, hT1, hc⟩
      refine ⟨rfl, hW1.congr (fun i _ => hW i), hT1.congr (fun i hi => ?_), M.r.to ok hc (fun j h => h.elim .inl (fun h => .inr (.inl h))) ((M.r.hO.chg hc (by rintro (h | h) <;> omega)).congr (fun i hi => ?_)) rfl rfl⟩
      · rw [tm_879 _ _ _ _ _ _ _ _ _ _ _ _ i hi, kix_cast]
        show tmF _ _ _ _ _ _ _ _ _ i = tmF _ _ _ _ _ (nxF L (some x)) _ _ _ i
        rw [show nxF L (some x) = .pointer none from by unfold nxF; simp [e]]
      · show tmF _ _ _ _ _ _ (pvF L none) _ _ i = tmF _ _ _ _ _ _ (pvF L (some x)) _ _ i
        rw [show pvF L (some x) = pvF L none from by unfold pvF; simp [e]]

/-- remove(t) -/
theorem rem_t (ok : L.Ok) (x : Nat) (hx : x < 9223372036854775808) (M : Mem L ⟨calls, mu, due, p, some x, dl, x, sq, kix x, st, full⟩ w0 w) :
    Calls Yba.prog 24 #[.pointer (some ⟨L.Wb, 9, none⟩), .pointer (some ⟨L.Tb, 0, none⟩)] w fun e w' => e = .returned (.tuple #[]) ∧ Mem L ⟨calls, mu, due, p, none, dl, x, sq, kix x, st, full⟩ w0 w' := by
  have hl := kix_lt x hx
  have hk := kix_704 x hx
  have hs := slot_lt x (lev x 0)
  have e21 : 21 + lev x 0 * 64 + slot x (lev x 0) = 21 + kix x := by unfold kix; omega
  have o1 := ok.t
  have o2 := ok.o
  have f9 : L.tm ⟨calls, mu, due, p, some x, dl, x, sq, kix x, st, full⟩ 9 = .int .i32 (((lev x 0 : Nat) : Int) * 64 + ((slot x (lev x 0) : Nat) : Int)) := by rw [kix_cast]; rfl
  by_cases e : kix x = kix L.oT
  · refine (remove_first L.Wb L.Tb L.Ob (lev x 0) (slot x (lev x 0)) _ _ _ w M.hW M.hT M.r.hO (by omega) (by omega) (by omega) hl hs ?_ rfl f9).mono ?_
    · show nxF L (some x) = PT L.Ob
      unfold nxF; simp [e]
    · rintro r w1 ⟨rfl, hW1, hT1, hO1, hc⟩
      refine ⟨rfl, hW1.congr (fun i _ => ?_), hT1.congr (fun i hi => ?_), M.r.to ok hc (fun j h => h) (hO1.congr (fun i hi => ?_)) rfl rfl⟩
      · rw [e21, wh_hd _ _ _ _ _ _ _ _ _ (kix x) hk]
        exact wh_congr _ _ _ _ _ _ _ _ _ (fun l _ => oc_rem' L.oT x l e) (fun k _ => hd_rem' L x k e) i
      · rw [tm_87 _ _ _ _ _ _ _ _ _ _ _ i hi]; rfl
      · rw [tm_8 _ _ _ _ _ _ _ _ _ _ i hi]; rfl
  · refine (remove_last L.Wb L.Tb (lev x 0) (slot x (lev x 0)) (ocF L.oT (some x) (lev x 0)) _ _ w M.hW M.hT (by omega) hl hs (oc_lt' _ _ _) ?_ rfl f9 (wh_at_oc _ _ _ _ _ _ _ _ _ _ hl)).mono ?_
    · show nxF L (some x) = .pointer none
      unfold nxF; simp [e]
    · rintro r w1 ⟨rfl, hW1, hT1, hc⟩
      refine ⟨rfl, hW1.congr (fun i _ => ?_), hT1.congr (fun i hi => ?_), M.r.to ok hc (fun j h => h.elim .inl (fun h => .inr (.inl h))) ((M.r.hO.chg hc (by rintro (h | h) <;> omega)).congr (fun i hi => ?_)) rfl rfl⟩
      · rw [e21]
        rw [show upd (L.wh ⟨calls, mu, due, p, some x, dl, x, sq, kix x, st, full⟩) (21 + kix x) (.pointer none) = _ from funext (wh_hd L.Cb L.tick L.Db L.cl mu (ocF L.oT (some x)) (hdF L (some x)) due p (kix x) hk (.pointer none))]
        rw [wh_oc _ _ _ _ _ _ _ _ _ _ hl]
        exact wh_congr _ _ _ _ _ _ _ _ _ (fun l _ => oc_rem L.oT x l e) (fun k _ => hd_rem L x k e) i
      · rw [tm_87 _ _ _ _ _ _ _ _ _ _ _ i hi]; rfl
      · show tmF _ _ _ _ _ _ (pvF L (some x)) _ _ i = tmF _ _ _ _ _ _ (pvF L none) _ _ i
        rw [show pvF L (some x) = pvF L none from by unfold pvF; simp [e]]
end
end Go.Proofs.Ybulkdgza
