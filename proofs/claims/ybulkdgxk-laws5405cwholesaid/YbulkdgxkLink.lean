/-
  (*tracker).linkGiven (function 8): the given entries from the m-th on are laid on their owners' lists.
-/
import Derived.Test.YbulkdgxkDefC
import Derived.Deep.QuietTactic
import Derived.BigQuiet
import Derived.BigRegion
namespace Go.Proofs.Ybulkdgxk
open Go.RowKit C
set_option linter.unusedVariables false
set_option linter.unusedSimpArgs false

set_option maxHeartbeats 1000000 in
theorem link_any (T gu gl gg n np cap m : Nat) (U : Nat → Up) (f : Nat → Value) (G : List Nat) (w : World) (hn : n ≤ 65536) (hp : 1 ≤ np) (hp8 : np ≤ 8) (hm : m ≤ n) (hcap : n ≤ cap) (hcm : cap ≤ maxLen)
    (hG : G.length = n) (hGn : ∀ i ∈ G, i < n) (hf20 : f 20 = .int .i64 m) (h : Trk w T gu gl gg n np cap U f (lnk (own U np) (G.take m)) G) :
    Calls Yba.prog 8 #[.pointer (some ⟨T, 0, none⟩)] w fun e w' => e = .returned (.tuple #[]) ∧ Trk w' T gu gl gg n np cap U (upd f 20 (.int .i64 n)) (lnk (own U np) G) G ∧ Chg w w' (fun k => k = T ∨ k = gu ∨ k = gl) := by
  unfold maxLen at hcm
  have c18 := (h.t.cell (i := 18) (by omega)).trans (congrArg some h.f18)
  have c20 := (h.t.cell (i := 20) (by omega)).trans (congrArg some hf20)
  by_cases hmc : m = cap
  · obtain rfl : n = m := by omega
    obtain rfl : n = cap := hmc
    have HT : Hid (Trk w T gu gl gg n np n U f (lnk (own U np) (G.take n)) G) := h
    have f20 := h.t.free 20
    clear h
    go_enter Yba.func8, Yba.ntmps8
    go_wp2
    go_quiet (fail)
    go_wp2
    refine wp_loop_rounds 1 ?_
    rw [rounds_succ]
    go_wp2
    go_end0
    refine ⟨rfl, ?_, ((Chg.refl _ _).drewN _).setCell (.inl (.inl rfl)) _⟩
    obtain ⟨ht, hu, hl, hg, h17, h18, h22, n1, n2, n3, n4, n5, n6⟩ := HT.out
    have e : G.take n = G := List.take_of_length_le (by omega)
    rw [e] at hu hl
    exact ⟨(ht.drewN _).set 20 _, (hu.drewN _).other n1 _, (hl.drewN _).other n2 _, (hg.drewN _).other n3 _, h17, h18, h22, n1, n2, n3, n4, n5, n6⟩
  have hmc' : m < cap := by omega
  go_enter Yba.func8, Yba.ntmps8
  go_wp2
  go_quiet (fail)
  go_wp2
  clear c18 c20
  go_loopw [15] (fun i wr => ∃ k : Nat, m + k ≤ n ∧ i = .int .i64 k ∧ Trk wr T gu gl gg n np cap U f (lnk (own U np) (G.take (m + k))) G ∧ Chg w wr (fun k => k = T ∨ k = gu ∨ k = gl)) (fun i _ => n - (intOf i).toNat)
  case atStart => exact ⟨0, hm, rfl, ⟨h.t, h.u, h.l, h.g, h.f17, h.f18, h.f22, h.ne⟩, (Chg.refl _ _).drewN _⟩
  case round =>
    clear h
    obtain ⟨k, hk, rfl, htrk, hchg⟩ := hrel
    by_cases hlt : m + k < n
    · have hlt' : (k : Int) < ((n - m : Nat) : Int) := by omega
      obtain ⟨x, hx⟩ : ∃ x, G.getD (m + k) 0 = x := ⟨_, rfl⟩
      have cg := htrk.g.cell (i := m + k) hlt
      simp only [intF, hx] at cg
      have hxn : x < n := hGn x (by rw [← hx, List.getD, List.getElem?_eq_getElem (by omega)]; exact List.getElem_mem _)
      have c17 := (htrk.t.cell (i := 17) (by omega)).trans (congrArg some htrk.f17)
      have c22 := (htrk.t.cell (i := 22) (by omega)).trans (congrArg some htrk.f22)
      have cu2 := (htrk.u.cell (i := x * 6 + 2) (by omega)).trans (congrArg some (usF_2 _ _ _ _))
      have cu3 := (htrk.u.cell (i := x * 6 + 3) (by omega)).trans (congrArg some (usF_3 _ _ _ _))
      have fu3 := htrk.u.free (x * 6 + 3)
      obtain ⟨p, hp0⟩ : ∃ p, own U np x = p := ⟨_, rfl⟩
      have hpn : p < np := by rw [← hp0]; exact own_lt U np x hp
      rw [hp0] at cu2
      have cl := htrk.l.cell hpn
      have fl := htrk.l.free p
      simp only [intF] at cl
      obtain ⟨n1, n2, n3, n4, n5, n6⟩ := htrk.ne
      have n4' : ¬ gl = gu := fun e => n4 e.symm
      obtain ⟨vn, hvn⟩ : ∃ v, v = (lnk (own U np) (G.take (m + k))).1 x := ⟨_, rfl⟩
      obtain ⟨vl, hvl⟩ : ∃ v, v = (lnk (own U np) (G.take (m + k))).2 p := ⟨_, rfl⟩
      rw [← hvn] at cu3
      rw [← hvl] at cl
      go_wp2
      have H1 : Hid (vl = (lnk (own U np) (G.take (m + k))).2 p) := hvl
      have H2 : Hid (own U np x = p) := hp0
      have H3 : Hid (G.getD (m + k) 0 = x) := hx
      clear hvn hvl hp0 hx cg c17
      have HT : Hid (Trk wr T gu gl gg n np cap U f (lnk (own U np) (G.take (m + k))) G) := htrk
      clear htrk
      go_region
      go_wp2
      go_roundw
      case rel => exact ⟨k + 1, by omega, by go_num, HT.out.link (by omega) H3.out H2.out H1.out, ((hchg.setCell (.inl (.inr (.inl rfl))) _).setCell (.inl (.inr (.inr rfl))) _).drew⟩
      case measure => simp [intOf]; omega
    · have hk' : k = n - m := by omega
      have hlt' : ¬ (k : Int) < ((n - m : Nat) : Int) := by omega
      have c18 := (htrk.t.cell (i := 18) (by omega)).trans (congrArg some htrk.f18)
      have c20 := (htrk.t.cell (i := 20) (by omega)).trans (congrArg some hf20)
      have f20 := htrk.t.free 20
      have HT : Hid (Trk wr T gu gl gg n np cap U f (lnk (own U np) (G.take (m + k))) G) := htrk
      have HK : Hid (k = n - m) := hk'
      clear htrk hk'
      go_wp2
      go_end0
      refine ⟨rfl, ?_, hchg.setCell (.inl (.inl rfl)) _⟩
      obtain ⟨ht, hu, hl, hg, h17, h18, h22, n1, n2, n3, n4, n5, n6⟩ := HT.out
      have e : G.take (m + k) = G := List.take_of_length_le (by have := HK.out; omega)
      rw [e] at hu hl
      exact ⟨ht.set 20 _, hu.other n1 _, hl.other n2 _, hg.other n3 _, h17, h18, h22, n1, n2, n3, n4, n5, n6⟩
end Go.Proofs.Ybulkdgxk
