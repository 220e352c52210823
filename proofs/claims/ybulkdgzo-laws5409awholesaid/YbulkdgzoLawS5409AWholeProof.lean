/-
  THE ROW OF nestlock.LawS5409AWhole, PROVED. The walk: YbulkdgzoS5.lean.
-/
import Derived.Test.YbulkdgzoRows
import Derived.Test.YbulkdgzoS5
import Derived.WalkKit
import Derived.ProofKit
import Derived.OpenShut
import Derived.ShutString
import Derived.ChangeOld
import Derived.Below
import Derived.SizedLaws
import Derived.Deep.Slices
namespace Go.Proofs.Ybulkdgzo.lawS5409AWhole
open Go.ChangeShapes Go.WideShapes Go.ChangeAt Go.RowKit
open Go.ChangeMaps (open_string shut_string)
set_option linter.unusedVariables false
set_option linter.unusedSimpArgs false

theorem own : ownKnob Yba.prog.godebug = none := by kernel_rfl
theorem laidOut : laidOutB Yba.prog = true := by kernel_rfl
theorem cells25 : Yba.prog.cellsOf 25 = 3 := by kernel_rfl
theorem cells4 : Yba.prog.cellsOf 4 = 1 := by kernel_rfl
theorem cells3 : Yba.prog.cellsOf 3 = 1 := by kernel_rfl
theorem cells23 : Yba.prog.cellsOf 23 = 1 := by kernel_rfl
theorem cells2 : Yba.prog.cellsOf 2 = 1 := by kernel_rfl
theorem bytes2 : Yba.prog.bytesOf 2 = 8 := by kernel_rfl
theorem reach_eq : reachBytes = 140737488351232 := rfl
theorem addr_add (b o j : Nat) : (⟨b, o, none⟩ : Addr).add j = ⟨b, o + j, none⟩ := by
  unfold Addr.add; split <;> simp_all
theorem len3 {α : Type} : ∀ (l : List α), l.length = 3 → ∃ a b c, l = [a, b, c]
  | [a, b, c], _ => ⟨a, b, c, rfl⟩
theorem block_lt {W : World} {b o : Nat} {v : Value} (h : W.cell? ⟨b, o, none⟩ = some v) : b < W.heap.size := World.block_lt_of_cell? _ _ h

theorem weightsAll_mem {H : Type} {P : Program} {e : TypeId} : ∀ {l : List (DataW H)} {d : DataW H}, d ∈ l → ∀ n ∈ d.weights P e, n ∈ DataW.weightsAll P e l
  | d' :: r, d, hd, n, hn => by
    simp only [DataW.weightsAll, List.mem_append]
    rcases List.mem_cons.1 hd with rfl | h
    · exact Or.inl hn
    · exact Or.inr (weightsAll_mem h n hn)

instance : Inhabited Lv := ⟨⟨false, 0, none, 0, 0, fun _ => 0⟩⟩

/-- A slice of numbers that came in. -/
theorem open_items {H : Type} {enc : TypeId × Value → H} {W : World} {base fuel : Nat} {spare : Nat → Bool} {held : Bool} {cs : List Value} {x : DataW H × List MemPlace}
    (h : DataW.trod enc Yba.prog W base spare held fuel 23 cs = some x) (hw : ∀ m ∈ DataW.weights Yba.prog 23 x.1, m ≤ reachBytes) :
    ∃ (a : Option Addr) (n cap : Nat) (f : Nat → Int), cs = [.slice a n cap] ∧ n ≤ 1125899906842624 ∧ (a = none → n = 0) ∧ (0 < n → ∃ b o, a = some ⟨b, o, none⟩ ∧ b < W.heap.size ∧ ∀ j, j < n → W.cell? ⟨b, o + j, none⟩ = some (.int .i64 (f j))) := by
  rcases open_ints Yba.underlying23 Yba.underlying2 cells2 h with ⟨hcs, _⟩ | ⟨ad, l, c, zs, hcs, _, hl, hm, hz, hx, hcell, hwz⟩
  · exact ⟨none, 0, 0, fun _ => 0, hcs, by omega, fun _ => rfl, fun h => by omega⟩
  · have hzl : l ≤ zs.length := by rw [hz]; split <;> omega
    have hw1 := hw ((zs.take l).length * 8 + (zs.drop l).length * 8) (by
      rw [hx]
      simp only [DataW.weights, Yba.underlying23]
      rw [bytes2]
      simp [lits]
      left
      omega)
    rw [reach_eq] at hw1
    simp at hw1
    refine ⟨some ad, l, c, fun j => zs.getD j 0, hcs, by omega, fun e => by simp at e, fun h0 => ?_⟩
    obtain ⟨b, o, spot⟩ := ad
    have hc0 := hcell 0 (by omega)
    have hspot : spot = none := by simpa [Addr.add] using World.cell?_spot hc0
    subst hspot
    rw [addr_add] at hc0
    exact ⟨b, o, rfl, block_lt hc0, fun j hj => by have := hcell j (by omega); rwa [addr_add] at this⟩

theorem open_lvs {H : Type} {enc : TypeId × Value → H} {W : World} {base fuel : Nat} {spare : Nat → Bool} {held : Bool} {a : Option Addr} {len cap : Nat} {x : DataW H × List MemPlace}
    (h : DataW.trod enc Yba.prog W base spare held fuel 22 [.slice a len cap] = some x) (hw : ∀ m ∈ DataW.weights Yba.prog 22 x.1, m ≤ reachBytes) :
    len ≤ 9223372036854775807 ∧ (0 < len → ∃ b o U, a = some ⟨b, o, none⟩ ∧ Lvs W W.heap.size b o len U ∧ ∀ i, i < len → (U i).n ≤ 1125899906842624) := by
  rcases Go.Deep.open_slice Yba.underlying22 h with ⟨hcs, _⟩ | ⟨ad, l, c, m, n, D, Pl, hcs, hb, hl, hm, hmm, hxx, hx⟩
  · simp at hcs
    exact ⟨by omega, fun h0 => by omega⟩
  simp at hcs
  obtain ⟨rfl, rfl, rfl⟩ := hcs
  refine ⟨by unfold maxLen at hm; omega, fun h0 => ?_⟩
  have hlm : len ≤ m := by rw [hmm]; split <;> omega
  have each : ∀ i, i < len → ∃ u : Lv, W.cell? (ad.add (i * 3)) = some (.bool u.tx) ∧ W.cell? (ad.add (i * 3 + 1)) = some (.int .i64 u.dq) ∧ W.cell? (ad.add (i * 3 + 2)) = some (.slice u.a u.n u.cap) ∧
      u.n ≤ 1125899906842624 ∧ (u.a = none → u.n = 0) ∧ (0 < u.n → ∃ b o, u.a = some ⟨b, o, none⟩ ∧ b < W.heap.size ∧ ∀ j, j < u.n → W.cell? ⟨b, o + j, none⟩ = some (.int .i64 (u.f j))) := by
    intro i hi
    obtain ⟨cs', h1, h2⟩ := hx i (by omega)
    rw [cells25] at h1
    obtain ⟨_, hlen, hcell⟩ := World.cells?_some h1
    obtain ⟨xs, k, _, hxe, _, hxl, hf⟩ := DataW.trod_struct Yba.underlying25 h2
    have hxl' : xs.length = 3 := hxl
    obtain ⟨y0, y1, y2, rfl⟩ := len3 xs hxl'
    obtain ⟨v0, v1, v2, rfl⟩ := len3 cs' hlen
    have g0 := hf 0 _ rfl
    have g1 := hf 1 _ rfl
    have g2 := hf 2 _ rfl
    simp [cells4, cells3, cells23] at g0 g1 g2
    obtain ⟨z0, q0, _⟩ := DataW.trod_bool Yba.underlying4 g0
    obtain ⟨z1, q1, _, _⟩ := DataW.trod_int Yba.underlying3 g1
    have hD : D i = .agg [y0.1, y1.1, y2.1] := by
      have := congrArg Prod.fst hxe
      simpa using this
    obtain ⟨a2, n2, c2, f2, q2, b2, nil2, it2⟩ := open_items g2 (fun m hm2 => hw m (by
      rw [hxx]
      simp only [DataW.weights, Yba.underlying22, List.mem_cons, List.mem_append]
      refine Or.inr (Or.inl (weightsAll_mem (d := D i) (List.mem_map.2 ⟨i, List.mem_range.2 hi, rfl⟩) m ?_))
      rw [hD]
      simp only [DataW.weights, Yba.underlying25]
      exact DataW.weights_mem_each (j := 2) (t := 23) (d := y2.1) rfl rfl m hm2))
    simp at q0 q1 q2
    subst q0 q1 q2
    have e0 := hcell 0 (by omega)
    have e1 := hcell 1 (by omega)
    have e2 := hcell 2 (by omega)
    rw [Go.Deep.add_add] at e0 e1 e2
    exact ⟨⟨z0, z1, a2, n2, c2, f2⟩, by simpa using e0, by simpa using e1, by simpa using e2, b2, nil2, it2⟩
  obtain ⟨U, hU⟩ := Go.Deep.choose_lt each
  obtain ⟨b, o, spot⟩ := ad
  have hc0 := (hU 0 h0).1
  have hspot : spot = none := by simpa [Addr.add] using World.cell?_spot hc0
  subst hspot
  have hlt : b < W.heap.size := by rw [addr_add] at hc0; exact block_lt hc0
  refine ⟨b, o, U, rfl, ⟨hlt, ?_, ?_, ?_, fun i hi => (hU i hi).2.2.2.2.2, fun i hi => (hU i hi).2.2.2.2.1⟩, fun i hi => (hU i hi).2.2.2.1⟩
  · intro i hi; have := (hU i hi).1; rwa [addr_add] at this
  · intro i hi; have := (hU i hi).2.1; rwa [addr_add] at this
  · intro i hi; have := (hU i hi).2.2.1; rwa [addr_add] at this

theorem first_over (U : Nat → Lv) : ∀ n, ¬ tot U n ≤ 1048576 → ∃ K, K < n ∧ tot U K ≤ 1048576 ∧ ¬ tot U (K + 1) ≤ 1048576
  | 0, h => absurd (by show 0 ≤ 1048576; omega) h
  | n + 1, h => by
    by_cases h1 : tot U n ≤ 1048576
    · exact ⟨n, by omega, h1, h⟩
    · obtain ⟨K, k1, k2, k3⟩ := first_over U n h1
      exact ⟨K, by omega, k2, k3⟩

theorem walk (a : Option Addr) (n cp : Nat) (w : World) (hn : n ≤ 9223372036854775807) (h : 0 < n → ∃ b o U, a = some ⟨b, o, none⟩ ∧ Lvs w w.heap.size b o n U ∧ ∀ i, i < n → (U i).n ≤ 1125899906842624) :
    Calls Yba.prog 3 #[.slice a n cp] w fun e w' => e = .returned (.bool true) ∧ Below w.heap.size w w' := by
  have go : Calls Yba.prog 3 #[.slice a n cp] w fun e w' => e = .returned (.bool true) ∧ Chg w w' (fun _ => False) := by
    by_cases h0 : n = 0
    · subst h0
      exact main a 0 cp (fun _ => default) w (by omega) (by show 0 ≤ 1048576; omega) (fun h => by omega)
    obtain ⟨b, o, U, rfl, hL, hb⟩ := h (by omega)
    by_cases ht : tot U n ≤ 1048576
    · by_cases hm : n ≤ 1048576
      · exact main _ n cp U w hm ht (fun _ => ⟨b, o, rfl, hL⟩)
      · exact (main_many b o n cp U w hn (by omega) hL.c2 ht).mono fun e w' ⟨he, hw⟩ => ⟨he, by rw [hw]; exact Chg.refl _ _⟩
    · obtain ⟨K, k1, k2, k3⟩ := first_over U n ht
      exact (main_over b o n cp K U w hn k1 hL.c2 hb k2 k3).mono fun e w' ⟨he, hw⟩ => ⟨he, by rw [hw]; exact Chg.refl _ _⟩
  exact go.mono fun e w' ⟨he, hc⟩ => ⟨he, hc.below (Nat.le_refl _) (fun _ _ => id)⟩

/-! ### THE ROW's STEP -/
set_option maxRecDepth 100000 in
theorem lifted (os : Os) (started : os.Started) (H : Type) (enc : TypeId × Value → H) :
    ReturnsInHanded {} Yba.checked os 3 .any (Rows.lawS5409AWholeSpec.pre6 enc Yba.prog Yba.f3 Rows.lawS5409AWholeRow.domain false) (Rows.lawS5409AWholeSpec.post enc Yba.prog Yba.f3 false true false false) := by
  refine returnsInHanded_of_change_sized (C := Yba.checked) own started (by kernel_rfl) Yba.func3
    (ChangeSpec.witness6 (enc := enc) (C := Yba.checked) false ⟨#[], #[.slice none 0 0], []⟩ 8 (by kernel_rfl) (by kernel_rfl) (by kernel_rfl) (by kernel_rfl)) ?_
  intro W base args ds gs before hval0 hW hcnd hsz0 _
  have hsz : (DataW.weightsEach Yba.prog (Yba.f3.params.toList ++ Rows.lawS5409AWholeSpec.plain.varTypes Yba.prog) (ds ++ gs)).all (· ≤ reachBytes) = true := hsz0
  clear hsz0
  have hval : ∀ (j : Nat) t v, Yba.f3.params[j]? = some t → args[j]? = some v → Value.okWide Yba.prog W .any base t v := hval0
  have hW' := hW
  obtain ⟨p, q, hA0, hV, rfl, hfz, hnd⟩ := hW
  have hA : DataW.TrodAll enc Yba.prog W 0 (fun _ => true) true Yba.f3.params.toList args.toList ds p := hA0
  rw [Yba.params3] at hA hval hsz
  obtain ⟨v0, vs0, d0, ds0, p0, q0, hargs, rfl, rfl, h0, r0⟩ := trodAll_cons hA
  obtain ⟨rfl, rfl, rfl⟩ := trodAll_nil r0
  obtain rfl : args = #[v0] := by cases args; simp_all
  obtain ⟨rfl, rfl⟩ := trodVars_none hV
  obtain ⟨a0, len0, cap0, rfl⟩ := okWide_slice Yba.underlying22 (hval 0 22 v0 rfl rfl)
  have k0 := h0
  have lt0 : ∀ x ∈ p0, x.block < W.heap.size := by obtain ⟨m, hm⟩ := k0; exact DataW.trod_lt m _ _ _ hm
  have hwt : ∀ m ∈ DataW.weights Yba.prog 22 d0, m ≤ reachBytes := fun m hm =>
    of_decide_eq_true (List.all_eq_true.1 hsz m (DataW.weights_mem_each (j := 0) (t := 22) (d := d0) rfl rfl m hm))
  obtain ⟨hlen, hlv⟩ : len0 ≤ 9223372036854775807 ∧ (0 < len0 → ∃ b o U, a0 = some ⟨b, o, none⟩ ∧ Lvs W W.heap.size b o len0 U ∧ ∀ i, i < len0 → (U i).n ≤ 1125899906842624) := by
    obtain ⟨m, hm⟩ := h0; exact open_lvs hm hwt
  clear hA0 hval0
  refine (walk a0 len0 cap0 W hlen hlv).mono fun e W' ⟨he, bel⟩ => ?_
  subst he
  exact ⟨_, rfl, _, _, _, [], _, [], hW', trodAll_mk1 (shut_bool Yba.underlying4 _),
    (trodAll_cons_mk (Below.trod laidOut (by kernel_rfl) (of_decide_eq_true (by kernel_rfl)) k0 bel lt0) trodAll_mk0), rfl, bel.frame _, fun h => by cases h⟩

theorem over : Rows.lawS5409AWholeRow.holds Yba.pinned (OpenSpec.ofChange Rows.lawS5409AWholeSpec) :=
  OpenClaim.holds_of_wide 3 Yba.f3 rfl rfl rfl rfl rfl rfl rfl ⟨rfl, rfl, rfl, rfl, rfl⟩ rfl rfl rfl rfl rfl (by kernel_rfl) Yba.func3 (by kernel_rfl)
    (of_decide_eq_true (by kernel_rfl)) (by unfold Func.isWrapper; first | (rw [if_pos (by decide +kernel)]; kernel_rfl) | (rw [if_neg (by decide +kernel)]; exact ⟨rfl, rfl⟩))
    (fun os started H enc _ => lifted os started H enc)

/-- ████ THE STATEMENT ████ -/
theorem proved : Rows.LawS5409AWholeSaid := over
#print axioms proved
end Go.Proofs.Ybulkdgzo.lawS5409AWhole
