/-
  THE ROW OF kalachakra.LawS5408BWhole, PROVED, AND ITS TIED CARD. The walk: YbulkdgzaDoorS11.lean.
-/
import Derived.Test.YbulkdgzaDoorRows
import Derived.Test.YbulkdgzaDoorTie
import Derived.Test.YbulkdgzaDoorCards
import Derived.Test.YbulkdgzaDoorS11
import Derived.WalkKit
import Derived.ProofKit
import Derived.OpenShut
import Derived.ShutString
import Derived.ChangeOld
import Derived.Below
import Derived.LaidMore
import Derived.Stop.Joined
import Derived.Deep.Slices
import Derived.SevenTiedAt
namespace Go.Proofs.YbulkdgzaDoor.lawS5408BWhole
open Go.ChangeShapes Go.WideShapes Go.ChangeAt Go.RowKit
open Go.ChangeMaps (open_string shut_string)
set_option linter.unusedVariables false
set_option linter.unusedSimpArgs false

theorem own : ownKnob Ybad.prog.godebug = none := by kernel_rfl
theorem laidOut : laidOutB Ybad.prog = true := by kernel_rfl
theorem gTab : Ybad.prog.globalNamed "math/bits.deBruijn64tab" = some 2 := by kernel_rfl
theorem tTab : ∃ t, (Ybad.prog.globals[2]?).map (·.type) = some t ∧ Ybad.prog.underlying t = some (.array 64 5) := ⟨((Ybad.prog.globals[2]?).map (·.type)).getD 0, by kernel_rfl, by kernel_rfl⟩
theorem cells5 : Ybad.prog.cellsOf 5 = 1 := by kernel_rfl
theorem cells39 : Ybad.prog.cellsOf 39 = 1 := by kernel_rfl
theorem und5 : Ybad.prog.underlying 5 = some (.int .u8) := by kernel_rfl

abbrev laid1 : List (String × DataW Unit) := [("math/bits.deBruijn64tab", Rows.laid_math_bits_deBruijn64tab)]

theorem datum : (Rows.laid_math_bits_deBruijn64tab : DataW Unit) = .agg (Lib.deBruijn64tab.map (fun x => .lit (.int .u8 ((x : Nat) : Int)))) := by kernel_rfl
theorem tab_len : Lib.deBruijn64tab.length = 64 := by kernel_rfl

/-- The door's own heap meets the condition. -/
theorem door_met (os : Os) (args : Array Value) : laidMetH Ybad.prog laid1 ((World.doorLaid Ybad.prog 400 os).forCall (fun _ _ => 0) ⟨#[], args, []⟩).memory :=
  laidMetH_of_parts3 (fuel := 8) (laidMet_of_run' 8 (by kernel_rfl) (by kernel_rfl)) (by kernel_rfl) (by kernel_rfl)

theorem block_lt {W : World} {b o : Nat} {v : Value} (h : W.cell? ⟨b, o, none⟩ = some v) : b < W.heap.size := by
  unfold World.cell? at h
  cases hh : W.heap[b]? with
  | none => rw [hh] at h; simp at h
  | some y => exact (Array.getElem?_eq_some_iff.1 hh).1

/-- A table of bytes, read. -/
theorem tab_read {W : World} {t : TypeId} {g : Nat} {nm : String} {cs : Array Value} {fuel : Nat} {ps : List MemPlace} {q : Nat → Bool} (tab : List Nat) (D : DataW Unit) (hD : D = .agg (tab.map (fun x => .lit (.int .u8 ((x : Nat) : Int))))) (hlen64 : tab.length = 64)
    (hg : Ybad.prog.globalNamed nm = some g) (hu : Ybad.prog.underlying t = some (.array 64 5)) (hv : W.var? Ybad.prog nm = some cs) {enc : TypeId × Value → Unit} {base : Nat} {held : Bool} (hd : DataW.trod enc Ybad.prog W base q held fuel t cs.toList = some (D, ps)) : TabAt g tab W := by
  obtain ⟨xs, m1, rfl, hx1, hlen, hn3, hel⟩ := DataW.trod_array hu hd
  intro j hj
  have hj0 := hel j (by omega)
  have hxl : j < xs.length := by omega
  rw [List.getElem?_eq_getElem hxl] at hj0
  obtain ⟨k, e1, e2, _⟩ := DataW.trod_int und5 hj0
  have hcell := World.var?_cell hg hv j
  simp only [Prod.mk.injEq] at hx1
  have hd := hx1.1
  rw [hD] at hd
  have hd := DataW.agg.inj hd
  have hat := congrArg (fun l => l[j]?) hd
  simp only [List.getElem?_map, List.getElem?_eq_getElem hxl, List.getElem?_eq_getElem hj, Option.map_some] at hat
  rw [e2] at hat
  simp at hat
  rw [hcell]
  rw [cells5, Nat.mul_one] at e1
  have e3 : cs.toList[j]? = some (.int .u8 k) := by
    have := congrArg (fun l => l[0]?) e1
    simpa using this
  rw [← Array.getElem?_toList, e3, ← hat]
  simp [List.getD, hj]
/-- What the condition gives the walk. -/
theorem of_laid {W : World} (h : laidMetH Ybad.prog laid1 W) : TabAt 2 Lib.deBruijn64tab W := by
  rw [MakeChecks.laidMetH_plain _ _ _ (by kernel_rfl)] at h
  obtain ⟨ps, ⟨g0, t0, cs0, f0, p0, q0, hg0, ht0, hv0, hd0, _, _⟩, _, _⟩ := h
  obtain rfl := Option.some.inj (gTab.symm.trans hg0)
  obtain ⟨t, h1, h2⟩ := tTab
  obtain rfl := Option.some.inj (h1.symm.trans ht0)
  exact tab_read Lib.deBruijn64tab _ datum tab_len hg0 h2 hv0 hd0

theorem addr_add (b o j : Nat) : (⟨b, o, none⟩ : Addr).add j = ⟨b, o + j, none⟩ := by
  unfold Addr.add; split <;> simp_all
theorem open_row {H : Type} {enc : TypeId × Value → H} {W : World} {base fuel : Nat} {spare : Nat → Bool} {held : Bool} {a : Option Addr} {len cap : Nat} {x : DataW H × List MemPlace} {t e : TypeId} {k : IntKind}
    (ht : Ybad.prog.underlying t = some (.slice e)) (he : Ybad.prog.underlying e = some (.int k)) (hc : Ybad.prog.cellsOf e = 1)
    (h : DataW.trod enc Ybad.prog W base spare held fuel t [.slice a len cap] = some x) :
    ∃ F : Nat → Int, 0 < len → ∃ b o, a = some ⟨b, o, none⟩ ∧ b < W.heap.size ∧ ∀ j, j < len → W.cell? ⟨b, o + j, none⟩ = some (.int k (F j)) ∧ (Lit.int k (F j)).wf = true := by
  rcases open_ints ht he hc h with ⟨hcs, _⟩ | ⟨ad, l, c, zs, hcs, _, hl, hm, hz, _, hcell, hwz⟩
  · simp at hcs
    exact ⟨fun _ => 0, fun h0 => by omega⟩
  · simp at hcs
    obtain ⟨rfl, rfl, rfl⟩ := hcs
    refine ⟨fun j => zs.getD j 0, fun h0 => ?_⟩
    have hzl : len ≤ zs.length := by rw [hz]; split <;> omega
    obtain ⟨b, o, spot⟩ := ad
    have hc0 := hcell 0 (by omega)
    have hspot : spot = none := by simpa [Addr.add] using World.cell?_spot hc0
    subst hspot
    rw [addr_add] at hc0
    refine ⟨b, o, rfl, block_lt hc0, fun j hj => ?_⟩
    have h1 := hcell j (by omega)
    rw [addr_add] at h1
    exact ⟨h1, hwz _ (by simp [List.getD, show j < zs.length by omega])⟩

theorem wf8 {n : Int} (h : (Lit.int .u8 n).wf = true) : 0 ≤ n ∧ n ≤ 255 := by
  simp [Lit.wf, IntKind.min, IntKind.max, IntKind.signed, IntKind.bits] at h; omega
theorem wf32 {n : Int} (h : (Lit.int .u32 n).wf = true) : 0 ≤ n ∧ n ≤ 4294967295 := by
  simp [Lit.wf, IntKind.min, IntKind.max, IntKind.signed, IntKind.bits] at h; omega
theorem wf64 {n : Int} (h : (Lit.int .i64 n).wf = true) : -9223372036854775808 ≤ n ∧ n < 9223372036854775808 := by
  simp [Lit.wf, IntKind.min, IntKind.max, IntKind.signed, IntKind.bits] at h; omega

theorem walk (ao : Option Addr) (n cp : Nat) (cursor sel last : Int) (w : World) (F : Nat → Int) (hc : (Lit.int .i64 cursor).wf = true) (hs : (Lit.int .u8 sel).wf = true)
    (hF : 0 < n → ∃ b o, ao = some ⟨b, o, none⟩ ∧ b < w.heap.size ∧ ∀ j, j < n → w.cell? ⟨b, o + j, none⟩ = some (.int .u32 (F j)) ∧ (Lit.int .u32 (F j)).wf = true)
    (ht : TabAt 2 Lib.deBruijn64tab w) :
    Calls Ybad.prog 4 #[.int .i64 cursor, .slice ao n cp, .int .u8 sel, .int .i64 last] w fun e w' => e = .returned (.bool true) ∧ Below w.heap.size w w' := by
  have go : Calls Ybad.prog 4 #[.int .i64 cursor, .slice ao n cp, .int .u8 sel, .int .i64 last] w fun e w' => e = .returned (.bool true) ∧ Chg w w' (fun _ => False) := by
    by_cases hn : n ≤ 4096
    · have h2 : 2 < w.heap.size := block_lt (ht 0 (by rw [tab_len]; omega))
      obtain ⟨s1, s2⟩ := wf8 hs
      obtain ⟨c1, c2⟩ := wf64 hc
      have e : sel = ((sel.toNat : Nat) : Int) := by omega
      rw [e]
      refine main ao n cp cursor last sel.toNat (fun j => if j < n then (F j).toNat else 0) w hn (by omega) c1 c2 (fun i => ?_) (fun h0 => ?_) h2 ht
      · show (if i < n then (F i).toNat else 0) < _
        split
        · rename_i h
          obtain ⟨b, o, _, _, h3⟩ := hF (by omega)
          have := wf32 (h3 i h).2
          omega
        · omega
      · obtain ⟨b, o, h1, h3, h4⟩ := hF h0
        refine ⟨b, o, h1, h3, fun j hj => ?_⟩
        have h5 := h4 j hj
        have h6 := wf32 h5.2
        rw [h5.1, if_pos hj]
        congr 2
        omega
    · exact main_long _ _ _ ao n cp w hn
  exact go.mono fun e w' ⟨he, hc⟩ => ⟨he, hc.below (Nat.le_refl _) (fun _ _ => id)⟩

/-! ### THE ROW's STEP -/
set_option maxRecDepth 100000 in
theorem lifted (os : Os) (started : os.Started) (H : Type) (enc : TypeId × Value → H) :
    ReturnsInHanded {} Ybad.checked os 4 .any (fun w args => (Rows.lawS5408BWholeSpec.pre enc Ybad.prog Ybad.f4 [] false w args ∧ laidMetH Ybad.prog laid1 w) ∧ sizedMet enc Ybad.prog Ybad.f4 (OpenSpec.ofChange Rows.lawS5408BWholeSpec) false w args)
      (Rows.lawS5408BWholeSpec.post enc Ybad.prog Ybad.f4 false true false false) := by
  refine returnsInHanded_of_change_and (C := Ybad.checked) (X := fun w _ => laidMetH Ybad.prog laid1 w) (fun _ _ _ hh h => h.of_heap hh) own started (by kernel_rfl) Ybad.func4
    (ChangeSpec.witness_shaped (enc := enc) (C := Ybad.checked) (os := os) (X := fun w _ => laidMetH Ybad.prog laid1 w) false (World.doorLaid Ybad.prog 400 os) #[.int .i64 0, .slice none 0 0, .int .u8 0, .int .i64 0] 8 rfl (World.shaped_of_RefB (by kernel_rfl) (by kernel_rfl)) (by kernel_rfl) (by kernel_rfl) (by kernel_rfl) (door_met os _)) ?_
  intro W base args ds gs before hval0 hW hcnd _ hL _
  have hval : ∀ (j : Nat) t v, Ybad.f4.params[j]? = some t → args[j]? = some v → Value.okWide Ybad.prog W .any base t v := hval0
  have hW' := hW
  obtain ⟨p, q, hA0, hV, rfl, hfz, hnd⟩ := hW
  have hA : DataW.TrodAll enc Ybad.prog W 0 (fun _ => true) true Ybad.f4.params.toList args.toList ds p := hA0
  rw [Ybad.params4] at hA hval
  obtain ⟨v0, vs0, d0, ds0, p0, q0, hargs, rfl, rfl, h0, r0⟩ := trodAll_cons hA
  obtain ⟨v1, vs1, d1, ds1, p1, q1, hargs1, rfl, rfl, h1, r1⟩ := trodAll_cons r0
  obtain ⟨v2, vs2, d2, ds2, p2, q2, hargs2, rfl, rfl, h2, r2⟩ := trodAll_cons r1
  obtain ⟨v3, vs3, d3, ds3, p3, q3, hargs3, rfl, rfl, h3, r3⟩ := trodAll_cons r2
  obtain ⟨rfl, rfl, rfl⟩ := trodAll_nil r3
  subst hargs1 hargs2 hargs3
  obtain rfl : args = #[v0, v1, v2, v3] := by cases args; simp_all
  obtain ⟨rfl, rfl⟩ := trodVars_none hV
  obtain ⟨a1, len1, cap1, rfl⟩ := okWide_slice Ybad.underlying69 (hval 1 69 v1 rfl rfl)
  have k0 := h0
  have k1 := h1
  have k2 := h2
  have k3 := h3
  obtain ⟨z0, rfl, _, _, wf0⟩ := open_int Ybad.underlying2 (hval 0 2 v0 rfl rfl) h0
  obtain ⟨z2, rfl, _, _, wf2⟩ := open_int Ybad.underlying5 (hval 2 5 v2 rfl rfl) h2
  obtain ⟨z3, rfl, _, _, wf3⟩ := open_int Ybad.underlying2 (hval 3 2 v3 rfl rfl) h3
  have lt0 : ∀ x ∈ p0, x.block < W.heap.size := by obtain ⟨m, hm⟩ := k0; exact DataW.trod_lt m _ _ _ hm
  have lt1 : ∀ x ∈ p1, x.block < W.heap.size := by obtain ⟨m, hm⟩ := k1; exact DataW.trod_lt m _ _ _ hm
  have lt2 : ∀ x ∈ p2, x.block < W.heap.size := by obtain ⟨m, hm⟩ := k2; exact DataW.trod_lt m _ _ _ hm
  have lt3 : ∀ x ∈ p3, x.block < W.heap.size := by obtain ⟨m, hm⟩ := k3; exact DataW.trod_lt m _ _ _ hm
  obtain ⟨F, hF⟩ : ∃ F : Nat → Int, 0 < len1 → ∃ b o, a1 = some ⟨b, o, none⟩ ∧ b < W.heap.size ∧ ∀ j, j < len1 → W.cell? ⟨b, o + j, none⟩ = some (.int .u32 (F j)) ∧ (Lit.int .u32 (F j)).wf = true := by
    obtain ⟨m, hm⟩ := h1; exact open_row Ybad.underlying69 Ybad.underlying39 cells39 hm
  clear hA0 hval0
  refine (walk a1 len1 cap1 z0 z2 z3 W F wf0 wf2 hF (of_laid hL)).mono fun e W' ⟨he, bel⟩ => ?_
  subst he
  exact ⟨_, rfl, _, _, _, [], _, [], hW', trodAll_mk1 (shut_bool Ybad.underlying4 _),
    (trodAll_cons_mk (Below.trod laidOut (by kernel_rfl) (of_decide_eq_true (by kernel_rfl)) k0 bel lt0) (trodAll_cons_mk (Below.trod laidOut (by kernel_rfl) (of_decide_eq_true (by kernel_rfl)) k1 bel lt1)
      (trodAll_cons_mk (Below.trod laidOut (by kernel_rfl) (of_decide_eq_true (by kernel_rfl)) k2 bel lt2) (trodAll_cons_mk (Below.trod laidOut (by kernel_rfl) (of_decide_eq_true (by kernel_rfl)) k3 bel lt3) trodAll_mk0)))), rfl, bel.frame _, fun h => by cases h⟩

theorem over : Rows.LawS5408BWholeSaid :=
  OpenClaim.holds_of_wide 4 Ybad.f4 rfl rfl rfl rfl rfl rfl rfl ⟨rfl, rfl, rfl, rfl, rfl⟩ rfl rfl rfl rfl rfl (by kernel_rfl) Ybad.func4 (by kernel_rfl)
    (of_decide_eq_true (by kernel_rfl)) (by unfold Func.isWrapper; first | (rw [if_pos (by decide +kernel)]; kernel_rfl) | (rw [if_neg (by decide +kernel)]; exact ⟨rfl, rfl⟩))
    (fun os started H enc _ => lifted os started H enc)

/-- ████ THE STATEMENT ████ -/
theorem proved : Rows.LawS5408BWholeCardSaid :=
  Claim7.holds_tied_plain_at .later [] [.data] true (true, "879b7ea207dcbb9ab2ea4e514479496ce9d2fe4b9e65aefce0d1deb5215983ae") true
    over (fun _ h => by cases h) (by kernel_rfl) (fun _ h => by cases h) lawS5408BWhole_row_tie rfl ⟨rfl, rfl⟩ (by kernel_rfl) rfl
    (fun f fn hf hfn => by
      obtain rfl : f = 4 := Option.some.inj ((show Ybad.prog.funcNamed "example.com/kalachakra/kalachakra.LawS5408BWhole" = some 4 by kernel_rfl).symm.trans hf) |>.symm
      obtain rfl : fn = Ybad.f4 := (Option.some.inj (Ybad.func4.symm.trans hfn)).symm
      exact ⟨by kernel_rfl, fun j t ht => by
        rw [Ybad.params4] at ht
        have h3 : t = 2 ∨ t = 69 ∨ t = 5 := by
          rcases j with _ | _ | _ | _ | j
          · left; simpa using ht.symm
          · right; left; simpa using ht.symm
          · right; right; simpa using ht.symm
          · left; simpa using ht.symm
          · simp at ht
        rcases h3 with rfl | rfl | rfl
        · exact (show Ybad.prog.wantsStandIn 2 = false by kernel_rfl)
        · exact (show Ybad.prog.wantsStandIn 69 = false by kernel_rfl)
        · exact (show Ybad.prog.wantsStandIn 5 = false by kernel_rfl)⟩)
    (by kernel_rfl)
#print axioms proved
end Go.Proofs.YbulkdgzaDoor.lawS5408BWhole
