/-
  THE ROW OF fairswarm.LawS5405CWhole, PROVED. The walk: YbulkdgxkS8.lean, YbulkdgxkS9.lean.
-/
import Derived.Test.YbulkdgxkRows
import Derived.WalkKit
import Derived.ProofKit
import Derived.OpenShut
import Derived.ShutString
import Derived.ChangeOld
import Derived.Below
import Derived.Deep.Slices
import Derived.Test.YbulkdgxkS9
namespace Go.Proofs.Ybulkdgxk.lawS5405CWhole
open Go.ChangeShapes Go.WideShapes Go.ChangeAt Go.RowKit
open Go.ChangeMaps (open_string shut_string)
set_option linter.unusedVariables false
set_option linter.unusedSimpArgs false

theorem own : ownKnob Yba.prog.godebug = none := by kernel_rfl
theorem laidOut : laidOutB Yba.prog = true := by kernel_rfl

/-- What the walk is told of the uploads that came in. -/
def IsUps (w : World) (a : Option Addr) (len : Nat) : Prop :=
  0 < len → ∃ (b o : Nat) (U : Nat → Up), a = some ⟨b, o, none⟩ ∧ Ups w b o len U ∧ (∀ x, x < len → -2147483648 ≤ (U x).peer ∧ (U x).peer ≤ 2147483647) ∧ (∀ x, x < len → -2147483648 ≤ (U x).place ∧ (U x).place ≤ 2147483647)

instance : Inhabited Up := ⟨⟨0, 0, 0, 0, 0, false⟩⟩

theorem wf32 {n : Int} (h : (Lit.int .i32 n).wf = true) : -2147483648 ≤ n ∧ n ≤ 2147483647 := by
  simp [Lit.wf, IntKind.min, IntKind.max, IntKind.signed, IntKind.bits] at h; omega
theorem wf8 {n : Int} (h : (Lit.int .u8 n).wf = true) : 0 ≤ n ∧ n ≤ 255 := by
  simp [Lit.wf, IntKind.min, IntKind.max, IntKind.signed, IntKind.bits] at h; omega
theorem wf64 {n : Int} (h : (Lit.int .u64 n).wf = true) : 0 ≤ n := by
  simp [Lit.wf, IntKind.min, IntKind.max, IntKind.signed, IntKind.bits] at h; omega
theorem cells29 : Yba.prog.cellsOf 29 = 6 := by kernel_rfl
theorem cells21 : Yba.prog.cellsOf 21 = 1 := by kernel_rfl
theorem cells5 : Yba.prog.cellsOf 5 = 1 := by kernel_rfl
theorem cells4 : Yba.prog.cellsOf 4 = 1 := by kernel_rfl

theorem len6 {α : Type} : ∀ (l : List α), l.length = 6 → ∃ a b c d e f, l = [a, b, c, d, e, f]
  | [a, b, c, d, e, f], _ => ⟨a, b, c, d, e, f, rfl⟩
theorem open_ups {H : Type} {enc : TypeId × Value → H} {W : World} {base fuel : Nat} {spare : Nat → Bool} {held : Bool} {a : Option Addr} {len cap : Nat} {x : DataW H × List MemPlace}
    (h : DataW.trod enc Yba.prog W base spare held fuel 25 [.slice a len cap] = some x) : IsUps W a len := by
  intro h0
  rcases Go.Deep.open_slice Yba.underlying25 h with ⟨hcs, _⟩ | ⟨ad, l, c, m, n, D, Pl, hcs, hb, hl, hm, hmm, _, hx⟩
  · simp at hcs; omega
  simp at hcs
  obtain ⟨rfl, rfl, rfl⟩ := hcs
  have hlm : len ≤ m := by rw [hmm]; split <;> omega
  have each : ∀ i, i < len → ∃ u : Up, W.cell? (ad.add (i * 6)) = some (.int .i32 u.peer) ∧ W.cell? (ad.add (i * 6 + 1)) = some (.int .i32 u.place) ∧ W.cell? (ad.add (i * 6 + 2)) = some (.int .i32 u.seg) ∧
      W.cell? (ad.add (i * 6 + 3)) = some (.int .i32 u.start) ∧ W.cell? (ad.add (i * 6 + 4)) = some (.int .u8 u.up) ∧ W.cell? (ad.add (i * 6 + 5)) = some (.bool u.pend) ∧
      (-2147483648 ≤ u.peer ∧ u.peer ≤ 2147483647) ∧ (-2147483648 ≤ u.place ∧ u.place ≤ 2147483647) ∧ (0 ≤ u.up ∧ u.up ≤ 255) := by
    intro i hi
    obtain ⟨cs', h1, h2⟩ := hx i (by omega)
    rw [cells29] at h1
    obtain ⟨_, hlen, hcell⟩ := World.cells?_some h1
    obtain ⟨xs, k, _, _, _, hxl, hf⟩ := DataW.trod_struct Yba.underlying29 h2
    have hxl' : xs.length = 6 := hxl
    obtain ⟨y0, y1, y2, y3, y4, y5, rfl⟩ := len6 xs hxl'
    obtain ⟨v0, v1, v2, v3, v4, v5, rfl⟩ := len6 cs' hlen
    have g0 := hf 0 _ rfl
    have g1 := hf 1 _ rfl
    have g2 := hf 2 _ rfl
    have g3 := hf 3 _ rfl
    have g4 := hf 4 _ rfl
    have g5 := hf 5 _ rfl
    simp [cells21, cells5, cells4] at g0 g1 g2 g3 g4 g5
    obtain ⟨z0, q0, _, r0⟩ := DataW.trod_int Yba.underlying21 g0
    obtain ⟨z1, q1, _, r1⟩ := DataW.trod_int Yba.underlying21 g1
    obtain ⟨z2, q2, _, r2⟩ := DataW.trod_int Yba.underlying21 g2
    obtain ⟨z3, q3, _, r3⟩ := DataW.trod_int Yba.underlying21 g3
    obtain ⟨z4, q4, _, r4⟩ := DataW.trod_int Yba.underlying5 g4
    obtain ⟨z5, q5, _⟩ := DataW.trod_bool Yba.underlying4 g5
    simp at q0 q1 q2 q3 q4 q5
    subst q0 q1 q2 q3 q4 q5
    have e0 := hcell 0 (by omega)
    have e1 := hcell 1 (by omega)
    have e2 := hcell 2 (by omega)
    have e3 := hcell 3 (by omega)
    have e4 := hcell 4 (by omega)
    have e5 := hcell 5 (by omega)
    rw [Go.Deep.add_add] at e0 e1 e2 e3 e4 e5
    exact ⟨⟨z0, z1, z2, z3, z4, z5⟩, by simpa using e0, by simpa using e1, by simpa using e2, by simpa using e3, by simpa using e4, by simpa using e5, wf32 r0, wf32 r1, wf8 r4⟩
  obtain ⟨U, hU⟩ := Go.Deep.choose_lt each
  obtain ⟨b, o, spot⟩ := ad
  have hc0 := (hU 0 h0).1
  have hspot : spot = none := by simpa [Addr.add] using World.cell?_spot hc0
  subst hspot
  have hlt : b < W.heap.size := by
    rw [addr_add] at hc0
    unfold World.cell? at hc0
    cases hh : W.heap[b]? with
    | none => rw [hh] at hc0; simp at hc0
    | some y => exact (Array.getElem?_eq_some_iff.1 hh).1
  refine ⟨b, o, U, rfl, ⟨hlt, ?_, ?_, ?_, ?_, ?_, ?_, fun i hi => (hU i hi).2.2.2.2.2.2.2.2⟩, fun i hi => (hU i hi).2.2.2.2.2.2.1, fun i hi => (hU i hi).2.2.2.2.2.2.2.1⟩
  · intro i hi; have := (hU i hi).1; rwa [addr_add] at this
  · intro i hi; have := (hU i hi).2.1; rwa [addr_add] at this
  · intro i hi; have := (hU i hi).2.2.1; rwa [addr_add] at this
  · intro i hi; have := (hU i hi).2.2.2.1; rwa [addr_add] at this
  · intro i hi; have := (hU i hi).2.2.2.2.1; rwa [addr_add] at this
  · intro i hi; have := (hU i hi).2.2.2.2.2.1; rwa [addr_add] at this

theorem block_lt {W : World} {b o : Nat} {v : Value} (h : W.cell? ⟨b, o, none⟩ = some v) : b < W.heap.size := by
  unfold World.cell? at h
  cases hh : W.heap[b]? with
  | none => rw [hh] at h; simp at h
  | some y => exact (Array.getElem?_eq_some_iff.1 hh).1

theorem open_row {H : Type} {enc : TypeId × Value → H} {W : World} {base fuel : Nat} {spare : Nat → Bool} {held : Bool} {a : Option Addr} {len cap : Nat} {x : DataW H × List MemPlace} {t e : TypeId} {k : IntKind}
    (ht : Yba.prog.underlying t = some (.slice e)) (he : Yba.prog.underlying e = some (.int k)) (hc : Yba.prog.cellsOf e = 1)
    (h : DataW.trod enc Yba.prog W base spare held fuel t [.slice a len cap] = some x) :
    ∃ F : Nat → Int, 0 < len → ∃ b o, a = some ⟨b, o, none⟩ ∧ b < W.heap.size ∧ ∀ j, j < len → W.cell? ⟨b, o + j, none⟩ = some (.int k (F j)) ∧ (Lit.int k (F j)).wf = true := by
  rcases open_ints ht he hc h with ⟨hcs, _⟩ | ⟨ad, l, c, zs, hcs, _, hl, hm, hz, _, hcell, hwz⟩
  · simp at hcs
    exact ⟨fun _ => 0, fun h0 => by omega⟩
  · simp at hcs
    obtain ⟨rfl, rfl, rfl⟩ := hcs
    refine ⟨fun j => zs.getD j 0, fun h0 => ?_⟩
    have hzl : len ≤ zs.length := by rw [hz]; split <;> omega
    obtain ⟨b, o, spot⟩ := ad
    have hc0 := hcell 0 (by omega)
    have hspot : spot = none := by simpa [Addr.add] using World.cell?_spot hc0
    subst hspot
    rw [addr_add] at hc0
    refine ⟨b, o, rfl, block_lt hc0, fun j hj => ?_⟩
    have h1 := hcell j (by omega)
    rw [addr_add] at h1
    exact ⟨h1, hwz _ (by simp [List.getD, show j < zs.length by omega])⟩

theorem walk (a0 af al : Option Addr) (n c0 nf cf nl cl : Nat) (peers sel : Int) (w : World) (h0 : IsUps w a0 n) (hp : (Lit.int .u8 peers).wf = true) (hs : (Lit.int .u64 sel).wf = true) (F lf : Nat → Int)
    (hF : 0 < nf → ∃ b o, af = some ⟨b, o, none⟩ ∧ b < w.heap.size ∧ ∀ j, j < nf → w.cell? ⟨b, o + j, none⟩ = some (.int .i32 (F j)) ∧ (Lit.int .i32 (F j)).wf = true)
    (hL : 0 < nl → ∃ b o, al = some ⟨b, o, none⟩ ∧ b < w.heap.size ∧ ∀ j, j < nl → w.cell? ⟨b, o + j, none⟩ = some (.int .u8 (lf j)) ∧ (Lit.int .u8 (lf j)).wf = true) :
    Calls Yba.prog 4 #[.slice a0 n c0, .int .u8 peers, .int .u64 sel, .slice af nf cf, .slice al nl cl] w fun e w' => e = .returned (.bool true) ∧ Below w.heap.size w w' := by
  have go : Calls Yba.prog 4 #[.slice a0 n c0, .int .u8 peers, .int .u64 sel, .slice af nf cf, .slice al nl cl] w fun e w' => e = .returned (.bool true) ∧ Chg w w' (fun _ => False) := by
    by_cases hlong : 65536 < n ∨ 1048576 < nf
    · exact main_long a0 af n c0 nf cf _ _ _ w hlong
    by_cases hz : n = 0
    · subst hz; exact main_none a0 af c0 nf cf _ _ _ w (by omega)
    obtain ⟨b, o, U, rfl, hU, h1, h2⟩ := h0 (by omega)
    have hpp := wf8 hp
    refine main b o n c0 nf cf nl cl af al peers sel U F lf w (by omega) (by omega) (by omega) hpp.1 hpp.2 (wf64 hs) hU h1 h2 ⟨Nat.le_refl _, fun h => ?_⟩ ⟨Nat.le_refl _, fun h => ?_⟩
    · obtain ⟨bf, of, e1, e2, e3⟩ := hF h
      exact ⟨bf, of, e1, e2, fun j hj => (e3 j hj).1⟩
    · obtain ⟨bf, of, e1, e2, e3⟩ := hL h
      exact ⟨bf, of, e1, e2, fun j hj => ⟨(e3 j hj).1, wf8 (e3 j hj).2⟩⟩
  exact go.mono fun e w' ⟨he, hc⟩ => ⟨he, hc.below (Nat.le_refl _) (fun _ _ => id)⟩

/-! ### THE ROW's STEP -/
set_option maxRecDepth 100000 in
theorem lifted (os : Os) (started : os.Started) (H : Type) (enc : TypeId × Value → H) :
    ReturnsInHanded {} Yba.checked os 4 .any (Rows.lawS5405CWholeSpec.pre6 enc Yba.prog Yba.f4 Rows.lawS5405CWholeRow.domain false) (Rows.lawS5405CWholeSpec.post enc Yba.prog Yba.f4 false true false false) := by
  refine returnsInHanded_of_change (C := Yba.checked) own started (by kernel_rfl) Yba.func4
    (ChangeSpec.witness6 (enc := enc) (C := Yba.checked) false ⟨#[], #[.slice none 0 0, .int .u8 0, .int .u64 0, .slice none 0 0, .slice none 0 0], []⟩ 8 (by kernel_rfl) (by kernel_rfl) (by kernel_rfl) (by kernel_rfl)) ?_
  intro W base args ds gs before hval0 hW hcnd _
  have hval : ∀ (j : Nat) t v, Yba.f4.params[j]? = some t → args[j]? = some v → Value.okWide Yba.prog W .any base t v := hval0
  have hW' := hW
  obtain ⟨p, q, hA0, hV, rfl, hfz, hnd⟩ := hW
  have hA : DataW.TrodAll enc Yba.prog W 0 (fun _ => true) true Yba.f4.params.toList args.toList ds p := hA0
  rw [Yba.params4] at hA hval
  obtain ⟨v0, vs0, d0, ds0, p0, q0, hargs, rfl, rfl, h0, r0⟩ := trodAll_cons hA
  obtain ⟨v1, vs1, d1, ds1, p1, q1, hargs1, rfl, rfl, h1, r1⟩ := trodAll_cons r0
  obtain ⟨v2, vs2, d2, ds2, p2, q2, hargs2, rfl, rfl, h2, r2⟩ := trodAll_cons r1
  obtain ⟨v3, vs3, d3, ds3, p3, q3, hargs3, rfl, rfl, h3, r3⟩ := trodAll_cons r2
  obtain ⟨v4, vs4, d4, ds4, p4, q4, hargs4, rfl, rfl, h4, r4⟩ := trodAll_cons r3
  obtain ⟨rfl, rfl, rfl⟩ := trodAll_nil r4
  subst hargs1 hargs2 hargs3 hargs4
  obtain rfl : args = #[v0, v1, v2, v3, v4] := by cases args; simp_all
  obtain ⟨rfl, rfl⟩ := trodVars_none hV
  obtain ⟨a0, len0, cap0, rfl⟩ := okWide_slice Yba.underlying25 (hval 0 25 v0 rfl rfl)
  obtain ⟨a3, len3, cap3, rfl⟩ := okWide_slice Yba.underlying27 (hval 3 27 v3 rfl rfl)
  obtain ⟨a4, len4, cap4, rfl⟩ := okWide_slice Yba.underlying22 (hval 4 22 v4 rfl rfl)
  have k0 := h0
  have k1 := h1
  have k2 := h2
  have k3 := h3
  have k4 := h4
  obtain ⟨z1, rfl, _, _, wf1⟩ := open_int Yba.underlying5 (hval 1 5 v1 rfl rfl) h1
  obtain ⟨z2, rfl, _, _, wf2⟩ := open_int Yba.underlying26 (hval 2 26 v2 rfl rfl) h2
  have lt0 : ∀ x ∈ p0, x.block < W.heap.size := by obtain ⟨m, hm⟩ := k0; exact DataW.trod_lt m _ _ _ hm
  have lt1 : ∀ x ∈ p1, x.block < W.heap.size := by obtain ⟨m, hm⟩ := k1; exact DataW.trod_lt m _ _ _ hm
  have lt2 : ∀ x ∈ p2, x.block < W.heap.size := by obtain ⟨m, hm⟩ := k2; exact DataW.trod_lt m _ _ _ hm
  have lt3 : ∀ x ∈ p3, x.block < W.heap.size := by obtain ⟨m, hm⟩ := k3; exact DataW.trod_lt m _ _ _ hm
  have lt4 : ∀ x ∈ p4, x.block < W.heap.size := by obtain ⟨m, hm⟩ := k4; exact DataW.trod_lt m _ _ _ hm
  have w0 : IsUps W a0 len0 := by obtain ⟨m, hm⟩ := h0; exact open_ups hm
  obtain ⟨F, hF⟩ : ∃ F : Nat → Int, 0 < len3 → ∃ b o, a3 = some ⟨b, o, none⟩ ∧ b < W.heap.size ∧ ∀ j, j < len3 → W.cell? ⟨b, o + j, none⟩ = some (.int .i32 (F j)) ∧ (Lit.int .i32 (F j)).wf = true := by
    obtain ⟨m, hm⟩ := h3; exact open_row Yba.underlying27 Yba.underlying21 cells21 hm
  obtain ⟨lf, hL⟩ : ∃ F : Nat → Int, 0 < len4 → ∃ b o, a4 = some ⟨b, o, none⟩ ∧ b < W.heap.size ∧ ∀ j, j < len4 → W.cell? ⟨b, o + j, none⟩ = some (.int .u8 (F j)) ∧ (Lit.int .u8 (F j)).wf = true := by
    obtain ⟨m, hm⟩ := h4; exact open_row Yba.underlying22 Yba.underlying5 cells5 hm
  clear hA0 hval0
  refine (walk a0 a3 a4 len0 cap0 len3 cap3 len4 cap4 z1 z2 W w0 wf1 wf2 F lf hF hL).mono fun e W' ⟨he, bel⟩ => ?_
  subst he
  exact ⟨_, rfl, _, _, _, [], _, [], hW', trodAll_mk1 (shut_bool Yba.underlying4 _),
    (trodAll_cons_mk (Below.trod laidOut (by kernel_rfl) (of_decide_eq_true (by kernel_rfl)) k0 bel lt0) (trodAll_cons_mk (Below.trod laidOut (by kernel_rfl) (of_decide_eq_true (by kernel_rfl)) k1 bel lt1)
      (trodAll_cons_mk (Below.trod laidOut (by kernel_rfl) (of_decide_eq_true (by kernel_rfl)) k2 bel lt2) (trodAll_cons_mk (Below.trod laidOut (by kernel_rfl) (of_decide_eq_true (by kernel_rfl)) k3 bel lt3)
        (trodAll_cons_mk (Below.trod laidOut (by kernel_rfl) (of_decide_eq_true (by kernel_rfl)) k4 bel lt4) trodAll_mk0))))), rfl, bel.frame _, fun h => by cases h⟩

theorem over : Rows.lawS5405CWholeRow.holds Yba.pinned (OpenSpec.ofChange Rows.lawS5405CWholeSpec) :=
  OpenClaim.holds_of_wide 4 Yba.f4 rfl rfl rfl rfl rfl rfl rfl ⟨rfl, rfl, rfl, rfl, rfl⟩ rfl rfl rfl rfl rfl (by kernel_rfl) Yba.func4 (by kernel_rfl)
    (of_decide_eq_true (by kernel_rfl)) (by unfold Func.isWrapper; first | (rw [if_pos (by decide +kernel)]; kernel_rfl) | (rw [if_neg (by decide +kernel)]; exact ⟨rfl, rfl⟩))
    (fun os started H enc _ => lifted os started H enc)

/-- ████ THE STATEMENT ████ -/
theorem proved : Rows.LawS5405CWholeSaid := over
#print axioms proved
end Go.Proofs.Ybulkdgxk.lawS5405CWhole
