/-
  (*upload).request (function 9) and (*tracker).takeUpload (function 7).
-/
import Derived.Test.YbulkdgxkLink
import Derived.Deep.RegionLawGrows
import Derived.Deep.LoopGhost
namespace Go.Proofs.Ybulkdgxk
open Go.RowKit C
set_option linter.unusedVariables false
set_option linter.unusedSimpArgs false

set_option maxHeartbeats 400000 in
theorem request_any (gu o : Nat) (a b : Int) (w : World) (ha : w.cell? ⟨gu, o, none⟩ = some (.int .i32 a)) (hb : w.cell? ⟨gu, o + 1, none⟩ = some (.int .i32 b)) (ha1 : -2147483648 ≤ a ∧ a ≤ 2147483647) (hb1 : -2147483648 ≤ b ∧ b ≤ 2147483647) :
    Calls Yba.prog 9 #[.pointer (some ⟨gu, o, none⟩)] w fun e w' => e = .returned (.agg #[.int .i64 a, .int .i64 b]) ∧ Chg w w' (fun _ => False) := by
  have hl := World.block_lt_of_cell? _ _ ha
  go_enter Yba.func9, Yba.ntmps9
  go_wp2
  go_region
  go_wp2
  exact bodyPost_ret (v := .agg #[.int .i64 a, .int .i64 b]) (by simp [results, Yba.results9, go_sem]) rfl ⟨rfl, ((Chg.refl _ _).alloc _).drew⟩

set_option maxRecDepth 100000 in
theorem range75 (t : Nat → Value) : ((List.range 75).map t).toArray = #[t 0, t 1, t 2, t 3, t 4, t 5, t 6, t 7, t 8, t 9, t 10, t 11, t 12, t 13, t 14, t 15, t 16, t 17, t 18, t 19, t 20, t 21, t 22, t 23, t 24, t 25, t 26, t 27, t 28, t 29, t 30, t 31, t 32, t 33, t 34, t 35, t 36, t 37, t 38, t 39, t 40, t 41, t 42, t 43, t 44, t 45, t 46, t 47, t 48, t 49, t 50, t 51, t 52, t 53, t 54, t 55, t 56, t 57, t 58, t 59, t 60, t 61, t 62, t 63, t 64, t 65, t 66, t 67, t 68, t 69, t 70, t 71, t 72, t 73, t 74] := by kernel_rfl
/-- The frame between two statements: the slots that are read later. -/
def Fk (arr : Array Value) (v0 v1 v4 v5 v6 : Value) : Prop :=
  arr.size = 75 ∧ arr.getD 0 undef = v0 ∧ arr.getD 1 undef = v1 ∧ arr.getD 4 undef = v4 ∧ arr.getD 5 undef = v5 ∧ arr.getD 6 undef = v6
theorem Fk.mk {arr : Array Value} {v0 v1 v4 v5 v6 : Value} (h : arr.size = 75) (h0 : arr.getD 0 undef = v0) (h1 : arr.getD 1 undef = v1) (h4 : arr.getD 4 undef = v4) (h5 : arr.getD 5 undef = v5) (h6 : arr.getD 6 undef = v6) : Fk arr v0 v1 v4 v5 v6 :=
  ⟨h, h0, h1, h4, h5, h6⟩
set_option maxRecDepth 100000 in
theorem Fk.open {arr : Array Value} {v0 v1 v4 v5 v6 : Value} (h : Fk arr v0 v1 v4 v5 v6) {P : Program} {c : Code} {Q : Exit → Act → World → Prop} {w : World}
    (hw : ∀ t : Nat → Value, c.wp P Q ⟨#[v0, v1, t 2, t 3, v4, v5, v6, t 7, t 8, t 9, t 10, t 11, t 12, t 13, t 14, t 15, t 16, t 17, t 18, t 19, t 20, t 21, t 22, t 23, t 24, t 25, t 26, t 27, t 28, t 29, t 30, t 31, t 32, t 33, t 34, t 35, t 36, t 37, t 38, t 39, t 40, t 41, t 42, t 43, t 44, t 45, t 46, t 47, t 48, t 49, t 50, t 51, t 52, t 53, t 54, t 55, t 56, t 57, t 58, t 59, t 60, t 61, t 62, t 63, t 64, t 65, t 66, t 67, t 68, t 69, t 70, t 71, t 72, t 73, t 74], []⟩ w) : c.wp P Q ⟨arr, []⟩ w := by
  obtain ⟨hs, h0, h1, h4, h5, h6⟩ := h
  have e : arr = ((List.range 75).map (fun k => arr.getD k undef)).toArray := by rw [← hs]; exact range_map arr
  have hw' := hw (fun k => arr.getD k undef)
  rw [e, range75]
  rw [h0, h1, h4, h5, h6]
  exact hw'

def byteF (f : Nat → Int) : Nat → Value := fun i => .int .u8 (f i)
theorem upd_byteF (f : Nat → Int) (i : Nat) (v : Int) : upd (byteF f) i (.int .u8 v) = byteF (updI f i v) := by
  funext j; unfold upd byteF updI; split <;> rfl

/-- What takeUpload finds besides: the free uploads a peer, the freed ones. -/
structure Tk (w : World) (T gu gl gg gup gf : Nat) (n np cap capu nf capf : Nat) (U : Nat → Up) (f : Nat → Value) (s : S) (G : List Nat) (cnt F : Nat → Int) : Prop where
  k : Trk w T gu gl gg n np cap U f s G
  up : RowF w gup 5 np (byteF cnt)
  fr : RowF w gf 21 nf (intF F)
  f13 : f 13 = .slice (some ⟨gup, 0, none⟩) np capu
  f32 : f 32 = .slice (some ⟨gf, 0, none⟩) nf capf
  ne : ¬ gup = T ∧ ¬ gup = gu ∧ ¬ gup = gl ∧ ¬ gup = gg ∧ ¬ gup = gf ∧ ¬ gf = T ∧ ¬ gf = gu ∧ ¬ gf = gl ∧ ¬ gf = gg

theorem Trk.chg {w w' : World} {T gu gl gg n np cap : Nat} {U : Nat → Up} {f : Nat → Value} {s : S} {G : List Nat} (h : Trk w T gu gl gg n np cap U f s G) {Z : Nat → Prop} (hc : Chg w w' Z)
    (h1 : ¬ Z T) (h2 : ¬ Z gu) (h3 : ¬ Z gl) (h4 : ¬ Z gg) : Trk w' T gu gl gg n np cap U f s G :=
  ⟨h.t.chg hc h1, h.u.chg hc h2, h.l.chg hc h3, h.g.chg hc h4, h.f17, h.f18, h.f22, h.ne⟩
theorem Tk.still {w w' : World} {T gu gl gg gup gf n np cap capu nf capf : Nat} {U : Nat → Up} {f : Nat → Value} {s : S} {G : List Nat} {cnt F : Nat → Int}
    (h : Tk w T gu gl gg gup gf n np cap capu nf capf U f s G cnt F) (hc : Chg w w' (fun _ => False)) : Tk w' T gu gl gg gup gf n np cap capu nf capf U f s G cnt F :=
  ⟨h.k.chg hc id id id id, h.up.chg hc id, h.fr.chg hc id, h.f13, h.f32, h.ne⟩

set_option maxHeartbeats 400000 in
/-- at := &t.latest[u.uploader] -/
theorem tk3 (T gu gl gg gup gf n np cap capu nf capf x : Nat) (U : Nat → Up) (f : Nat → Value) (s : S) (G : List Nat) (cnt F : Nat → Int) (arr : Array Value) (w : World) (K : Act → World → Prop) (R : Ending → World → Prop) (v4 v6 : Value)
    (hp : 1 ≤ np) (hp8 : np ≤ 8) (hx : x < n) (hs : Fk arr (.pointer (some ⟨T, 0, none⟩)) (.int .i64 x) v4 (.pointer (some ⟨gu, x * 6, none⟩)) v6)
    (h : Tk w T gu gl gg gup gf n np cap capu nf capf U f s G cnt F)
    (HQ : Hid (∀ arr' w', Fk arr' (.pointer (some ⟨T, 0, none⟩)) (.int .i64 x) v4 (.pointer (some ⟨gu, x * 6, none⟩)) (.pointer (some ⟨gl, own U np x, none⟩)) → Chg w w' (fun _ => False) → K ⟨arr', []⟩ w')) :
    Code.wp Yba.prog (stm 3 (Yba.f7.body.getD .skip)) (Exit.then K (bodyPost Yba.prog Yba.f7 R)) ⟨arr, []⟩ w := by
  refine hs.open (fun t => ?_)
  clear hs
  have c22 := (h.k.t.cell (i := 22) (by omega)).trans (congrArg some h.k.f22)
  have cu2 := (h.k.u.cell (i := x * 6 + 2) (by omega)).trans (congrArg some (usF_2 _ _ _ _))
  have hpn := own_lt U np x hp
  conv => arg 2; whnf
  go_quiet (fail)
  exact HQ.out _ _ (Fk.mk rfl rfl rfl rfl rfl rfl) ((Chg.refl _ _).drewN _)

/-- Where 'at' points behind j steps. -/
def atA (gl gu p : Nat) (c1 : List Nat) : Nat → Addr
  | 0 => ⟨gl, p, none⟩
  | j + 1 => ⟨gu, c1.getD j 0 * 6 + 3, none⟩

/-- What stands there: the j-th of the chain. -/
theorem at_cell {w : World} {T gu gl gg n np cap : Nat} {U : Nat → Up} {f : Nat → Value} {s : S} {G : List Nat} (h : Trk w T gu gl gg n np cap U f s G) {p x : Nat} {c1 c2 : List Nat} (hp : p < np)
    (hc : Chain s.1 (s.2 p) (c1 ++ x :: c2)) (hlt : ∀ i ∈ c1 ++ x :: c2, i < n) (j y : Nat) (hj : (c1 ++ x :: c2)[j]? = some y) (hj1 : j ≤ c1.length) : w.cell? (atA gl gu p c1 j) = some (.int .i32 y) := by
  have r := chain_at j y hc hj
  cases j with
  | zero =>
    have e : s.2 p = y := r.1 rfl
    have := h.l.cell hp
    rw [← e]; exact this
  | succ j =>
    have hj2 : j < c1.length := by omega
    have e0 : (c1 ++ x :: c2)[j + 1 - 1]? = some (c1.getD j 0) := by
      rw [Nat.add_sub_cancel, List.getElem?_append_left hj2, List.getElem?_eq_getElem hj2]; simp [List.getD, hj2]
    have e : s.1 (c1.getD j 0) = y := r.2 _ (by omega) e0
    have hin : c1.getD j 0 ∈ c1 ++ x :: c2 := List.mem_of_getElem? e0
    have := h.u.cell (i := c1.getD j 0 * 6 + 3) (by have := hlt _ hin; omega)
    rw [usF_3, e] at this
    exact this

theorem atA_form (gl gu p : Nat) (c1 : List Nat) (j : Nat) : ∃ b o, atA gl gu p c1 j = ⟨b, o, none⟩ := by
  cases j <;> exact ⟨_, _, rfl⟩

set_option maxHeartbeats 400000 in
/-- for int(*at) != x { at = &t.uploads[*at].next } -/
theorem tk4 (T gu gl gg gup gf n np cap capu nf capf x p : Nat) (U : Nat → Up) (f : Nat → Value) (s : S) (G : List Nat) (cnt F : Nat → Int) (c1 c2 : List Nat) (arr : Array Value) (w : World) (K : Act → World → Prop) (R : Ending → World → Prop) (v4 v5 : Value)
    (hn : n ≤ 65536) (hx : x < n) (hpn : p < np) (hs : Fk arr (.pointer (some ⟨T, 0, none⟩)) (.int .i64 x) v4 v5 (.pointer (some ⟨gl, p, none⟩)))
    (h : Tk w T gu gl gg gup gf n np cap capu nf capf U f s G cnt F)
    (hc : Chain s.1 (s.2 p) (c1 ++ x :: c2)) (hlt : ∀ i ∈ c1 ++ x :: c2, i < n) (hxc : x ∉ c1)
    (HQ : Hid (∀ arr' w', Fk arr' (.pointer (some ⟨T, 0, none⟩)) (.int .i64 x) v4 v5 (.pointer (some (atA gl gu p c1 c1.length))) → Chg w w' (fun _ => False) → K ⟨arr', []⟩ w')) :
    Code.wp Yba.prog (stm 4 (Yba.f7.body.getD .skip)) (Exit.then K (bodyPost Yba.prog Yba.f7 R)) ⟨arr, []⟩ w := by
  refine hs.open (fun t => ?_)
  clear hs
  have HH : Hid (Tk w T gu gl gg gup gf n np cap capu nf capf U f s G cnt F) := h
  have HC : Hid (Chain s.1 (s.2 p) (c1 ++ x :: c2)) := hc
  have HL : Hid (∀ i ∈ c1 ++ x :: c2, i < n) := hlt
  have HX : Hid (x ∉ c1) := hxc
  clear h hc hlt hxc
  conv => arg 2; whnf
  go_wp2
  go_loopg [6] c1.length (fun k a wr => k ≤ c1.length ∧ a = .pointer (some (atA gl gu p c1 (c1.length - k))) ∧ Chg w wr (fun _ => False))
  case atStart => exact ⟨Nat.le_refl _, by rw [Nat.sub_self]; rfl, Chg.refl _ _⟩
  case round =>
    obtain ⟨hk, rfl, hchg⟩ := hrel
    obtain ⟨b, o, hbo⟩ := atA_form gl gu p c1 (c1.length - gk)
    by_cases h0 : gk = 0
    · subst h0
      have hv := at_cell (HH.out.still hchg).k hpn HC.out HL.out c1.length x (by simp) (Nat.le_refl _)
      simp only [Nat.sub_zero] at hbo ⊢
      rw [hbo] at hv
      have HB : Hid (atA gl gu p c1 c1.length = ⟨b, o, none⟩) := hbo
      rw [hbo]
      clear hbo
      go_wp2
      exact HQ.out _ _ (Fk.mk rfl rfl rfl rfl rfl (by rw [HB.out]; rfl)) hchg
    · obtain ⟨j, hj⟩ : ∃ j, j = c1.length - gk := ⟨_, rfl⟩
      have hjl : j < c1.length := by omega
      obtain ⟨y, hy⟩ : ∃ y, y = c1.getD j 0 := ⟨_, rfl⟩
      have hy1 : c1[j]? = some y := by rw [hy, List.getElem?_eq_getElem hjl]; simp [List.getD, hjl]
      have hyc : y ∈ c1 := List.mem_of_getElem? hy1
      have hyn : y < n := HL.out y (by simp [hyc])
      have hyx : ((y : Int) != (x : Int)) = true := by
        have : y ≠ x := fun e => HX.out (by rw [← e]; exact hyc)
        simp; omega
      have htk := (HH.out.still hchg).k
      have hv := at_cell htk hpn HC.out HL.out j y (by rw [List.getElem?_append_left hjl]; exact hy1) (by omega)
      have c17 := (htk.t.cell (i := 17) (by omega)).trans (congrArg some htk.f17)
      rw [← hj] at hbo ⊢
      rw [hbo] at hv ⊢
      have HJ : Hid (j = c1.length - gk) := hj
      have HY : Hid (y = c1.getD j 0) := hy
      clear hbo htk hj hy hy1 hyc
      go_wp2
      go_quiet (fail)
      go_wp2
      go_roundg (gk - 1)
      case measure => omega
      case rel =>
        refine ⟨by omega, ?_, hchg.drewN _⟩
        have e : c1.length - (gk - 1) = j + 1 := by have := HJ.out; omega
        rw [e, atA, ← HY.out]

theorem atA_last (gl gu p : Nat) (a : Nat) (l : List Nat) : atA gl gu p (a :: l) (a :: l).length = ⟨gu, ((a :: l).getLast (by simp)) * 6 + 3, none⟩ := by
  have e : (a :: l).getD l.length 0 = (a :: l).getLast (by simp) := by
    rw [List.getLast_eq_getElem]
    simp [List.getD]
  show (⟨gu, (a :: l).getD l.length 0 * 6 + 3, none⟩ : Addr) = _
  rw [e]

/-- What the two stores leave. -/
theorem Trk.take {w : World} {T gu gl gg n np cap : Nat} {U : Nat → Up} {f : Nat → Value} {s : S} {G : List Nat} (h : Trk w T gu gl gg n np cap U f s G) (x p : Nat) (c1 : List Nat) :
    Trk ((w.setCell (atA gl gu p c1 c1.length) (.int .i32 (s.1 x))).setCell ⟨gu, x * 6 + 3, none⟩ (.int .i32 (-2))) T gu gl gg n np cap U f (takenS s x p c1) G := by
  obtain ⟨ht, hu, hl, hg, h17, h18, h22, n1, n2, n3, n4, n5, n6⟩ := h
  cases c1 with
  | nil =>
    refine ⟨(ht.other (fun e => n2 e.symm) _).other (fun e => n1 e.symm) _, ?_, ?_, (hg.other n6 _).other n5 _, h17, h18, h22, n1, n2, n3, n4, n5, n6⟩
    · have := (hu.other (a := atA gl gu p [] 0) (fun e => n4 e.symm) (.int .i32 (s.1 x))).set (x * 6 + 3) (.int .i32 (-2))
      rw [upd_usF] at this; exact this
    · have := hl.set p (.int .i32 (s.1 x))
      rw [upd_intF] at this
      exact this.other n4 _
  | cons a l =>
    rw [atA_last]
    refine ⟨(ht.other (fun e => n1 e.symm) _).other (fun e => n1 e.symm) _, ?_, (hl.other n4 _).other n4 _, (hg.other n5 _).other n5 _, h17, h18, h22, n1, n2, n3, n4, n5, n6⟩
    have := (hu.set (((a :: l).getLast (by simp)) * 6 + 3) (.int .i32 (s.1 x))).set (x * 6 + 3) (.int .i32 (-2))
    rw [upd_usF, upd_usF] at this
    exact this

theorem atA_free {w : World} {T gu gl gg n np cap : Nat} {U : Nat → Up} {f : Nat → Value} {s : S} {G : List Nat} (h : Trk w T gu gl gg n np cap U f s G) (p : Nat) (c1 : List Nat) (j : Nat) : w.frozen? (atA gl gu p c1 j) = false := by
  cases j with
  | zero => exact h.l.free _
  | succ j => exact h.u.free _

theorem atA_ne {gl gu p x : Nat} {c1 : List Nat} (hg : ¬ gu = gl) (hx : x ∉ c1) : atA gl gu p c1 c1.length ≠ ⟨gu, x * 6 + 3, none⟩ := by
  cases c1 with
  | nil => intro e; exact hg (congrArg Addr.block e).symm
  | cons a l =>
    rw [atA_last]
    intro e
    have e2 := congrArg Addr.off e
    have : (a :: l).getLast (by simp) = x := by simp only at e2; omega
    exact hx (by rw [← this]; exact List.getLast_mem _)

set_option maxHeartbeats 400000 in
/-- *at, u.next = u.next, takenBack -/
theorem tk5 (T gu gl gg gup gf n np cap capu nf capf x p : Nat) (U : Nat → Up) (f : Nat → Value) (s : S) (G : List Nat) (cnt F : Nat → Int) (c1 c2 : List Nat) (arr : Array Value) (w : World) (K : Act → World → Prop) (R : Ending → World → Prop) (v4 : Value)
    (hn : n ≤ 65536) (hx : x < n) (hpn : p < np) (hs : Fk arr (.pointer (some ⟨T, 0, none⟩)) (.int .i64 x) v4 (.pointer (some ⟨gu, x * 6, none⟩)) (.pointer (some (atA gl gu p c1 c1.length))))
    (h : Tk w T gu gl gg gup gf n np cap capu nf capf U f s G cnt F)
    (hc : Chain s.1 (s.2 p) (c1 ++ x :: c2)) (hlt : ∀ i ∈ c1 ++ x :: c2, i < n) (hxc : x ∉ c1)
    (HQ : Hid (∀ arr' w', Fk arr' (.pointer (some ⟨T, 0, none⟩)) (.int .i64 x) v4 (.pointer (some ⟨gu, x * 6, none⟩)) (.pointer (some (atA gl gu p c1 c1.length))) → Tk w' T gu gl gg gup gf n np cap capu nf capf U f (takenS s x p c1) G cnt F → Chg w w' (fun k => k = gu ∨ k = gl) → K ⟨arr', []⟩ w')) :
    Code.wp Yba.prog (stm 5 (Yba.f7.body.getD .skip)) (Exit.then K (bodyPost Yba.prog Yba.f7 R)) ⟨arr, []⟩ w := by
  have hv := at_cell h.k hpn hc hlt c1.length x (by simp) (Nat.le_refl _)
  have hfr := atA_free h.k p c1 c1.length
  have hne := atA_ne (p := p) h.k.ne.2.2.2.1 hxc
  have cu3 := (h.k.u.cell (i := x * 6 + 3) (by omega)).trans (congrArg some (usF_3 _ _ _ _))
  have fu3 := h.k.u.free (x * 6 + 3)
  have hT : Hid (Trk ((w.setCell (atA gl gu p c1 c1.length) (.int .i32 (s.1 x))).setCell ⟨gu, x * 6 + 3, none⟩ (.int .i32 (-2))) T gu gl gg n np cap U f (takenS s x p c1) G) := h.k.take x p c1
  have hblk : (atA gl gu p c1 c1.length).block = gu ∨ (atA gl gu p c1 c1.length).block = gl := by
    cases c1 with
    | nil => exact .inr rfl
    | cons a l => exact .inl rfl
  obtain ⟨b, o, hbo⟩ := atA_form gl gu p c1 c1.length
  have HB : Hid (atA gl gu p c1 c1.length = ⟨b, o, none⟩) := hbo
  rw [hbo] at hs hv hfr hne hT hblk
  obtain ⟨vx, hvx⟩ : ∃ v, v = s.1 x := ⟨_, rfl⟩
  rw [← hvx] at cu3 hT
  have hc2 : (w.setCell ⟨b, o, none⟩ (.int .i32 vx)).cell? ⟨gu, x * 6 + 3, none⟩ = some (.int .i32 vx) := by rw [World.cell?_setCell_other (h := hne)]; exact cu3
  have HH : Hid (Tk w T gu gl gg gup gf n np cap capu nf capf U f s G cnt F) := h
  have HBl : Hid (b = gu ∨ b = gl) := hblk
  clear h hc hlt hxc hbo hvx hblk
  refine hs.open (fun t => ?_)
  clear hs
  conv => arg 2; whnf
  go_wp2
  obtain ⟨hk, hup, hfrd, f13, f32, n1, n2, n3, n4, n5, n6, n7, n8, n9⟩ := HH.out
  have hb1 : ¬ b = gup := by rcases HBl.out with e | e <;> (subst e; intro e2; first | exact n2 e2.symm | exact n3 e2.symm)
  have hb2 : ¬ b = gf := by rcases HBl.out with e | e <;> (subst e; intro e2; first | exact n7 e2.symm | exact n8 e2.symm)
  refine HQ.out _ _ (Fk.mk rfl rfl rfl rfl rfl (by rw [HB.out]; rfl)) ⟨hT.out, (hup.other hb1 _).other (fun e => n2 e.symm) _, (hfrd.other hb2 _).other (fun e => n7 e.symm) _, f13, f32, n1, n2, n3, n4, n5, n6, n7, n8, n9⟩ ?_
  exact ((Chg.refl _ _).setCell (.inl HBl.out) _).setCell (.inl (.inl rfl)) _

set_option maxHeartbeats 400000 in
/-- t.upLeft[u.uploader]++ -/
theorem tk6 (T gu gl gg gup gf n np cap capu nf capf x p : Nat) (U : Nat → Up) (f : Nat → Value) (s : S) (G : List Nat) (cnt F : Nat → Int) (arr : Array Value) (w : World) (K : Act → World → Prop) (R : Ending → World → Prop) (v4 v6 : Value)
    (hn : n ≤ 65536) (hx : x < n) (hpn : p < np) (hp8 : np ≤ 8) (hp : own U np x = p) (hcnt : 0 ≤ cnt p ∧ cnt p ≤ 3) (hs : Fk arr (.pointer (some ⟨T, 0, none⟩)) (.int .i64 x) v4 (.pointer (some ⟨gu, x * 6, none⟩)) v6)
    (h : Tk w T gu gl gg gup gf n np cap capu nf capf U f s G cnt F)
    (HQ : Hid (∀ arr' w', Fk arr' (.pointer (some ⟨T, 0, none⟩)) (.int .i64 x) v4 (.pointer (some ⟨gu, x * 6, none⟩)) v6 → Tk w' T gu gl gg gup gf n np cap capu nf capf U f s G (updI cnt p (cnt p + 1)) F → Chg w w' (fun k => k = gup) → K ⟨arr', []⟩ w')) :
    Code.wp Yba.prog (stm 6 (Yba.f7.body.getD .skip)) (Exit.then K (bodyPost Yba.prog Yba.f7 R)) ⟨arr, []⟩ w := by
  have c13 := (h.k.t.cell (i := 13) (by omega)).trans (congrArg some h.f13)
  have cu2 := (h.k.u.cell (i := x * 6 + 2) (by omega)).trans (congrArg some (usF_2 _ _ _ _))
  rw [hp] at cu2
  have cp := h.up.cell hpn
  have fp := h.up.free p
  simp only [byteF] at cp
  obtain ⟨c, hc⟩ : ∃ c, c = cnt p := ⟨_, rfl⟩
  have hset := h.up.set p (.int .u8 (cnt p + 1))
  rw [upd_byteF] at hset
  rw [← hc] at cp hcnt HQ hset
  have HS : Hid (RowF (w.setCell ⟨gup, p, none⟩ (.int .u8 (c + 1))) gup 5 np (byteF (updI cnt p (c + 1)))) := hset
  have HH : Hid (Tk w T gu gl gg gup gf n np cap capu nf capf U f s G cnt F) := h
  clear hc h hset
  refine hs.open (fun t => ?_)
  clear hs
  conv => arg 2; whnf
  have hwr : IntKind.u8.wrap (c + 1) = c + 1 := by rw [IntKind.wrap_u8]; omega
  go_region
  all_goals
    obtain ⟨hk, hup, hfrd, f13, f32, n1, n2, n3, n4, n5, n6, n7, n8, n9⟩ := HH.out
    refine HQ.out _ _ (Fk.mk rfl rfl rfl rfl rfl rfl) ⟨(hk.chg ((Chg.refl w (fun k => k = gup)).setCell (.inl rfl) _) (fun e => n1 e.symm) (fun e => n2 e.symm) (fun e => n3 e.symm) (fun e => n4 e.symm)).chg ((Chg.refl _ (fun _ => False)).drew) id id id id, HS.out.drew, (hfrd.other n5 _).drew, f13, f32, n1, n2, n3, n4, n5, n6, n7, n8, n9⟩ ?_
    exact ((Chg.refl w (fun k => k = gup)).setCell (.inl rfl) _).drew

theorem info21 : (Yba.prog.info? 21).map (fun i => (i.zero, i.size, i.bytes)) = some (some (.int .i32 0), 1, 4) := by kernel_rfl

theorem addr_zero (g j : Nat) : (⟨g, 0, none⟩ : Addr).add j = ⟨g, j, none⟩ := by unfold Addr.add; split <;> simp_all

/-- append(xs, x) where xs has no room, as one step of a region: a new row. -/
theorem step_app {ops : Array Oper} {o : Oper} {a : Act} {w : World} {K : Act → World → Prop} {Q : Exit → Act → World → Prop} {E : Prop}
    (hg : o.guard = none) (s x : Operand) (hop : o.op = Op.call { callee := Callee.builtin Builtin.append, args := #[s, x], argTypes := #[27, 27] })
    (gf nf : Nat) (F : Nat → Int) (v : Int) (ad : Nat) (hs : a.eval s = .slice (some ⟨gf, 0, none⟩) nf nf) (hx : a.eval x = .slice (some ⟨ad, 0, none⟩) 1 1) (hnf : nf ≤ 1048576) (hF : RowF w gf 21 nf (intF F)) (hc : w.cell? ⟨ad, 0, none⟩ = some (.int .i32 v))
    (hK : ∀ g cap w', w.heap.size ≤ g → nf + 1 ≤ cap → RowF w' g 21 (nf + 1) (intF (fun k => if k < nf then F k else v)) → Chg w w' (fun _ => False) → K (a.put o.dst (.slice (some ⟨g, 0, none⟩) (nf + 1) cap)) w') :
    if Region.wanted o (yielded ops a.tmps) = true then Oper.wp Yba.prog o a w K Q else E := by
  obtain ⟨i0, hi, hz0, hz1, hz2⟩ := info_parts info21
  refine step_append_grows hg s x 27 hop 21 i0 (.int .i32 0) 1 4 Yba.underlying27 hi hz0 hz1 hz2 rfl (by decide) (some ⟨gf, 0, none⟩) nf nf ((List.range nf).map (intF F)) hs (fun h => by cases h) (by simp) ?_ ⟨ad, 0, none⟩ 1 1 [.int .i32 v] hx rfl ?_ ?_ (by omega) (by unfold maxLen; omega) (by omega) ?_
  · intro b hb j u hj
    obtain rfl : (⟨gf, 0, none⟩ : Addr) = b := Option.some.inj hb
    have hj' : j < nf := by have := (List.getElem?_eq_some_iff.1 hj).1; simpa using this
    have := hF.cell hj'
    simp [hj'] at hj
    rw [addr_zero, ← hj]; exact this
  · intro j u hj
    match j, hj with
    | 0, hj => simp at hj; subst hj; rw [addr_zero]; exact hc
  · intro u hu; simp at hu; subst hu; rfl
  · intro v' w' hown hgrow
    obtain ⟨hlen, h2⟩ := hown
    rcases h2 with ⟨_, h0⟩ | ⟨g, cap, cur, hv, hg, hh, h3, h4, h5, h6⟩
    · omega
    subst hv
    refine hK g cap w' hg h3 ⟨cur, hh, by omega, fun k hk => ?_⟩ ⟨hgrow.os, hgrow.tape, hgrow.output, hgrow.size, fun k hk _ => hgrow.block k hk (by simp)⟩
    have h7 : cur.toList[k]? = (cur.toList.take ((nf + 1) * 1))[k]? := by rw [List.getElem?_take, if_pos (by omega)]
    rw [← Array.getElem?_toList, h7, h6]
    by_cases hk2 : k < nf
    · rw [List.getElem?_append_left (by simpa using hk2)]; simp [hk2, intF]
    · obtain rfl : k = nf := by omega
      rw [List.getElem?_append_right (by simp)]; simp [intF]

theorem tk7_post {w w1 : World} {T gu gl gg gup gf n np cap capu nf : Nat} {U : Nat → Up} {f : Nat → Value} {s : S} {G : List Nat} {cnt F : Nat → Int} {p g capf : Nat} {o : Obj}
    (h : Tk w T gu gl gg gup gf n np cap capu nf nf U f s G cnt F) (hg : (w.alloc o).drew.heap.size ≤ g) (hrow : RowF w1 g 21 (nf + 1) (intF (fun k => if k < nf then F k else p))) (hchg : Chg (w.alloc o).drew w1 (fun _ => False)) :
    w.heap.size < g ∧ Tk (w1.setCell ⟨T, 32, none⟩ (.slice (some ⟨g, 0, none⟩) (nf + 1) capf)) T gu gl gg gup g n np cap capu (nf + 1) capf U (upd f 32 (.slice (some ⟨g, 0, none⟩) (nf + 1) capf)) s G cnt (fun k => if k < nf then F k else p) ∧
      Chg w (w1.setCell ⟨T, 32, none⟩ (.slice (some ⟨g, 0, none⟩) (nf + 1) capf)) (fun k => k = T) := by
  have hg' : w.heap.size < g := by have e : (w.alloc o).drew.heap.size = w.heap.size + 1 := by simp
                                   omega
  have hc : Chg w w1 (fun _ => False) := (((Chg.refl w (fun _ => False)).alloc o).drew).trans hchg
  obtain ⟨hk, hup, hfrd, f13, f32, n1, n2, n3, n4, n5, n6, n7, n8, n9⟩ := h
  have lT := hk.t.lt
  have lu := hk.u.lt
  have ll := hk.l.lt
  have lg := hk.g.lt
  have lp := hup.lt
  obtain ⟨ht, hu, hl, hgg, h17, h18, h22, m1, m2, m3, m4, m5, m6⟩ := hk.chg hc id id id id
  refine ⟨hg', ⟨⟨ht.set 32 _, hu.other m1 _, hl.other m2 _, hgg.other m3 _, h17, h18, h22, m1, m2, m3, m4, m5, m6⟩, (hup.chg hc id).other (fun e => n1 e.symm) _, hrow.other (fun e => by have : T = g := e; omega) _, f13, by simp [upd], n1, n2, n3, n4, by omega, by omega, by omega, by omega, by omega⟩, ?_⟩
  exact (hc.mono (T := fun k => k = T) (fun _ _ e => e.elim)).setCell (.inl rfl) _

set_option maxHeartbeats 400000 in
/-- t.freed = append(t.freed, u.uploader) -/
theorem tk7 (T gu gl gg gup gf n np cap capu nf x p : Nat) (U : Nat → Up) (f : Nat → Value) (s : S) (G : List Nat) (cnt F : Nat → Int) (arr : Array Value) (w : World) (K : Act → World → Prop) (R : Ending → World → Prop) (v4 v6 : Value)
    (hn : n ≤ 65536) (hx : x < n) (hpn : p < np) (hp8 : np ≤ 8) (hnf : nf ≤ 1048576) (hp : own U np x = p) (hs : Fk arr (.pointer (some ⟨T, 0, none⟩)) (.int .i64 x) v4 (.pointer (some ⟨gu, x * 6, none⟩)) v6)
    (h : Tk w T gu gl gg gup gf n np cap capu nf nf U f s G cnt F)
    (HQ : Hid (∀ arr' w' gf' capf, Fk arr' (.pointer (some ⟨T, 0, none⟩)) (.int .i64 x) v4 (.pointer (some ⟨gu, x * 6, none⟩)) v6 → w.heap.size < gf' →
      Tk w' T gu gl gg gup gf' n np cap capu (nf + 1) capf U (upd f 32 (.slice (some ⟨gf', 0, none⟩) (nf + 1) capf)) s G cnt (fun k => if k < nf then F k else p) → Chg w w' (fun k => k = T) → K ⟨arr', []⟩ w')) :
    Code.wp Yba.prog (stm 7 (Yba.f7.body.getD .skip)) (Exit.then K (bodyPost Yba.prog Yba.f7 R)) ⟨arr, []⟩ w := by
  have c32 := (h.k.t.cell (i := 32) (by omega)).trans (congrArg some h.f32)
  have f32 := h.k.t.free 32
  have cu2 := (h.k.u.cell (i := x * 6 + 2) (by omega)).trans (congrArg some (usF_2 _ _ _ _))
  rw [hp] at cu2
  have lT := h.k.t.lt
  have lu := h.k.u.lt
  have HH : Hid (Tk w T gu gl gg gup gf n np cap capu nf nf U f s G cnt F) := h
  clear h
  refine hs.open (fun t => ?_)
  clear hs
  conv => arg 2; whnf
  go_region_law (refine step_app rfl (.tmp 64) (.tmp 69) rfl gf nf F p w.heap.size (by simp [Act.eval, Act.put]) (by simp [Act.eval, Act.put]) hnf (((HH.out.fr).alloc _).drew) (by simp) ?_; intro g capf w1 hg hcap hrow hchg; have hT1 : RowF w1 T 79 140 f := (((HH.out.k.t).alloc _).drew).chg hchg id; have c32' := (hT1.cell (i := 32) (by omega)).trans (congrArg some HH.out.f32); have f32' := hT1.free 32; clear hT1)
  all_goals
    obtain ⟨q1, q2, q3⟩ := tk7_post (capf := capf) HH.out hg hrow hchg
    exact HQ.out _ _ g capf (Fk.mk rfl rfl rfl rfl rfl rfl) q1 q2 q3
end Go.Proofs.Ybulkdgxk
