/-
  The rows of LawS5405CWhole's memory, as functions.
-/
import Derived.Test.YbulkdgxkFrame
import Derived.Test.YbulkdgxkPlainC
import Derived.Deep.Light
namespace Go.Proofs.Ybulkdgxk
open Go.RowKit C
set_option linter.unusedVariables false
set_option linter.unusedSimpArgs false

/-- One upload that came in. -/
structure Up where
  peer : Int
  place : Int
  seg : Int
  start : Int
  up : Int
  pend : Bool

/-- The uploads that came in lie in memory, and each uploader fits its kind. -/
structure Ups (w : World) (b0 o0 n : Nat) (U : Nat → Up) : Prop where
  lt : b0 < w.heap.size
  peer : ∀ i, i < n → w.cell? ⟨b0, o0 + i * 6, none⟩ = some (.int .i32 (U i).peer)
  place : ∀ i, i < n → w.cell? ⟨b0, o0 + i * 6 + 1, none⟩ = some (.int .i32 (U i).place)
  seg : ∀ i, i < n → w.cell? ⟨b0, o0 + i * 6 + 2, none⟩ = some (.int .i32 (U i).seg)
  start : ∀ i, i < n → w.cell? ⟨b0, o0 + i * 6 + 3, none⟩ = some (.int .i32 (U i).start)
  up : ∀ i, i < n → w.cell? ⟨b0, o0 + i * 6 + 4, none⟩ = some (.int .u8 (U i).up)
  pend : ∀ i, i < n → w.cell? ⟨b0, o0 + i * 6 + 5, none⟩ = some (.bool (U i).pend)
  upr : ∀ i, i < n → 0 ≤ (U i).up ∧ (U i).up ≤ 255

theorem Chg.cell {w w' : World} {S : Nat → Prop} (h : Chg w w' S) {b o : Nat} (hb : b < w.heap.size) (hs : ¬ S b) : w'.cell? ⟨b, o, none⟩ = w.cell? ⟨b, o, none⟩ :=
  World.cell?_of_block (h.block b hb hs)

theorem Ups.chg {w w' : World} {b0 o0 n : Nat} {U : Nat → Up} (h : Ups w b0 o0 n U) {S : Nat → Prop} (hc : Chg w w' S) (hs : ¬ S b0) : Ups w' b0 o0 n U :=
  ⟨Nat.lt_of_lt_of_le h.lt hc.size, fun i hi => (hc.cell h.lt hs).trans (h.peer i hi), fun i hi => (hc.cell h.lt hs).trans (h.place i hi), fun i hi => (hc.cell h.lt hs).trans (h.seg i hi),
    fun i hi => (hc.cell h.lt hs).trans (h.start i hi), fun i hi => (hc.cell h.lt hs).trans (h.up i hi), fun i hi => (hc.cell h.lt hs).trans (h.pend i hi), h.upr⟩

/-- The uploader, reduced. -/
def own (U : Nat → Up) (np : Nat) (i : Nat) : Nat := ((U i).up % np).toNat
theorem own_lt (U : Nat → Up) (np i : Nat) (h : 1 ≤ np) : own U np i < np := by unfold own; have := Int.emod_lt_of_pos (U i).up (show (0 : Int) < np by omega); have := Int.emod_nonneg (U i).up (show (np : Int) ≠ 0 by omega); omega
theorem own_eq (U : Nat → Up) (np i : Nat) (h : 1 ≤ np) : (own U np i : Int) = (U i).up % np := by unfold own; have := Int.emod_nonneg (U i).up (show (np : Int) ≠ 0 by omega); omega

/-- A row of int32s. -/
def intF (f : Nat → Int) : Nat → Value := fun i => .int .i32 (f i)
def ownF (U : Nat → Up) (np : Nat) : Nat → Value := intF (fun i => own U np i)

theorem upd_intF (f : Nat → Int) (i : Nat) (v : Int) : upd (intF f) i (.int .i32 v) = intF (updI f i v) := by
  funext j; unfold upd intF updI; split <;> rfl

/-- The row of uploads: six cells each. -/
def usF (U : Nat → Up) (np : Nat) (next : Nat → Int) (k : Nat) : Value :=
  if k % 6 = 0 then .int .i32 (U (k / 6)).peer else if k % 6 = 1 then .int .i32 (U (k / 6)).place else if k % 6 = 2 then .int .i32 (own U np (k / 6))
  else if k % 6 = 3 then .int .i32 (next (k / 6)) else if k % 6 = 4 then .int .i32 (U (k / 6)).seg else .int .i32 (U (k / 6)).start

theorem usF_0 (U : Nat → Up) (np : Nat) (next : Nat → Int) (i : Nat) : usF U np next (i * 6) = .int .i32 (U i).peer := by
  unfold usF; rw [if_pos (by omega), show i * 6 / 6 = i by omega]
theorem usF_1 (U : Nat → Up) (np : Nat) (next : Nat → Int) (i : Nat) : usF U np next (i * 6 + 1) = .int .i32 (U i).place := by
  unfold usF; rw [if_neg (by omega), if_pos (by omega), show (i * 6 + 1) / 6 = i by omega]
theorem usF_2 (U : Nat → Up) (np : Nat) (next : Nat → Int) (i : Nat) : usF U np next (i * 6 + 2) = .int .i32 (own U np i) := by
  unfold usF; rw [if_neg (by omega), if_neg (by omega), if_pos (by omega), show (i * 6 + 2) / 6 = i by omega]
theorem usF_3 (U : Nat → Up) (np : Nat) (next : Nat → Int) (i : Nat) : usF U np next (i * 6 + 3) = .int .i32 (next i) := by
  unfold usF; rw [if_neg (by omega), if_neg (by omega), if_neg (by omega), if_pos (by omega), show (i * 6 + 3) / 6 = i by omega]
theorem usF_4 (U : Nat → Up) (np : Nat) (next : Nat → Int) (i : Nat) : usF U np next (i * 6 + 4) = .int .i32 (U i).seg := by
  unfold usF; rw [if_neg (by omega), if_neg (by omega), if_neg (by omega), if_neg (by omega), if_pos (by omega), show (i * 6 + 4) / 6 = i by omega]
theorem usF_5 (U : Nat → Up) (np : Nat) (next : Nat → Int) (i : Nat) : usF U np next (i * 6 + 5) = .int .i32 (U i).start := by
  unfold usF; rw [if_neg (by omega), if_neg (by omega), if_neg (by omega), if_neg (by omega), if_neg (by omega), show (i * 6 + 5) / 6 = i by omega]

theorem upd_usF (U : Nat → Up) (np : Nat) (next : Nat → Int) (i : Nat) (v : Int) : upd (usF U np next) (i * 6 + 3) (.int .i32 v) = usF U np (updI next i v) := by
  funext k
  unfold upd
  by_cases e : k = i * 6 + 3
  · subst e; rw [if_pos rfl, usF_3, updI_same]
  · rw [if_neg e]
    unfold usF
    by_cases h3 : k % 6 = 3
    · have hk : k / 6 ≠ i := by omega
      rw [updI_ne _ _ _ _ hk]
    · rw [if_neg h3, if_neg h3]

/-- What linkGiven and takeUpload find: the tracker's cells (140 of them, f), the uploads, the heads, the list of the given ones. -/
structure Trk (w : World) (T gu gl gg : Nat) (n np cap : Nat) (U : Nat → Up) (f : Nat → Value) (s : S) (G : List Nat) : Prop where
  t : RowF w T 79 140 f
  u : RowF w gu 32 (n * 6) (usF U np s.1)
  l : RowF w gl 21 np (intF s.2)
  g : RowF w gg 21 n (intF (fun k => (G.getD k 0 : Nat)))
  f17 : f 17 = .slice (some ⟨gu, 0, none⟩) n n
  f18 : f 18 = .slice (some ⟨gg, 0, none⟩) n cap
  f22 : f 22 = .slice (some ⟨gl, 0, none⟩) np np
  ne : ¬ T = gu ∧ ¬ T = gl ∧ ¬ T = gg ∧ ¬ gu = gl ∧ ¬ gu = gg ∧ ¬ gl = gg

theorem take_snoc (G : List Nat) (k x : Nat) (h : k < G.length) (hx : G.getD k 0 = x) : G.take (k + 1) = G.take k ++ [x] := by
  rw [List.take_succ_eq_append_getElem h]
  have : G[k] = x := by rw [← hx]; simp [List.getD, h]
  rw [this]

/-- One more entry is laid on its owner's list. -/
theorem Trk.link {w : World} {T gu gl gg n np cap : Nat} {U : Nat → Up} {f : Nat → Value} {G : List Nat} {j x p : Nat} {vl : Int} (h : Trk w T gu gl gg n np cap U f (lnk (own U np) (G.take j)) G)
    (hj : j < G.length) (hx : G.getD j 0 = x) (hp : own U np x = p) (hv : vl = (lnk (own U np) (G.take j)).2 p) :
    Trk ((w.setCell ⟨gu, x * 6 + 3, none⟩ (.int .i32 vl)).setCell ⟨gl, p, none⟩ (.int .i32 x)).drew T gu gl gg n np cap U f (lnk (own U np) (G.take (j + 1))) G := by
  obtain ⟨ht, hu, hl, hg, h17, h18, h22, n1, n2, n3, n4, n5, n6⟩ := h
  have e : lnk (own U np) (G.take (j + 1)) = linkS (own U np) (lnk (own U np) (G.take j)) x := by rw [take_snoc G j x hj hx, lnk_snoc]
  rw [e]
  refine ⟨((ht.other (fun e => n1 e.symm) _).other (fun e => n2 e.symm) _).drew, ?_, ?_, ((hg.other n5 _).other n6 _).drew, h17, h18, h22, n1, n2, n3, n4, n5, n6⟩
  · have h1 := hu.set (x * 6 + 3) (.int .i32 vl)
    rw [upd_usF] at h1
    have e2 : (linkS (own U np) (lnk (own U np) (G.take j)) x).1 = updI (lnk (own U np) (G.take j)).1 x vl := by rw [linkS, hp, hv]
    rw [e2]
    exact (h1.other (fun e => n4 e.symm) _).drew
  · have h1 := (hl.other (a := ⟨gu, x * 6 + 3, none⟩) n4 (.int .i32 vl)).set p (.int .i32 x)
    rw [upd_intF] at h1
    have e2 : (linkS (own U np) (lnk (own U np) (G.take j)) x).2 = updI (lnk (own U np) (G.take j)).2 p x := by rw [linkS, hp]
    rw [e2]
    exact h1.drew
end Go.Proofs.Ybulkdgxk
