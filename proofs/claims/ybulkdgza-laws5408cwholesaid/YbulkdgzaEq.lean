/-
  Two values that are one: pointers, rows of numbers and of pointers, the whole slots struct.
-/
import Derived.Test.YbulkdgzaHeap
import Derived.Test.YbulkdgzaChecked
import Derived.LaidEql
import Derived.ChangeKeysEq
import Derived.Laws.StructEq
namespace Go.Proofs.Ybulkdgza
open Go.RowKit
set_option linter.unusedVariables false
set_option linter.unusedSimpArgs false
theorem info59 : (Yba.prog.info? 59).map (fun i => i.size) = some 12 := by kernel_rfl
theorem und47 : Yba.prog.underlying 47 = some (.pointer 59) := by kernel_rfl
theorem und47' : Yba.prog.underlying 47 = some (.pointer (Yba.prog.pointee 47)) := by kernel_rfl
theorem eqIn_same (d : Nat) (p : Option Addr) (w : World) : (Op.equalIn (d + 1) 47 (.pointer p) (.pointer p)).run Yba.prog w = .ok true w := by
  cases p with
  | none => rw [run_equalIn_pointer_nil w d 47 none und47']; rfl
  | some a =>
    cases hi : Yba.prog.info? 59 with
    | none => have := info59; rw [hi] at this; cases this
    | some j => simp [Op.equalIn, run_underlying und47, sizeOf, run_sameAddr_same, hi, typeInfo]
theorem neq_same (p : Option Addr) (w : World) : (binOp .neq 47 (.pointer p) (.pointer p)).run Yba.prog w = .ok (.bool false) w := by
  have := eqIn_same 9999 p w
  simp only [binOp]
  simp [Op.equal, Op.maxDepth, this]
theorem eql_same (p : Option Addr) (w : World) : (binOp .eql 47 (.pointer p) (.pointer p)).run Yba.prog w = .ok (.bool true) w := by
  have := eqIn_same 9999 p w
  simp only [binOp]
  simp [Op.equal, Op.maxDepth, this]
theorem items_self (d : Nat) (e : TypeId) (c : Nat) (xs ys : Array Value) (w : World) : ∀ is : List Nat, (∀ i, i ∈ is → ∃ v u, (part e xs (i * c)).run Yba.prog w = .ok v w ∧ (part e ys (i * c)).run Yba.prog w = .ok u w ∧ (Op.equalIn d e v u).run Yba.prog w = .ok true w) → (Op.eqItems d e c xs ys is).run Yba.prog w = .ok true w
  | [], _ => by simp [Op.eqItems]
  | i :: is, h => by
    obtain ⟨v, u, h1, h2, h3⟩ := h i (by simp)
    have ih := items_self d e c xs ys w is (fun j hj => h j (by simp [hj]))
    simp only [Op.eqItems, Sem.run_bind, h1, h2, h3, Result.andThen_ok]
    simpa using ih
theorem part_one (e : TypeId) (xs : Array Value) (off : Nat) (v : Value) (w : World) (h0 : (isAgg e).run Yba.prog w = .ok false w) (hx : xs[off]? = some v) : (part e xs off).run Yba.prog w = .ok v w := by
  simp only [part, Sem.run_bind, h0, Result.andThen_ok]
  simp [hx]
theorem und46 : Yba.prog.underlying 46 = some (.array 11 22) := by kernel_rfl
theorem und22 : Yba.prog.underlying 22 = some (.int .u64) := by kernel_rfl
theorem und48 : Yba.prog.underlying 48 = some (.array 64 47) := by kernel_rfl
theorem und49 : Yba.prog.underlying 49 = some (.array 11 48) := by kernel_rfl
theorem und51 : Yba.prog.underlying 51 = some (.struct (Yba.prog.fieldsOf 51)) := by kernel_rfl
theorem cells22 : Yba.prog.cellsOf 22 = 1 := by kernel_rfl
theorem cells47 : Yba.prog.cellsOf 47 = 1 := by kernel_rfl
theorem cells48 : Yba.prog.cellsOf 48 = 64 := by kernel_rfl
theorem cells46 : Yba.prog.cellsOf 46 = 11 := by kernel_rfl
theorem cells49 : Yba.prog.cellsOf 49 = 704 := by kernel_rfl
theorem held51 : Yba.prog.stoodInHeld 51 = false := by kernel_rfl
theorem fl51 : (Yba.prog.fieldsOf 51).toList.map (fun f => (f.name, f.type, f.offset)) = [("cursor", 2, 0), ("occupied", 46, 1), ("lists", 49, 12)] := by kernel_rfl
theorem und2 : Yba.prog.underlying 2 = some (.int .i64) := by kernel_rfl
theorem ag_arr {e : TypeId} {n : Nat} {k : TypeId} (w : World) (h : Yba.prog.underlying e = some (.array n k)) : (isAgg e).run Yba.prog w = .ok true w := by
  simp [isAgg, run_underlying h]
theorem ag_int {e : TypeId} {k : IntKind} (w : World) (h : Yba.prog.underlying e = some (.int k)) : (isAgg e).run Yba.prog w = .ok false w := by
  simp [isAgg, run_underlying h]
theorem ag_ptr {e k : TypeId} (w : World) (h : Yba.prog.underlying e = some (.pointer k)) : (isAgg e).run Yba.prog w = .ok false w := by
  simp [isAgg, run_underlying h]
theorem info_of (e : TypeId) (n : Nat) (h : Yba.prog.cellsOf e = n) (hn : n ≠ 0) : ∃ i, Yba.prog.info? e = some i := by
  unfold Program.cellsOf at h
  cases hi : Yba.prog.info? e with
  | none => rw [hi] at h; simp at h; omega
  | some i => exact ⟨i, rfl⟩
theorem part_agg (e : TypeId) (c : Nat) (hc : Yba.prog.cellsOf e = c) (h0 : c ≠ 0) (xs : Array Value) (off : Nat) (w : World) (ha : (isAgg e).run Yba.prog w = .ok true w) : (part e xs off).run Yba.prog w = .ok (.agg (xs.extract off (off + c))) w := by
  obtain ⟨i, hi⟩ := info_of e c hc h0
  simp only [part, Sem.run_bind, ha, Result.andThen_ok]
  simp [run_sizeOf w hi, hc]
/-- Eleven numbers against eleven. -/
theorem eq46 (d : Nat) (xs ys : Array Value) (w : World) (h : ∀ i, i < 11 → ∃ a, xs[i]? = some (.int .u64 a) ∧ ys[i]? = some (.int .u64 a)) : (Op.equalIn (d + 2) 46 (.agg xs) (.agg ys)).run Yba.prog w = .ok true w := by
  obtain ⟨i22, hi⟩ := info_of 22 1 cells22 (by omega)
  rw [run_equalIn_array w (d + 1) xs ys und46 hi, cells22]
  refine items_self _ _ _ _ _ _ _ (fun i hi => ?_)
  obtain ⟨a, h1, h2⟩ := h i (by simpa using hi)
  exact ⟨_, _, part_one 22 xs _ _ w (ag_int w und22) (by rw [Nat.mul_one]; exact h1), part_one 22 ys _ _ w (ag_int w und22) (by rw [Nat.mul_one]; exact h2), by rw [run_equalIn_int w d 22 .u64 .u64 a a und22]; simp⟩
theorem eq48 (d : Nat) (xs ys : Array Value) (w : World) (h : ∀ i, i < 64 → ∃ a, xs[i]? = some (.pointer a) ∧ ys[i]? = some (.pointer a)) : (Op.equalIn (d + 2) 48 (.agg xs) (.agg ys)).run Yba.prog w = .ok true w := by
  obtain ⟨i47, hi⟩ := info_of 47 1 cells47 (by omega)
  rw [run_equalIn_array w (d + 1) xs ys und48 hi, cells47]
  refine items_self _ _ _ _ _ _ _ (fun i hi => ?_)
  obtain ⟨a, h1, h2⟩ := h i (by simpa using hi)
  exact ⟨_, _, part_one 47 xs _ _ w (ag_ptr w und47) (by rw [Nat.mul_one]; exact h1), part_one 47 ys _ _ w (ag_ptr w und47) (by rw [Nat.mul_one]; exact h2), eqIn_same d a w⟩
theorem ext_get (xs : Array Value) (a n i : Nat) (h : a + n ≤ xs.size) (hi : i < n) : (xs.extract a (a + n))[i]? = xs[a + i]? := by
  rw [Array.getElem?_extract, if_pos (by omega)]
theorem eq49 (d : Nat) (xs ys : Array Value) (w : World) (h1 : 704 ≤ xs.size) (h2 : 704 ≤ ys.size) (h : ∀ i, i < 704 → ∃ a, xs[i]? = some (.pointer a) ∧ ys[i]? = some (.pointer a)) : (Op.equalIn (d + 3) 49 (.agg xs) (.agg ys)).run Yba.prog w = .ok true w := by
  obtain ⟨i48, hi⟩ := info_of 48 64 cells48 (by omega)
  rw [run_equalIn_array w (d + 2) xs ys und49 hi, cells48]
  refine items_self _ _ _ _ _ _ _ (fun i hi => ?_)
  have hi' : i < 11 := by simpa using hi
  refine ⟨_, _, part_agg 48 64 cells48 (by omega) xs _ w (ag_arr w und48), part_agg 48 64 cells48 (by omega) ys _ w (ag_arr w und48), eq48 d _ _ w (fun j hj => ?_)⟩
  obtain ⟨a, e1, e2⟩ := h (i * 64 + j) (by omega)
  exact ⟨a, by rw [ext_get xs _ _ _ (by omega) hj]; exact e1, by rw [ext_get ys _ _ _ (by omega) hj]; exact e2⟩
theorem three {α β : Type} (f : α → β) (l : List α) (a b c : β) (h : l.map f = [a, b, c]) : ∃ x y z, l = [x, y, z] ∧ f x = a ∧ f y = b ∧ f z = c := by
  obtain ⟨x, l1, rfl, h1, h2⟩ := List.map_eq_cons_iff.1 h
  obtain ⟨y, l2, rfl, h3, h4⟩ := List.map_eq_cons_iff.1 h2
  obtain ⟨z, l3, rfl, h5, h6⟩ := List.map_eq_cons_iff.1 h4
  rw [List.map_eq_nil_iff] at h6
  subst h6
  exact ⟨x, y, z, rfl, h1, h3, h5⟩
theorem fields_cons (d : Nat) (xs ys : Array Value) (f : Field) (fs : List Field) (a b : Value) (w : World) (hn : f.name ≠ "_") (h1 : (part f.type xs f.offset).run Yba.prog w = .ok a w) (h2 : (part f.type ys f.offset).run Yba.prog w = .ok b w) (h3 : (Op.equalIn d f.type a b).run Yba.prog w = .ok true w) (h4 : (Op.eqFields d xs ys fs).run Yba.prog w = .ok true w) : (Op.eqFields d xs ys (f :: fs)).run Yba.prog w = .ok true w := by
  simp only [Op.eqFields]
  rw [if_pos hn]
  simp only [Sem.run_bind, h1, h2, h3, Result.andThen_ok]
  simpa using h4
/-- The whole slots struct. -/
theorem eq51 (d : Nat) (xs ys : Array Value) (w : World) (s1 : xs.size = 716) (s2 : ys.size = 716) (hc : ∃ a, xs[0]? = some (.int .i64 a) ∧ ys[0]? = some (.int .i64 a)) (ho : ∀ i, i < 11 → ∃ a, xs[1 + i]? = some (.int .u64 a) ∧ ys[1 + i]? = some (.int .u64 a)) (hl : ∀ i, i < 704 → ∃ a, xs[12 + i]? = some (.pointer a) ∧ ys[12 + i]? = some (.pointer a)) :
    (Op.equalIn (d + 4) 51 (.agg xs) (.agg ys)).run Yba.prog w = .ok true w := by
  rw [run_equalIn_struct w (d + 3) 51 xs ys und51 held51]
  obtain ⟨f1, f2, f3, hq, k1, k2, k3⟩ := three _ _ _ _ _ fl51
  rw [hq]
  simp only [Prod.mk.injEq] at k1 k2 k3
  obtain ⟨n1, t1, o1⟩ := k1
  obtain ⟨n2, t2, o2⟩ := k2
  obtain ⟨n3, t3, o3⟩ := k3
  obtain ⟨a, c1, c2⟩ := hc
  have p1 := part_one 2 xs 0 _ w (ag_int w und2) c1
  have p2 := part_one 2 ys 0 _ w (ag_int w und2) c2
  have q1 := part_agg 46 11 cells46 (by omega) xs 1 w (ag_arr w und46)
  have q2 := part_agg 46 11 cells46 (by omega) ys 1 w (ag_arr w und46)
  have r1 := part_agg 49 704 cells49 (by omega) xs 12 w (ag_arr w und49)
  have r2 := part_agg 49 704 cells49 (by omega) ys 12 w (ag_arr w und49)
  have e1 := run_equalIn_int (P := Yba.prog) w (d + 2) 2 .i64 .i64 a a und2
  have e2 := eq46 (d + 1) (xs.extract 1 (1 + 11)) (ys.extract 1 (1 + 11)) w (fun i hi => by rw [ext_get xs _ _ _ (by omega) hi, ext_get ys _ _ _ (by omega) hi]; exact ho i hi)
  have e3 := eq49 d (xs.extract 12 (12 + 704)) (ys.extract 12 (12 + 704)) w (by simp; omega) (by simp; omega) (fun i hi => by rw [ext_get xs _ _ _ (by omega) hi, ext_get ys _ _ _ (by omega) hi]; exact hl i hi)
  refine fields_cons _ _ _ _ _ _ _ w (by rw [n1]; decide) (by rw [t1, o1]; exact p1) (by rw [t1, o1]; exact p2) (by rw [t1, e1]; simp) ?_
  refine fields_cons _ _ _ _ _ _ _ w (by rw [n2]; decide) (by rw [t2, o2]; exact q1) (by rw [t2, o2]; exact q2) (by rw [t2]; exact e2) ?_
  refine fields_cons _ _ _ _ _ _ _ w (by rw [n3]; decide) (by rw [t3, o3]; exact r1) (by rw [t3, o3]; exact r2) (by rw [t3]; exact e3) ?_
  simp [Op.eqFields]
end Go.Proofs.Ybulkdgza
