/-
  BLOCKS OF THE CALL's OWN, whole: 'Blk w g E xs': block g of world w is an unmarked row of cells of type E that holds just xs. What a store, a new block, a draw do to it. No program in sight.
-/
import Derived.WalkKit
import Derived.WalkSpells
import Derived.WalkLawsBesides
namespace Go.Proofs.Ybulkdgxk
open Go.RowKit

/-- Block g is an unmarked row of cells of type E that holds just xs. -/
def Blk (w : World) (g : Nat) (E : TypeId) (xs : List Value) : Prop := w.heap[g]? = some (.cells xs.toArray E (0, 0))

section
variable {w w' : World} {g g' : Nat} {E : TypeId} {xs : List Value}

theorem Blk.lt (h : Blk w g E xs) : g < w.heap.size := (Array.getElem?_eq_some_iff.1 h).1
theorem Blk.cell (h : Blk w g E xs) (i : Nat) : w.cell? ⟨g, i, none⟩ = xs[i]? := by
  unfold World.cell?; rw [show w.heap[(⟨g, i, none⟩ : Addr).block]? = _ from h]; simp
theorem Blk.cellAt (h : Blk w g E xs) {i : Nat} {v : Value} (hv : xs[i]? = some v) : w.cell? ⟨g, i, none⟩ = some v := (h.cell i).trans hv
theorem Blk.free (h : Blk w g E xs) (i : Nat) : w.frozen? ⟨g, i, none⟩ = false := by
  unfold World.frozen?; rw [show w.heap[(⟨g, i, none⟩ : Addr).block]? = _ from h]; simp
theorem Blk.set (h : Blk w g E xs) (i : Nat) (v : Value) : Blk (w.setCell ⟨g, i, none⟩ v) g E (xs.set i v) := by
  unfold Blk at h ⊢
  simp only [World.setCell, Array.getElem?_modify, if_true, h, Option.map_some]
  simp
theorem Blk.other (h : Blk w g E xs) {a : Addr} (ha : a.block ≠ g) (v : Value) : Blk (w.setCell a v) g E xs := by
  unfold Blk at h ⊢
  rw [Below.heap_setCell _ _ _ _ (fun e => ha e.symm)]; exact h
theorem Blk.alloc (h : Blk w g E xs) (o : Obj) : Blk (w.alloc o) g E xs := by
  unfold Blk; rw [Below.heap_alloc _ _ _ h.lt]; exact h
theorem Blk.drew (h : Blk w g E xs) : Blk w.drew g E xs := h
theorem Blk.below {B : Nat} (h : Blk w g E xs) (hb : Below B w w') (hg : g < B) : Blk w' g E xs := (hb.block g hg).trans h
theorem Blk.new (w : World) (E : TypeId) (xs : List Value) : Blk (w.alloc (.cells xs.toArray E)) w.heap.size E xs := by
  show (w.heap.push _)[w.heap.size]? = _; simp
theorem Blk.newA (w : World) (E : TypeId) (c : Array Value) : Blk (w.alloc (.cells c E)) w.heap.size E c.toList := by
  show (w.heap.push _)[w.heap.size]? = _; simp
theorem Blk.ofGrown {r : Option Nat} (h : Blk w g E xs) (hg : w.grownBy w' r) (hr : r ≠ some g) : Blk w' g E xs := (hg.block g h.lt (fun e => hr e.symm)).trans h
end
end Go.Proofs.Ybulkdgxk
