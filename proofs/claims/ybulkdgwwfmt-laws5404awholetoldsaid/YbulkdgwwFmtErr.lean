/-
  fmt.Errorf BY ITS CONTRACTS, one a format of this program: it hands back a new error that is not nil; nothing old has turned.
-/
import Derived.Test.YbulkdgwwFmtFacts
namespace Go.Proofs.YbulkdgwwFmt
open Go.RowKit Go.Extern.Stop Go.Stop Go.Extern
attribute [local go_sem] call9 guardQ fmt0r fmt1r fmt2r op9_115w op9_113w op3_100w ptrE elem38

/-- A new error: a pointer to a text; nothing old has turned. -/
def NewErr (w : World) (e : Ending) (w' : World) : Prop :=
  ∃ a s, e = .returned (.iface 38 (.pointer (some a))) ∧ w'.cell? a = some (.string s) ∧ Below w.heap.size w w'

theorem NewErr.mk {w w' : World} {a : Addr} {s : ByteArray} (hc : w'.cell? a = some (.string s)) (hb : Below w.heap.size w w') : NewErr w (.returned (.iface 38 (.pointer (some a)))) w' := ⟨a, s, rfl, hc, hb⟩

-- a name is 1 to %d characters
theorem errorf1 (F : Interp) (x : Int) (blk : Nat) (w : World) (hF : F.answers w.tape) (hc0 : w.cell? ⟨blk, 0, none⟩ = some (.iface 3 (.int .i64 x))) :
    Calls Ybaf.prog 8 #[.string ⟨#[97, 32, 110, 97, 109, 101, 32, 105, 115, 32, 49, 32, 116, 111, 32, 37, 100, 32, 99, 104, 97, 114, 97, 99, 116, 101, 114, 115]⟩, .slice (some ⟨blk, 0, none⟩) 1 1] w (NewErr w) := by
  have hF' := answers_open hF
  go_enter Ybaf.func8, Ybaf.ntmps8
  go_wp2
  go_ret
  exact NewErr.mk (by go_simp; rfl) ((Below.refl _ _).alloc (Nat.le_refl _) _).drew
theorem errorf2 (F : Interp) (x y : Int) (blk : Nat) (w : World) (hF : F.answers w.tape) (hc0 : w.cell? ⟨blk, 0, none⟩ = some (.iface 3 (.int .i64 x))) (hc1 : w.cell? ⟨blk, 1, none⟩ = some (.iface 3 (.int .i64 y))) :
    Calls Ybaf.prog 8 #[.string ⟨#[105, 116, 32, 105, 115, 32, 37, 100, 32, 99, 104, 97, 114, 97, 99, 116, 101, 114, 115, 32, 108, 111, 110, 103, 44, 32, 116, 104, 101, 32, 109, 111, 115, 116, 32, 105, 115, 32, 37, 100]⟩, .slice (some ⟨blk, 0, none⟩) 2 2] w (NewErr w) := by
  have hF' := answers_open hF
  go_enter Ybaf.func8, Ybaf.ntmps8
  go_wp2
  go_ret
  exact NewErr.mk (by go_simp; rfl) ((Below.refl _ _).alloc (Nat.le_refl _) _).drew
theorem errorf0 (F : Interp) (k n : ByteArray) (a : Addr) (s : ByteArray) (blk : Nat) (w : World) (hF : F.answers w.tape) (hc0 : w.cell? ⟨blk, 0, none⟩ = some (.iface 9 (.string k))) (hc1 : w.cell? ⟨blk, 1, none⟩ = some (.iface 9 (.string n)))
    (hc2 : w.cell? ⟨blk, 2, none⟩ = some (.iface 38 (.pointer (some a)))) (hs : w.cell? a = some (.string s)) :
    Calls Ybaf.prog 8 #[.string ⟨#[105, 110, 118, 97, 108, 105, 100, 32, 37, 115, 32, 110, 97, 109, 101, 32, 37, 113, 58, 32, 37, 118]⟩, .slice (some ⟨blk, 0, none⟩) 3 3] w (NewErr w) := by
  have hF' := answers_open hF
  have hop := opPlain38_118w "fmt.errorf" a s w hs
  go_enter Ybaf.func8, Ybaf.ntmps8
  go_wp2
  go_ret
  exact NewErr.mk (by go_simp; rfl) ((Below.refl _ _).alloc (Nat.le_refl _) _).drew
-- a name does not begin with '.'
theorem errorf3 (w : World) :
    Calls Ybaf.prog 8 #[.string ⟨#[97, 32, 110, 97, 109, 101, 32, 100, 111, 101, 115, 32, 110, 111, 116, 32, 98, 101, 103, 105, 110, 32, 119, 105, 116, 104, 32, 39, 46, 39]⟩, .slice none 0 0] w (NewErr w) := by
  go_enter Ybaf.func8, Ybaf.ntmps8
  go_wp2
  go_ret
  exact NewErr.mk (by go_simp; rfl) ((Below.refl _ _).alloc (Nat.le_refl _) _)
-- a name holds only ASCII letters, digits, '.', '_' and '-'
theorem errorf4 (w : World) :
    Calls Ybaf.prog 8 #[.string ⟨#[97, 32, 110, 97, 109, 101, 32, 104, 111, 108, 100, 115, 32, 111, 110, 108, 121, 32, 65, 83, 67, 73, 73, 32, 108, 101, 116, 116, 101, 114, 115, 44, 32, 100, 105, 103, 105, 116, 115, 44, 32, 39, 46, 39, 44, 32, 39, 95, 39, 32, 97, 110, 100, 32, 39, 45, 39]⟩, .slice none 0 0] w (NewErr w) := by
  go_enter Ybaf.func8, Ybaf.ntmps8
  go_wp2
  go_ret
  exact NewErr.mk (by go_simp; rfl) ((Below.refl _ _).alloc (Nat.le_refl _) _)
end Go.Proofs.YbulkdgwwFmt
