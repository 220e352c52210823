/-
  THE CLOSED FACTS OF THIS DUMP FOR A WALK OVER fmt's STOPPED FRONT fmt.errorf (function 9), each by the kernel's own evaluation.
-/
import Derived.Test.YbulkdgwwFmtProg
import Derived.Stop.CallBack
import Derived.Stop.IfaceNil
import Derived.WalkKit
import Derived.WalkSpells
import Derived.WalkLawsBesides
import GoSem.ClaimData
namespace Go.Proofs.YbulkdgwwFmt
open Go.RowKit Go.Extern.Stop Go.Stop Go.Extern

theorem call9 (args : Array Value) (w : World) : (callFunc 9 args).run Ybaf.prog w = ((FmtStop.errorf #[9, 36] #[25] args).run Ybaf.prog w).andThen fun v w' => .ok (.value v) w' :=
  run_callFunc_extern Ybaf.func9 (by kernel_rfl) (by kernel_rfl) (by kernel_rfl) (by kernel_rfl) args w

theorem guardQ (name : String) (w : World) : (FmtStop.guard name).run Ybaf.prog w = .ok () w := by kernel_rfl

-- invalid %s name %q: %v
theorem fmt0r (w : World) : (FmtDoors.printed ⟨#[105, 110, 118, 97, 108, 105, 100, 32, 37, 115, 32, 110, 97, 109, 101, 32, 37, 113, 58, 32, 37, 118]⟩ 3).run Ybaf.prog w = .ok [(0, 115, false), (1, 113, false), (2, 118, false)] w := by kernel_rfl
-- a name is 1 to %d characters
theorem fmt1r (w : World) : (FmtDoors.printed ⟨#[97, 32, 110, 97, 109, 101, 32, 105, 115, 32, 49, 32, 116, 111, 32, 37, 100, 32, 99, 104, 97, 114, 97, 99, 116, 101, 114, 115]⟩ 1).run Ybaf.prog w = .ok [(0, 100, false)] w := by kernel_rfl
-- it is %d characters long, the most is %d
theorem fmt2r (w : World) : (FmtDoors.printed ⟨#[105, 116, 32, 105, 115, 32, 37, 100, 32, 99, 104, 97, 114, 97, 99, 116, 101, 114, 115, 32, 108, 111, 110, 103, 44, 32, 116, 104, 101, 32, 109, 111, 115, 116, 32, 105, 115, 32, 37, 100]⟩ 2).run Ybaf.prog w = .ok [(0, 100, false), (1, 100, false)] w := by kernel_rfl

def shape9 : List UInt8 := [12, 6, 0, 0, 0, 0, 0, 0, 0, 115, 116, 114, 105, 110, 103]
theorem op9_115w (name : String) (x : ByteArray) (w : World) : (FmtStop.operand name true 115 false (.iface 9 (.string x))).run Ybaf.prog w = .ok (shape9, FmtStop.pack x.data.toList) w := by kernel_rfl
theorem op9_113w (name : String) (x : ByteArray) (w : World) : (FmtStop.operand name true 113 false (.iface 9 (.string x))).run Ybaf.prog w = .ok (shape9, FmtStop.pack x.data.toList) w := by kernel_rfl
def shape3 : List UInt8 := [5, 3, 0, 0, 0, 0, 0, 0, 0, 105, 110, 116]
theorem op3_100w (name : String) (x : Int) (w : World) : (FmtStop.operand name true 100 false (.iface 3 (.int .i64 x))).run Ybaf.prog w = .ok (shape3, Go.Extern.Stop.digits 8 (x % 2 ^ 64).toNat) w := by kernel_rfl

theorem ptrE (w : World) : (FmtStop.ptrTo "errors.errorString").run Ybaf.prog w = .ok 38 w := by kernel_rfl
theorem elem38 (w : World) : (elemOf 38).run Ybaf.prog w = .ok 40 w := by kernel_rfl
def name38 : String := String.singleton (Char.ofNat 42) ++ "errors.errorString"
def plain38 : List UInt8 := 14 :: FmtStop.pack name38.toUTF8.data.toList
theorem opPlain38_118w (name : String) (a : Addr) (s : ByteArray) (w : World) (hc : w.cell? a = some (.string s)) :
    (FmtStop.operand name true 118 false (.iface 38 (.pointer (some a)))).run Ybaf.prog w = .ok (plain38, s.data.toList) w := by
  have h1 : (typeStr 38).run Ybaf.prog w = .ok name38 w := by kernel_rfl
  have d2 : Ybaf.t38.desc = .pointer 40 := rfl
  have d3 : Ybaf.t40.desc = .named "errors.errorString" 39 := rfl
  simp [FmtStop.operand, h1, d2, d3, run_load, hc, plain38]
end Go.Proofs.YbulkdgwwFmt
