/-
  The library's two functions on the road of LawS5408BWhole, off the shelf.
-/
import Derived.Shelf.Lay
import Derived.Shelf.Small.Bits
import Derived.Shelf.Spec.TrailingZeros
import Derived.Test.YbulkdgzaDoorProg
namespace Go.Proofs
open Go.Shelf
shelf_lay Lays.n129 Nm 129 at Ybad as Ybad.lays129
shelf_lay Lays7.n29 Nm7 29 at Ybad as Ybad.lays29
/-- math/bits.Len64. -/
theorem Ybad.bits_Len64 (x : Int) (w : World) (h0 : 0 ≤ x) (h1 : x ≤ 18446744073709551615) :
    Calls Ybad.prog 22 #[.int .u64 x] w fun e w' => e = .returned (.int .i64 (Lib.bitLen x.toNat)) ∧ w' = w := Any.bits_Len64 Ybad.lays129 x w h0 h1
/-- math/bits.TrailingZeros64. -/
theorem Ybad.bits_TrailingZeros64 (x : Nat) (hx : x < 18446744073709551616) (w : World) (hT : x ≠ 0 → TabAt 2 Lib.deBruijn64tab w) :
    Calls Ybad.prog 30 #[.int .u64 x] w fun e w' => e = .returned (.int .i64 (Lib.ctz 64 x)) ∧ w' = w := Any7.bits_TrailingZeros64 Ybad.lays29 x hx w hT
#print axioms Ybad.bits_Len64
#print axioms Ybad.bits_TrailingZeros64
end Go.Proofs
