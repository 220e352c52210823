/-
  math/bits.Len64 (14), off the shelf.
-/
import Derived.Shelf.Lay
import Derived.Shelf.Small.Bits
import Derived.Test.YbulkdgzaProg
namespace Go.Proofs
open Go.Shelf
shelf_lay Lays.n129 Nm 129 at Yba as Yba.lays129
/-- math/bits.Len64. -/
theorem Yba.bits_Len64 (x : Int) (w : World) (h0 : 0 ≤ x) (h1 : x ≤ 18446744073709551615) :
    Calls Yba.prog 14 #[.int .u64 x] w fun e w' => e = .returned (.int .i64 (Lib.bitLen x.toNat)) ∧ w' = w := Any.bits_Len64 Yba.lays129 x w h0 h1
end Go.Proofs
