import Derived.Test.YbulkblsgFmtSa
import Derived.Shelf.Small.Bits
import Derived.Shelf.Lay
import Derived.Ground.NamesProg
namespace Go.Proofs
open Go.Shelf Go.RowKit Go.Lib
shelf_lay Lays.n125 Nm 125 at Ybaf as Ybaf.bl125
shelf_lay Lays.n129 Nm 129 at Ybaf as Ybaf.bl129
end Go.Proofs
namespace Go.Proofs.YbulkblsgFmt
open Go.RowKit Go.Sort
set_option linter.unusedVariables false
set_option linter.unusedSimpArgs false
theorem len_any (x : Int) (w : World) (h0 : 0 ≤ x) (h1 : x ≤ 18446744073709551615) : Calls Ybaf.prog 38 #[.int .u64 x] w fun e w' => e = .returned (.int .i64 (Lib.bitLen x.toNat)) ∧ w' = w := Any.bits_Len Ybaf.bl125 x w h0 h1
theorem len64_any (x : Int) (w : World) (h0 : 0 ≤ x) (h1 : x ≤ 18446744073709551615) : Calls Ybaf.prog 26 #[.int .u64 x] w fun e w' => e = .returned (.int .i64 (Lib.bitLen x.toNat)) ∧ w' = w := Any.bits_Len64 Ybaf.bl129 x w h0 h1
end Go.Proofs.YbulkblsgFmt
