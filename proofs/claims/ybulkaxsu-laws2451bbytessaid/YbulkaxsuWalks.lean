/-
  THE WALK OF fromWord (function 5), which both laws of this seat call: it hands back the eight bytes of the word, the least first, and turns nothing that was there. The library's PutUint64 (function 6) is entered in place.
-/
import Derived.Test.YbulkaxsuRows
import Derived.WalkKit
import Derived.ProofKit
import Derived.OpenShut
import Derived.ShutString
import Derived.Handy
namespace Go.Proofs.Ybulkaxsu
open Go.ChangeShapes Go.WideShapes Go.ChangeAt Go.RowKit

set_option maxHeartbeats 1000000 in
theorem from_any (a0 : Int) (h0 : 0 ≤ a0) (h1 : a0 ≤ 18446744073709551615) (w : World) :
    Calls Yba.prog 5 #[.int .u64 a0] w fun e w' => e = .returned (.agg #[.int .u8 (a0 % 256), .int .u8 (a0 / 256 % 256), .int .u8 (a0 / 65536 % 256), .int .u8 (a0 / 16777216 % 256), .int .u8 (a0 / 4294967296 % 256), .int .u8 (a0 / 1099511627776 % 256), .int .u8 (a0 / 281474976710656 % 256), .int .u8 (a0 / 72057594037927936)]) ∧ Grown w w' := by
  go_enter Yba.func5, Yba.ntmps5
  go_wp2
  go_region_calls
  go_wp2
  go_returns
  refine ⟨rfl, ?_⟩
  go_grown

end Go.Proofs.Ybulkaxsu
