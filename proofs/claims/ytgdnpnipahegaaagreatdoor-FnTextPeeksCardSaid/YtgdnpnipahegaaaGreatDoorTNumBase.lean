/-
 A number, as the package's reader holds it.
-/
import Derived.Test.YtgdnpnipahegaaaGreatDoorTModel
import Derived.Test.YtgdnpnipahegaaaGreatDoorTState
namespace Go.Proofs.YtgdnpnipahegaaaGreatDoor
open Go.ChangeShapes Go.WideShapes Go.ChangeAt Go.RowKit

def numV : Option NT → Value
 | none => .agg #[.int .u8 0, .bool false, .int .i64 0, .int .i64 0]
 | some x => .agg #[.int .u8 (x.kind : Int), .bool x.neg, .int .i64 (x.size : Int), .int .i64 (x.sep : Int)]
end Go.Proofs.YtgdnpnipahegaaaGreatDoor
