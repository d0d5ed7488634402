/-
  UTF-8: what the laws' own check gives.
-/
import Derived.Test.YtgdnpnipahegaaaDoorUtf8
namespace Go.Proofs.YtgdnpnipahegaaaDoor
open Go.ChangeShapes Go.WideShapes Go.ChangeAt Go.RowKit

theorem ldrop_cons {l : List UInt8} {k : Nat} (h : k < l.length) : l.drop k = l[k] :: l.drop (k + 1) := List.drop_eq_getElem_cons h
theorem byte_at {l : List UInt8} {k : Nat} (_h : k < l.length) (h2 : k < (⟨l.toArray⟩ : ByteArray).size) : ((⟨l.toArray⟩ : ByteArray)[k]'h2).toNat = l[k].toNat := rfl

end Go.Proofs.YtgdnpnipahegaaaDoor
