/-
  What the listed variables of the rows hold when a call begins: the tables of UTF-8 and the named errors.
-/
import Derived.Test.YtjkmmhnhhiopiaaDoorCards
import Derived.Test.YtjkmmhnhhiopiaaDoorTie
import Derived.Test.YtjkmmhnhhiopiaaDoorDState
import Derived.ProofKit
import Derived.OpenShut
import Derived.LaidMore
import Derived.LaidLaws
import Derived.Lay
import Derived.SevenTiedAt
import Derived.Stop.Joined
import Derived.Stop.LaidErr
import Derived.PinnedBridge
import Derived.Lib.LaidU8T
namespace Go.Proofs.YtjkmmhnhhiopiaaDoor
open Go.ChangeShapes Go.WideShapes Go.ChangeAt Go.RowKit

def u8ren : Go.Shelf.Ren := ⟨fun n => n, fun | 5 => 5 | 119 => 127 | 138 => 129 | 139 => 130 | n => n, fun | 3 => 1 | 4 => 2 | n => n⟩
theorem u8_types : U8Types Tryd.prog u8ren := ⟨by kernel_rfl, by kernel_rfl, by kernel_rfl, by kernel_rfl⟩
theorem u8_extra : U8Extra Tryd.prog u8ren := ⟨by kernel_rfl, by kernel_rfl, by kernel_rfl, by kernel_rfl, by kernel_rfl, by kernel_rfl, by kernel_rfl⟩
theorem acc_eq : (Rows.laid_unicode_utf8_acceptRanges : DataW Unit) = Lib.acceptData := by kernel_rfl
theorem err_star : "*" ++ "errors.errorString" = "*errors.errorString" := by decide
theorem err_row (u : TypeId) (h : Tryd.prog.typeName? 3 u = some "*errors.errorString") : u = 141 :=
  typeName_ptr_named (nm := "errors.errorString") (by rw [err_star]; kernel_rfl) (by kernel_rfl) (by decide) u (by rw [err_star]; exact h)
theorem errVar_of {n : String} {text : List UInt8} {r : List (String × DataW Unit)} {W : World} {g : Nat} (h : laidMet Tryd.prog ((n, .iface "*errors.errorString" (.ptr (.agg [.lit (.string text)]))) :: r) W)
    (hg : Tryd.prog.globalNamed n = some g) (ht : (Tryd.prog.globals[g]?).map (·.type) = some 72) : ErrVar g W := by
  obtain ⟨a, s, hv, _⟩ := laid_sentinel h hg ht Tryd.underlying72 err_row Tryd.underlying141 Tryd.underlying143 rfl rfl Tryd.underlying9 (by kernel_rfl) (by kernel_rfl)
  have := World.var?_cell hg hv 0
  exact ⟨_, _, by simpa using this⟩
theorem glob_here {W : World} (h : laidMetH Tryd.prog Rows.fnJsonPeeksRow.laid W) : Glob W ∧ 5 ≤ W.heap.size := by
  rw [MakeChecks.laidMetH_plain _ _ _ (by kernel_rfl)] at h
  have h' : laidMet Tryd.prog [("math/bits.deBruijn32tab", Rows.laid_math_bits_deBruijn32tab), ("math/bits.deBruijn64tab", Rows.laid_math_bits_deBruijn64tab), ("internal/strconv.uint64pow10", Rows.laid_internal_strconv_uint64pow10), ("unicode/utf8.acceptRanges", Rows.laid_unicode_utf8_acceptRanges), ("strconv.ErrRange", Rows.laid_strconv_ErrRange), ("strconv.ErrSyntax", Rows.laid_strconv_ErrSyntax), ("pub-codicil/pub/protobuf/inner/encoding/json.ErrUnexpectedEOF", Rows.laid_pub_codicil_pub_protobuf_inner_encoding_json_ErrUnexpectedEOF), ("unicode/utf8.first", Rows.laid_unicode_utf8_first)] W := h
  rw [acc_eq] at h'
  have h4 := h'.tail.tail.tail.tail
  have e4 : ErrVar 4 W := errVar_of h4 (by kernel_rfl) (by kernel_rfl)
  have e3 : ErrVar 3 W := errVar_of h4.tail (by kernel_rfl) (by kernel_rfl)
  have e0 : ErrVar 0 W := errVar_of h4.tail.tail (by kernel_rfl) (by kernel_rfl)
  refine ⟨⟨?_, e0, e3⟩, ?_⟩
  · exact utf8Tabs_of_readsT (ρ := u8ren) u8_types u8_extra (Pinned.utf8First_eq ▸ Lib.laidMet.reads h' (.tail _ (.tail _ (.tail _ (.tail _ (.tail _ (.tail _ (.tail _ (.head _))))))))) (Lib.laidMet.reads h' (.tail _ (.tail _ (.tail _ (.head _)))))
  · obtain ⟨te, pe, hc⟩ := e4
    exact World.block_lt_of_cell? W _ hc
end Go.Proofs.YtjkmmhnhhiopiaaDoor
