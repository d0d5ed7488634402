/-
 What the listed variables of the rows hold when a call begins: the tables of UTF-8 and of bits, and the named errors.
-/
import Derived.Test.YtgdnpnipahegaaaGreatDoorCards
import Derived.Test.YtgdnpnipahegaaaGreatDoorTie
import Derived.Test.YtgdnpnipahegaaaGreatDoorQ4
import Derived.ProofKit
import Derived.OpenShut
import Derived.LaidMore
import Derived.LaidLaws
import Derived.Lay
import Derived.SevenTiedAt
import Derived.Stop.Joined
import Derived.Stop.LaidErr
import Derived.PinnedBridge
import Derived.Lib.LaidU8T
namespace Go.Proofs.YtgdnpnipahegaaaGreatDoor
open Go.ChangeShapes Go.WideShapes Go.ChangeAt Go.RowKit
def SN:Go.Shelf.Ren:=⟨fun n=>n,fun | 5=>5 | 119=>125 | 138=>127 | 139=>128 | n=>n,fun | 3=>4 | 4=>5 | n=>n⟩
theorem SP:U8Types Tryz.prog SN:=⟨by kernel_rfl,by kernel_rfl,by kernel_rfl,by kernel_rfl⟩
theorem SQ:U8Extra Tryz.prog SN:=⟨by kernel_rfl,by kernel_rfl,by kernel_rfl,by kernel_rfl,by kernel_rfl,by kernel_rfl,by kernel_rfl⟩
theorem acc_eq:(Rows.laid_unicode_utf8_acceptRanges:DataW Unit) = Lib.acceptData:=by kernel_rfl
def Ux:List Int:=[0,1,56,2,57,49,28,3,61,58,42,50,38,29,17,4,62,47,59,36,45,43,51,22,53,39,33,30,24,18,12,5,63,55,48,27,60,41,37,16,46,35,44,21,52,32,23,11,54,26,40,15,34,20,31,10,25,14,19,9,13,8,7,6]
theorem Ss:(Rows.laid_math_bits_deBruijn64tab:DataW Unit) = Lib.tabData .u8 Ux:=by kernel_rfl
theorem PQ : "*" ++ "errors.errorString" = "*errors.errorString" := by decide
theorem err_row (u : TypeId) (h : Tryz.prog.typeName? 3 u = some "*errors.errorString") : u = 138 :=
 typeName_ptr_named (nm := "errors.errorString") (by rw [PQ]; kernel_rfl) (by kernel_rfl) (by decide) u (by rw [PQ]; exact h)
theorem KF {n : String} {text : List UInt8} {r : List (String × DataW Unit)} {W : World} {g : Nat} (h : laidMet Tryz.prog ((n, .iface "*errors.errorString" (.ptr (.agg [.lit (.string text)]))) :: r) W)
  (hg:Tryz.prog.globalNamed n = some g) (ht:(Tryz.prog.globals[g]?).map (·.type) = some 52):ErrVar g W:=by
 obtain ⟨a,s,hv,_⟩:=laid_sentinel h hg ht Tryz.underlying52 err_row Tryz.underlying138 Tryz.underlying140 rfl rfl Tryz.underlying9 (by kernel_rfl) (by kernel_rfl);have:=World.var?_cell hg hv 0;exact ⟨_,_,by simpa using this⟩
structure Glob9 (w:World):Prop where
 glob:Glob w
 size:9≤w.heap.size
 bits:w.cell? ⟨8,15,none⟩ = some (.int .u8 4)
theorem FZ {W:World} (h:laidMetH Tryz.prog Rows.fnTextPeeksRow.laid W):Glob9 W:=by
 rw [MakeChecks.laidMetH_plain _ _ _ (by kernel_rfl)] at h;have h' : laidMet Tryz.prog [("math/bits.deBruijn32tab", Rows.laid_math_bits_deBruijn32tab), ("math/bits.deBruijn64tab", Rows.laid_math_bits_deBruijn64tab), ("internal/strconv.uint64pow10", Rows.laid_internal_strconv_uint64pow10), ("unicode/utf8.acceptRanges", Rows.laid_unicode_utf8_acceptRanges), ("strconv.ErrRange", Rows.laid_strconv_ErrRange), ("strconv.ErrSyntax", Rows.laid_strconv_ErrSyntax), ("pub-codicil/pub/protobuf/inner/encoding/text.ErrUnexpectedEOF", Rows.laid_pub_codicil_pub_protobuf_inner_encoding_text_ErrUnexpectedEOF), ("unicode/utf8.first", Rows.laid_unicode_utf8_first)] W := h;rw [acc_eq, Ss] at h';have h4 := h'.tail.tail.tail.tail;have e4 : ErrVar 3 W := KF h4 (by kernel_rfl) (by kernel_rfl);have e3 : ErrVar 2 W := KF h4.tail (by kernel_rfl) (by kernel_rfl);have e0 : ErrVar 0 W := KF h4.tail.tail (by kernel_rfl) (by kernel_rfl)
 have hb:W.cell? ⟨8,15,none⟩ = some (.int .u8 4):=by
  obtain ⟨g, t, cs, fuel, p, hg, hty, hvar, hd⟩ := Lib.laidMet.reads h' (n := "math/bits.deBruijn64tab") (d := Lib.tabData .u8 Ux) (.tail _ (.head _));obtain rfl := Option.some.inj ((show Tryz.prog.globalNamed "math/bits.deBruijn64tab" = some 8 by kernel_rfl).symm.trans hg);obtain rfl := Option.some.inj ((show (Tryz.prog.globals[8]?).map (·.type) = some 159 by kernel_rfl).symm.trans hty);have hcs := Lib.cells_of_tab Tryz.underlying159 Tryz.underlying5 (by kernel_rfl) (by kernel_rfl) hd;have := World.var?_cell hg hvar 15;rw [this, ← Array.getElem?_toList, hcs];rfl
 refine ⟨⟨?_,e0,e3,e4⟩,?_,hb⟩
 ·exact utf8Tabs_of_readsT (ρ:=SN) SP SQ (Pinned.utf8First_eq ▸ Lib.laidMet.reads h' (.tail _ (.tail _ (.tail _ (.tail _ (.tail _ (.tail _ (.tail _ (.head _))))))))) (Lib.laidMet.reads h' (.tail _ (.tail _ (.tail _ (.head _)))))
 ·exact World.block_lt_of_cell? W _ hb
end Go.Proofs.YtgdnpnipahegaaaGreatDoor
