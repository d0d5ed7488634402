/-
  DERIVED: THE SHELF's CONTRACTS AT THIS DUMP, IN PLAIN WORDS (tools/lay-plain.mjs out of 'TrydShelf.lean', which tools/lay-shelf.mjs wrote): THE SAME DECLARATIONS UNDER THE SAME NAMES: 'import', 'namespace', 'open', 'def', 'theorem' AND NOTHING ELSE: no command of the shelf's: FOR A HAND-IN. Each laying: the table of numbers ('.._ren') and one theorem, a field a fact of the dump's own or the kernel's comparison; each contract: ONE APPLICATION.
-/
import Derived.Shelf.Unicode.DecodeSlow
import Derived.Shelf.Bytes.SlIndexAt
import Derived.Shelf.Bytes.SlSearch0
import Derived.Shelf.Bytes.IndexByte
import Derived.Shelf.Bytes.SlTrim
import Derived.Ground.SlbvProg
import Derived.Test.YtgdnpnipahegaaaDoorProg
namespace Go.Proofs
open Go.Shelf
def Tryd.lays187_ren : Go.Shelf.Ren := ⟨fun | 187 => 46 | 255 => 59 | n => n, fun | 37 => 27 | 5 => 5 | 3 => 3 | n => n, fun | n => n⟩
theorem Tryd.lays187 : Go.Proofs.Lays.n187 Tryd.prog Tryd.lays187_ren := {
  mixed := by kernel_rfl
  f187 := Tryd.func46.trans (congrArg some (by kernel_rfl))
  f255 := Tryd.func59.trans (congrArg some (by kernel_rfl))
  t3 := Tryd.underlying3
  a3 := Tryd.isAgg3
  z3 := Tryd.sizeOf3
  v3 := Tryd.zeroValue3
  t5 := Tryd.underlying5
  a5 := Tryd.isAgg5
  z5 := Tryd.sizeOf5
  v5 := Tryd.zeroValue5
  t37 := Tryd.underlying27
  a37 := Tryd.isAgg27
  z37 := Tryd.sizeOf27
  v37 := Tryd.zeroValue27 }
open Go.RowKit Go.Lib in
/-- bytes.IndexByte, b at whatever address: "IndexByte returns the index of the first instance of c in b, or -1 if c is not present in b." (LAID: no walk: one application.) -/
theorem Tryd.bytes_IndexByte_at (a : Addr) (n c : Nat) (xs : List Int) (cv : Int) (w : World) (hx : xs.length = n) (hc : ∀ i, i < n → w.cell? (a.add i) = some (.int .u8 (xs.getD i 0))) :
    Calls Tryd.prog 46 #[.slice (some a) n c, .int .u8 cv] w fun e w' => e = .returned (.int .i64 (Lib.indexByte (Lib.bytesOf xs) cv.toNat.toUInt8)) ∧ w' = w := Any.bytes_IndexByte_at Tryd.lays187 a n c xs cv w hx hc
open Go.Proofs Go.RowKit Go.Lib in
/-- bytes.IndexByte, the slice's bytes told by a ByteArray. (LAID: no walk: one application.) -/
theorem Tryd.bytes_IndexByte_bytes (b o cap : Nat) (t : ByteArray) (cv : Int) (w : World) (hc : Lib.Bytes w b o t) :
    Calls Tryd.prog 46 #[.slice (some ⟨b, o, none⟩) t.size cap, .int .u8 cv] w fun e w' => e = .returned (.int .i64 (Lib.indexByte t.data.toList cv.toNat.toUInt8)) ∧ w' = w := Any.bytes_IndexByte_bytes Tryd.lays187 b o cap t cv w hc
/-- bytes.IndexByte: "IndexByte returns the index of the first instance of c in b, or -1 if c is not present in b.": IT RETURNS 'Lib.indexByte (the bytes of b) c'; the world is as it was. 'xs': the numbers that the slice's cells hold. (LAID: no walk: one application.) -/
theorem Tryd.bytes_IndexByte (b o n c : Nat) (xs : List Int) (cv : Int) (w : World) (hx : xs.length = n) (hc : ∀ i, i < n → w.cell? ⟨b, o + i, none⟩ = some (.int .u8 (xs.getD i 0))) :
    Calls Tryd.prog 46 #[.slice (some ⟨b, o, none⟩) n c, .int .u8 cv] w fun e w' => e = .returned (.int .i64 (Lib.indexByte (Lib.bytesOf xs) cv.toNat.toUInt8)) ∧ w' = w := Any.bytes_IndexByte Tryd.lays187 b o n c xs cv w hx hc
/-- bytes.IndexByte AT nil: -1. (LAID: no walk: one application.) -/
theorem Tryd.bytes_IndexByte_nil (cv : Int) (w : World) :
    Calls Tryd.prog 46 #[.slice none 0 0, .int .u8 cv] w fun e w' => e = .returned (.int .i64 (-1)) ∧ w' = w := Any.bytes_IndexByte_nil Tryd.lays187 cv w
def Tryd.lays8_ren : Go.Shelf.Ren := ⟨fun | 8 => 24 | 9 => 38 | 11 => 39 | 12 => 40 | 14 => 41 | 16 => 47 | 17 => 21 | 18 => 48 | 20 => 35 | n => n, fun | 22 => 27 | 9 => 9 | 3 => 3 | 4 => 4 | 5 => 5 | 28 => 77 | 27 => 76 | 0 => 0 | 31 => 80 | 33 => 55 | 21 => 21 | 36 => 82 | 37 => 69 | 40 => 85 | 39 => 84 | n => n, fun | 0 => 1 | 1 => 2 | n => n⟩
theorem Tryd.lays8 : Go.Proofs.SlLaysV.n8 Tryd.prog Tryd.lays8_ren := {
  mixed := by kernel_rfl
  f8 := Tryd.func24.trans (congrArg some (by kernel_rfl))
  f9 := Tryd.func38.trans (congrArg some (by kernel_rfl))
  f11 := Tryd.func39.trans (congrArg some (by kernel_rfl))
  f12 := Tryd.func40.trans (congrArg some (by kernel_rfl))
  f14 := Tryd.func41.trans (congrArg some (by kernel_rfl))
  f16 := Tryd.func47.trans (congrArg some (by kernel_rfl))
  f17 := Tryd.func21.trans (congrArg some (by kernel_rfl))
  f18 := Tryd.func48.trans (congrArg some (by kernel_rfl))
  f20 := Tryd.func35.trans (congrArg some (by kernel_rfl))
  t0 := Tryd.underlying0
  a0 := Tryd.isAgg0
  z0 := Tryd.sizeOf0
  v0 := Tryd.zeroValue0
  t3 := Tryd.underlying3
  a3 := Tryd.isAgg3
  z3 := Tryd.sizeOf3
  v3 := Tryd.zeroValue3
  t4 := Tryd.underlying4
  a4 := Tryd.isAgg4
  z4 := Tryd.sizeOf4
  v4 := Tryd.zeroValue4
  t5 := Tryd.underlying5
  a5 := Tryd.isAgg5
  z5 := Tryd.sizeOf5
  v5 := Tryd.zeroValue5
  t9 := Tryd.underlying9
  a9 := Tryd.isAgg9
  z9 := Tryd.sizeOf9
  v9 := Tryd.zeroValue9
  t21 := Tryd.underlying21
  a21 := Tryd.isAgg21
  z21 := Tryd.sizeOf21
  v21 := Tryd.zeroValue21
  t22 := Tryd.underlying27
  a22 := Tryd.isAgg27
  z22 := Tryd.sizeOf27
  v22 := Tryd.zeroValue27
  t27 := Tryd.underlying76
  a27 := Tryd.isAgg76
  z27 := Tryd.sizeOf76
  t28 := Tryd.underlying77
  a28 := Tryd.isAgg77
  z28 := Tryd.sizeOf77
  v28 := Tryd.zeroValue77
  t31 := Tryd.underlying80
  a31 := Tryd.isAgg80
  z31 := Tryd.sizeOf80
  v31 := Tryd.zeroValue80
  t33 := Tryd.underlying55
  a33 := Tryd.isAgg55
  z33 := Tryd.sizeOf55
  v33 := Tryd.zeroValue55
  t36 := Tryd.underlying82
  a36 := Tryd.isAgg82
  z36 := Tryd.sizeOf82
  t37 := Tryd.underlying69
  a37 := Tryd.isAgg69
  z37 := Tryd.sizeOf69
  v37 := Tryd.zeroValue69
  t39 := Tryd.underlying84
  a39 := Tryd.isAgg84
  z39 := Tryd.sizeOf84
  v39 := Tryd.zeroValue84
  t40 := Tryd.underlying85
  a40 := Tryd.isAgg85
  z40 := Tryd.sizeOf85
  v40 := Tryd.zeroValue85 }
open Go.RowKit Go.Lib in
theorem Tryd.bytes_TrimLeft (p : Option Addr) (n c : Nat) (bs : List UInt8) (cutset : ByteArray) (w : World) (hb : bs.length = n) (hnc : n ≤ c) (hbig : c ≤ 9223372036854775807) (h1 : Lib.BytesAt w p n bs) (hcs : cutset.size < 4294967281) (hascii : ∀ (j : Nat) b, cutset.data.toList[j]? = some b → b.toNat < 128) :
    Calls Tryd.prog 24 #[.slice p n c, .string cutset] w fun e w' => e = .returned (Lib.leftV p n c (n - (Lib.trimLeftS bs cutset.data.toList).length)) ∧ Below w.heap.size w w' := Any.bytes_TrimLeft_ascii Tryd.lays8 (zero_of_info (v := .agg (Array.replicate 256 (.bool false))) (n := 256) (by kernel_rfl)).1 (zero_of_info (v := .agg (Array.replicate 256 (.bool false))) (n := 256) (by kernel_rfl)).2 p n c bs cutset w hb hnc hbig h1 hcs hascii
end Go.Proofs
