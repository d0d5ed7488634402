/-
  DERIVED: THE SHELF's CONTRACTS AT THIS DUMP, IN PLAIN WORDS (tools/lay-plain.mjs out of 'TryzShelf.lean', which tools/lay-shelf.mjs wrote): THE SAME DECLARATIONS UNDER THE SAME NAMES: 'import', 'namespace', 'open', 'def', 'theorem' AND NOTHING ELSE: no command of the shelf's: FOR A HAND-IN. Each laying: the table of numbers ('.._ren') and one theorem, a field a fact of the dump's own or the kernel's comparison; each contract: ONE APPLICATION.
-/
import Derived.Shelf.Strings.Builder1
import Derived.Shelf.Strings.Builder2
import Derived.Shelf.Strings.OnBuilder
import Derived.Shelf.Strconv.Itoa0
import Derived.Shelf.Strconv.ParseIntEmpty
import Derived.Shelf.LaysM
import Derived.Shelf.Strconv.Clone
import Derived.Shelf.Strconv.SyntaxError
import Derived.Shelf.LaysC
import Derived.Shelf.Strconv.ToError
import Derived.Shelf.Strconv.Lower
import Derived.Shelf.Strconv.ParseUint10
import Derived.Shelf.Strconv.ParseUint10Empty
import Derived.Shelf.Strconv.ParseUint10Any
import Derived.Shelf.Strconv.ParseInt10
import Derived.Shelf.Strconv.RangeError
import Derived.Shelf.Strconv.ToErrorRange
import Derived.Shelf.Strconv.ParseUintEmpty
import Derived.Shelf.Strconv.ParseUint10b64
import Derived.Shelf.Strconv.ParseUint10b32
import Derived.Shelf.Strconv.ParseUint10b16
import Derived.Shelf.Strconv.ParseUint10b8
import Derived.Shelf.Strconv.ParseUint10At
import Derived.Shelf.Strconv.ParseInt10At64
import Derived.Shelf.Strconv.ParseInt10At32
import Derived.Shelf.Strconv.ParseInt10At16
import Derived.Shelf.Strconv.ParseInt10At8
import Derived.Shelf.Strconv.ParseInt10All
import Derived.Shelf.Strconv.ParseIntPublic10
import Derived.Shelf.Strconv.ErrVarParseInt
import Derived.Shelf.Bytes.SlIndexAt
import Derived.Shelf.Bytes.SlSearch0
import Derived.Shelf.Bytes.IndexByte
import Derived.Shelf.Bytes.SlTrim
import Derived.Ground.SlbvProg
import Derived.Test.YtgdnpnipahegaaaGreatDoorProg
namespace Go.Proofs
open Go.Shelf
def Tryz.lays187_ren : Go.Shelf.Ren := ⟨fun | 187 => 61 | 255 => 74 | n => n, fun | 37 => 22 | 5 => 5 | 3 => 3 | n => n, fun | n => n⟩
theorem Tryz.lays187 : Go.Proofs.Lays.n187 Tryz.prog Tryz.lays187_ren := {
  mixed := by kernel_rfl
  f187 := Tryz.func61.trans (congrArg some (by kernel_rfl))
  f255 := Tryz.func74.trans (congrArg some (by kernel_rfl))
  t3 := Tryz.underlying3
  a3 := Tryz.isAgg3
  z3 := Tryz.sizeOf3
  v3 := Tryz.zeroValue3
  t5 := Tryz.underlying5
  a5 := Tryz.isAgg5
  z5 := Tryz.sizeOf5
  v5 := Tryz.zeroValue5
  t37 := Tryz.underlying22
  a37 := Tryz.isAgg22
  z37 := Tryz.sizeOf22
  v37 := Tryz.zeroValue22 }
open Go.RowKit Go.Lib in
/-- bytes.IndexByte, b at whatever address: "IndexByte returns the index of the first instance of c in b, or -1 if c is not present in b." (LAID: no walk: one application.) -/
theorem Tryz.bytes_IndexByte_at (a : Addr) (n c : Nat) (xs : List Int) (cv : Int) (w : World) (hx : xs.length = n) (hc : ∀ i, i < n → w.cell? (a.add i) = some (.int .u8 (xs.getD i 0))) :
    Calls Tryz.prog 61 #[.slice (some a) n c, .int .u8 cv] w fun e w' => e = .returned (.int .i64 (Lib.indexByte (Lib.bytesOf xs) cv.toNat.toUInt8)) ∧ w' = w := Any.bytes_IndexByte_at Tryz.lays187 a n c xs cv w hx hc
open Go.Proofs Go.RowKit Go.Lib in
/-- bytes.IndexByte, the slice's bytes told by a ByteArray. (LAID: no walk: one application.) -/
theorem Tryz.bytes_IndexByte_bytes (b o cap : Nat) (t : ByteArray) (cv : Int) (w : World) (hc : Lib.Bytes w b o t) :
    Calls Tryz.prog 61 #[.slice (some ⟨b, o, none⟩) t.size cap, .int .u8 cv] w fun e w' => e = .returned (.int .i64 (Lib.indexByte t.data.toList cv.toNat.toUInt8)) ∧ w' = w := Any.bytes_IndexByte_bytes Tryz.lays187 b o cap t cv w hc
/-- bytes.IndexByte: "IndexByte returns the index of the first instance of c in b, or -1 if c is not present in b.": IT RETURNS 'Lib.indexByte (the bytes of b) c'; the world is as it was. 'xs': the numbers that the slice's cells hold. (LAID: no walk: one application.) -/
theorem Tryz.bytes_IndexByte (b o n c : Nat) (xs : List Int) (cv : Int) (w : World) (hx : xs.length = n) (hc : ∀ i, i < n → w.cell? ⟨b, o + i, none⟩ = some (.int .u8 (xs.getD i 0))) :
    Calls Tryz.prog 61 #[.slice (some ⟨b, o, none⟩) n c, .int .u8 cv] w fun e w' => e = .returned (.int .i64 (Lib.indexByte (Lib.bytesOf xs) cv.toNat.toUInt8)) ∧ w' = w := Any.bytes_IndexByte Tryz.lays187 b o n c xs cv w hx hc
/-- bytes.IndexByte AT nil: -1. (LAID: no walk: one application.) -/
theorem Tryz.bytes_IndexByte_nil (cv : Int) (w : World) :
    Calls Tryz.prog 61 #[.slice none 0 0, .int .u8 cv] w fun e w' => e = .returned (.int .i64 (-1)) ∧ w' = w := Any.bytes_IndexByte_nil Tryz.lays187 cv w
def Tryz.lays8_ren : Go.Shelf.Ren := ⟨fun | 8 => 83 | 9 => 97 | 11 => 98 | 12 => 99 | 14 => 100 | 16 => 104 | 17 => 71 | 18 => 105 | 20 => 81 | n => n, fun | 22 => 22 | 9 => 9 | 3 => 3 | 4 => 4 | 5 => 5 | 28 => 133 | 27 => 132 | 0 => 0 | 31 => 136 | 33 => 93 | 21 => 21 | 36 => 125 | 37 => 105 | 40 => 128 | 39 => 127 | n => n, fun | 0 => 4 | 1 => 5 | n => n⟩
theorem Tryz.lays8 : Go.Proofs.SlLaysV.n8 Tryz.prog Tryz.lays8_ren := {
  mixed := by kernel_rfl
  f8 := Tryz.func83.trans (congrArg some (by kernel_rfl))
  f9 := Tryz.func97.trans (congrArg some (by kernel_rfl))
  f11 := Tryz.func98.trans (congrArg some (by kernel_rfl))
  f12 := Tryz.func99.trans (congrArg some (by kernel_rfl))
  f14 := Tryz.func100.trans (congrArg some (by kernel_rfl))
  f16 := Tryz.func104.trans (congrArg some (by kernel_rfl))
  f17 := Tryz.func71.trans (congrArg some (by kernel_rfl))
  f18 := Tryz.func105.trans (congrArg some (by kernel_rfl))
  f20 := Tryz.func81.trans (congrArg some (by kernel_rfl))
  t0 := Tryz.underlying0
  a0 := Tryz.isAgg0
  z0 := Tryz.sizeOf0
  v0 := Tryz.zeroValue0
  t3 := Tryz.underlying3
  a3 := Tryz.isAgg3
  z3 := Tryz.sizeOf3
  v3 := Tryz.zeroValue3
  t4 := Tryz.underlying4
  a4 := Tryz.isAgg4
  z4 := Tryz.sizeOf4
  v4 := Tryz.zeroValue4
  t5 := Tryz.underlying5
  a5 := Tryz.isAgg5
  z5 := Tryz.sizeOf5
  v5 := Tryz.zeroValue5
  t9 := Tryz.underlying9
  a9 := Tryz.isAgg9
  z9 := Tryz.sizeOf9
  v9 := Tryz.zeroValue9
  t21 := Tryz.underlying21
  a21 := Tryz.isAgg21
  z21 := Tryz.sizeOf21
  v21 := Tryz.zeroValue21
  t22 := Tryz.underlying22
  a22 := Tryz.isAgg22
  z22 := Tryz.sizeOf22
  v22 := Tryz.zeroValue22
  t27 := Tryz.underlying132
  a27 := Tryz.isAgg132
  z27 := Tryz.sizeOf132
  t28 := Tryz.underlying133
  a28 := Tryz.isAgg133
  z28 := Tryz.sizeOf133
  v28 := Tryz.zeroValue133
  t31 := Tryz.underlying136
  a31 := Tryz.isAgg136
  z31 := Tryz.sizeOf136
  v31 := Tryz.zeroValue136
  t33 := Tryz.underlying93
  a33 := Tryz.isAgg93
  z33 := Tryz.sizeOf93
  v33 := Tryz.zeroValue93
  t36 := Tryz.underlying125
  a36 := Tryz.isAgg125
  z36 := Tryz.sizeOf125
  t37 := Tryz.underlying105
  a37 := Tryz.isAgg105
  z37 := Tryz.sizeOf105
  v37 := Tryz.zeroValue105
  t39 := Tryz.underlying127
  a39 := Tryz.isAgg127
  z39 := Tryz.sizeOf127
  v39 := Tryz.zeroValue127
  t40 := Tryz.underlying128
  a40 := Tryz.isAgg128
  z40 := Tryz.sizeOf128
  v40 := Tryz.zeroValue128 }
open Go.RowKit Go.Lib in
theorem Tryz.bytes_TrimLeft (p : Option Addr) (n c : Nat) (bs : List UInt8) (cutset : ByteArray) (w : World) (hb : bs.length = n) (hnc : n ≤ c) (hbig : c ≤ 9223372036854775807) (h1 : Lib.BytesAt w p n bs) (hcs : cutset.size < 4294967281) (hascii : ∀ (j : Nat) b, cutset.data.toList[j]? = some b → b.toNat < 128) :
    Calls Tryz.prog 83 #[.slice p n c, .string cutset] w fun e w' => e = .returned (Lib.leftV p n c (n - (Lib.trimLeftS bs cutset.data.toList).length)) ∧ Below w.heap.size w w' := Any.bytes_TrimLeft_ascii Tryz.lays8 (zero_of_info (v := .agg (Array.replicate 256 (.bool false))) (n := 256) (by kernel_rfl)).1 (zero_of_info (v := .agg (Array.replicate 256 (.bool false))) (n := 256) (by kernel_rfl)).2 p n c bs cutset w hb hnc hbig h1 hcs hascii
end Go.Proofs
