/-
  DERIVED: THE SHELF's CONTRACTS AT THIS DUMP, IN PLAIN WORDS (tools/lay-plain.mjs out of 'TrydShelf.lean', which tools/lay-shelf.mjs wrote): THE SAME DECLARATIONS UNDER THE SAME NAMES: 'import', 'namespace', 'open', 'def', 'theorem' AND NOTHING ELSE: no command of the shelf's: FOR A HAND-IN. Each laying: the table of numbers ('.._ren') and one theorem, a field a fact of the dump's own or the kernel's comparison; each contract: ONE APPLICATION.
-/
import Derived.Shelf.Strings.Builder1
import Derived.Shelf.Strings.Builder2
import Derived.Shelf.Small.Utf8
import Derived.Shelf.Strings.BuilderF
import Derived.Shelf.Strings.BuilderK
import Derived.Shelf.Strings.BuilderRune
import Derived.Shelf.Strings.Builder2Cap
import Derived.Shelf.Unicode.Latin
import Derived.Shelf.Unicode.Props
import Derived.Shelf.LaysM
import Derived.Shelf.Unicode.PropsLaid
import Derived.Shelf.Unicode.Decode
import Derived.Shelf.Unicode.DecodeSlow
import Derived.Shelf.Unicode.DecodeAny
import Derived.Shelf.Unicode.Is16White
import Derived.Shelf.Unicode.IsSpaceAny
import Derived.Shelf.Unicode.CaseLookup
import Derived.Shelf.Unicode.CaseConvert
import Derived.Shelf.Unicode.CaseTo
import Derived.Shelf.Unicode.CaseLaid
import Derived.Shelf.Strings.MapAny
import Derived.Shelf.Unicode.Is16Any
import Derived.Shelf.Unicode.Is32Any
import Derived.Shelf.Unicode.ExclAny
import Derived.Shelf.Unicode.PredsAny
import Derived.Shelf.Unicode.PredsPay
import Derived.Shelf.Strings.BuilderCap
import Derived.Shelf.Strings.MapGrows
import Derived.Test.YtnammoimjcgdmaaDoorProg
namespace Go.Proofs
open Go.Shelf
def Tryd.lays169_ren : Go.Shelf.Ren := ⟨fun | 169 => 44 | n => n, fun | 70 => 41 | 9 => 9 | 0 => 0 | 72 => 43 | 37 => 33 | 127 => 62 | 3 => 3 | 5 => 5 | n => n, fun | n => n⟩
theorem Tryd.lays169 : Go.Proofs.Lays.n169 Tryd.prog Tryd.lays169_ren := {
  mixed := by kernel_rfl
  f169 := Tryd.func44.trans (congrArg some (by kernel_rfl))
  t0 := Tryd.underlying0
  a0 := Tryd.isAgg0
  z0 := Tryd.sizeOf0
  v0 := Tryd.zeroValue0
  t3 := Tryd.underlying3
  a3 := Tryd.isAgg3
  z3 := Tryd.sizeOf3
  v3 := Tryd.zeroValue3
  t9 := Tryd.underlying9
  a9 := Tryd.isAgg9
  z9 := Tryd.sizeOf9
  v9 := Tryd.zeroValue9
  t37 := Tryd.underlying33
  a37 := Tryd.isAgg33
  z37 := Tryd.sizeOf33
  v37 := Tryd.zeroValue33
  t70 := Tryd.underlying41
  a70 := Tryd.isAgg41
  z70 := Tryd.sizeOf41
  v70 := Tryd.zeroValue41
  t72 := Tryd.underlying43
  a72 := Tryd.isAgg43
  z72 := Tryd.sizeOf43
  v72 := Tryd.zeroValue43
  t127 := Tryd.underlying62
  a127 := Tryd.isAgg62
  z127 := Tryd.sizeOf62
  v127 := Tryd.zeroValue62 }
theorem Tryd.Builder_Extra_169 : Builder.Extra Tryd.prog Tryd.lays169_ren := {
  sizeBuilder := by kernel_rfl
  liesBuilder := by kernel_rfl
  t5 := Tryd.underlying5
  a5 := Tryd.isAgg5
  z5 := Tryd.sizeOf5
  v5 := Tryd.zeroValue5
  infoByte := by kernel_rfl
  cellsByte := by kernel_rfl
  sizeByte := by kernel_rfl
  neB5 := by decide }
open Go.RowKit in
/-- (*strings.Builder).String: "String returns the accumulated string.": OF A BUILDER THAT HOLDS AT LEAST ONE BYTE. ✋ THE MODEL FREEZES THOSE BYTES IN THE BUFFER (unsafe.String): a later write INTO them ends the model's run without an answer; a later append BEHIND them goes on. The statement's order of evaluation is drawn: one draw. (LAID: no walk: one application.) -/
theorem Tryd.Builder_String (B b : Nat) (l : List UInt8) (w : World) (h : Lib.IsBuilder 43 5 B b (Lib.byteCells l) w) (h0 : l ≠ []) :
    Calls Tryd.prog 44 #[.pointer (some ⟨b, 0, none⟩)] w fun e w' => e = .returned (.string ⟨l.toArray⟩) ∧ Below B w w' := Any.Builder_String Tryd.lays169 Tryd.Builder_Extra_169 B b l w h h0
open Go.RowKit in
/-- (*strings.Builder).String OF A BUILDER THAT HOLDS NO BYTE: the empty string. (Its buffer is nil, or a row of which it has taken nothing yet; where that row has NO capacity the model lays one new block for unsafe.SliceData's 'some address'.) One draw. (LAID: no walk: one application.) -/
theorem Tryd.Builder_String_empty (B b : Nat) (w : World) (h : Lib.IsBuilder 43 5 B b [] w) (hBw : B ≤ w.heap.size) :
    Calls Tryd.prog 44 #[.pointer (some ⟨b, 0, none⟩)] w fun e w' => e = .returned (.string ⟨#[]⟩) ∧ Below B w w' := Any.Builder_String_empty Tryd.lays169 Tryd.Builder_Extra_169 B b w h hBw
open Go.RowKit in
/-- (*strings.Builder).String: "String returns the accumulated string.": WHATEVER THE BUILDER HOLDS. (LAID: no walk: one application.) -/
theorem Tryd.Builder_String_any (B b : Nat) (l : List UInt8) (w : World) (h : Lib.IsBuilder 43 5 B b (Lib.byteCells l) w) (hBw : B ≤ w.heap.size) :
    Calls Tryd.prog 44 #[.pointer (some ⟨b, 0, none⟩)] w fun e w' => e = .returned (.string ⟨l.toArray⟩) ∧ Below B w w' := Any.Builder_String_any Tryd.lays169 Tryd.Builder_Extra_169 B b l w h hBw
def Tryd.lays241_ren : Go.Shelf.Ren := ⟨fun | 241 => 49 | 277 => 56 | n => n, fun | 70 => 41 | 3 => 3 | 0 => 0 | 72 => 43 | 37 => 33 | 5 => 5 | n => n, fun | n => n⟩
theorem Tryd.lays241 : Go.Proofs.Lays.n241 Tryd.prog Tryd.lays241_ren := {
  mixed := by kernel_rfl
  f241 := Tryd.func49.trans (congrArg some (by kernel_rfl))
  f277 := Tryd.func56.trans (congrArg some (by kernel_rfl))
  t0 := Tryd.underlying0
  a0 := Tryd.isAgg0
  z0 := Tryd.sizeOf0
  v0 := Tryd.zeroValue0
  t3 := Tryd.underlying3
  a3 := Tryd.isAgg3
  z3 := Tryd.sizeOf3
  v3 := Tryd.zeroValue3
  t37 := Tryd.underlying33
  a37 := Tryd.isAgg33
  z37 := Tryd.sizeOf33
  v37 := Tryd.zeroValue33
  t70 := Tryd.underlying41
  a70 := Tryd.isAgg41
  z70 := Tryd.sizeOf41
  v70 := Tryd.zeroValue41
  t72 := Tryd.underlying43
  a72 := Tryd.isAgg43
  z72 := Tryd.sizeOf43
  v72 := Tryd.zeroValue43 }
theorem Tryd.Builder_Extra_241 : Builder.Extra Tryd.prog Tryd.lays241_ren := {
  sizeBuilder := by kernel_rfl
  liesBuilder := by kernel_rfl
  t5 := Tryd.underlying5
  a5 := Tryd.isAgg5
  z5 := Tryd.sizeOf5
  v5 := Tryd.zeroValue5
  infoByte := by kernel_rfl
  cellsByte := by kernel_rfl
  sizeByte := by kernel_rfl
  neB5 := by decide }
open Go.RowKit in
/-- (*strings.Builder).grow (no doc but "grow copies the buffer to a new, larger buffer so that there are at least n bytes of capacity beyond len(b.buf)."): AT A BUILDER WITHOUT A BUFFER: a new row of whatever bytes for its buffer, none of them its own yet. Three draws. (LAID: no walk: one application.) -/
theorem Tryd.Builder_grow_fresh (B b n : Nat) (w : World) (hB : B ≤ b) (hbk : w.heap[b]? = some (.cells #[.pointer (some ⟨b, 0, none⟩), .slice none 0 0] 43 (0, 0))) (hBw : B ≤ w.heap.size) (hn : n ≤ 281474976710656) :
    Calls Tryd.prog 49 #[.pointer (some ⟨b, 0, none⟩), .int .i64 n] w fun e w' => e = .returned (.tuple #[]) ∧ (Lib.BuilderAt 43 5 B b (.pointer (some ⟨b, 0, none⟩)) [] w' ∧ Below B w w') := Any.Builder_grow_fresh Tryd.lays241 Tryd.Builder_Extra_241 B b n w hB hbk hBw hn
def Tryd.lays165_ren : Go.Shelf.Ren := ⟨fun | 165 => 39 | 240 => 48 | 241 => 49 | 276 => 55 | 277 => 56 | n => n, fun | 70 => 41 | 3 => 3 | 0 => 0 | 4 => 4 | 9 => 9 | 20 => 20 | 72 => 43 | 37 => 33 | 164 => 81 | 5 => 5 | n => n, fun | n => n⟩
theorem Tryd.lays165 : Go.Proofs.Lays.n165 Tryd.prog Tryd.lays165_ren := {
  mixed := by kernel_rfl
  f165 := Tryd.func39.trans (congrArg some (by kernel_rfl))
  f240 := Tryd.func48.trans (congrArg some (by kernel_rfl))
  f241 := Tryd.func49.trans (congrArg some (by kernel_rfl))
  f276 := Tryd.func55.trans (congrArg some (by kernel_rfl))
  f277 := Tryd.func56.trans (congrArg some (by kernel_rfl))
  t0 := Tryd.underlying0
  a0 := Tryd.isAgg0
  z0 := Tryd.sizeOf0
  v0 := Tryd.zeroValue0
  t3 := Tryd.underlying3
  a3 := Tryd.isAgg3
  z3 := Tryd.sizeOf3
  v3 := Tryd.zeroValue3
  t4 := Tryd.underlying4
  a4 := Tryd.isAgg4
  z4 := Tryd.sizeOf4
  v4 := Tryd.zeroValue4
  t9 := Tryd.underlying9
  a9 := Tryd.isAgg9
  z9 := Tryd.sizeOf9
  v9 := Tryd.zeroValue9
  t20 := Tryd.underlying20
  a20 := Tryd.isAgg20
  z20 := Tryd.sizeOf20
  v20 := Tryd.zeroValue20
  t37 := Tryd.underlying33
  a37 := Tryd.isAgg33
  z37 := Tryd.sizeOf33
  v37 := Tryd.zeroValue33
  t70 := Tryd.underlying41
  a70 := Tryd.isAgg41
  z70 := Tryd.sizeOf41
  v70 := Tryd.zeroValue41
  t72 := Tryd.underlying43
  a72 := Tryd.isAgg43
  z72 := Tryd.sizeOf43
  v72 := Tryd.zeroValue43
  t164 := Tryd.underlying81
  a164 := Tryd.isAgg81
  z164 := Tryd.sizeOf81
  v164 := Tryd.zeroValue81 }
theorem Tryd.Builder_Extra_165 : Builder.Extra Tryd.prog Tryd.lays165_ren := {
  sizeBuilder := by kernel_rfl
  liesBuilder := by kernel_rfl
  t5 := Tryd.underlying5
  a5 := Tryd.isAgg5
  z5 := Tryd.sizeOf5
  v5 := Tryd.zeroValue5
  infoByte := by kernel_rfl
  cellsByte := by kernel_rfl
  sizeByte := by kernel_rfl
  neB5 := by decide }
open Go.RowKit in
/-- (*strings.Builder).Grow AT A BUILDER THAT HAS NOT BEEN WRITTEN ('var b strings.Builder; b.Grow(n)'): "Grow grows b's capacity, if necessary, to guarantee space for another n bytes.": it holds no byte behind it as before it. (LAID: no walk: one application.) -/
theorem Tryd.Builder_Grow_fresh (B b n : Nat) (w : World) (hB : B ≤ b) (hbk : w.heap[b]? = some (.cells #[.pointer none, .slice none 0 0] 43 (0, 0))) (hBw : B ≤ w.heap.size) (hn : n ≤ 281474976710656) :
    Calls Tryd.prog 39 #[.pointer (some ⟨b, 0, none⟩), .int .i64 n] w fun e w' => e = .returned (.tuple #[]) ∧ (Lib.BuilderAt 43 5 B b (.pointer (some ⟨b, 0, none⟩)) [] w' ∧ Below B w w') := Any.Builder_Grow_fresh Tryd.lays165 Tryd.Builder_Extra_165 B b n w hB hbk hBw hn
def Tryd.lays118_ren : Go.Shelf.Ren := ⟨fun | 118 => 38 | n => n, fun | 21 => 21 | 3 => 3 | 4 => 4 | n => n, fun | n => n⟩
theorem Tryd.lays118 : Go.Proofs.Lays.n118 Tryd.prog Tryd.lays118_ren := {
  mixed := by kernel_rfl
  f118 := Tryd.func38.trans (congrArg some (by kernel_rfl))
  t3 := Tryd.underlying3
  a3 := Tryd.isAgg3
  z3 := Tryd.sizeOf3
  v3 := Tryd.zeroValue3
  t4 := Tryd.underlying4
  a4 := Tryd.isAgg4
  z4 := Tryd.sizeOf4
  v4 := Tryd.zeroValue4
  t21 := Tryd.underlying21
  a21 := Tryd.isAgg21
  z21 := Tryd.sizeOf21
  v21 := Tryd.zeroValue21 }
/-- utf8.RuneLen: "RuneLen returns the number of bytes in the UTF-8 encoding of the rune. It returns -1 if the rune is not a valid value to encode in UTF-8.": IT RETURNS 'Lib.runeLen r'; the world is as it was. (LAID: no walk: one application.) -/
theorem Tryd.utf8_RuneLen (r : Int) (w : World) :
    Calls Tryd.prog 38 #[.int .i32 r] w fun e w' => e = .returned (.int .i64 (Lib.runeLen r)) ∧ w' = w := Any.utf8_RuneLen Tryd.lays118 r w
open Go.RowKit in
/-- (*strings.Builder).String: "String returns the accumulated string.": OF A BUILDER THAT HOLDS AT LEAST ONE BYTE. ✋ THE MODEL FREEZES THOSE BYTES IN THE BUFFER (unsafe.String): a later write INTO them ends the model's run without an answer; a later append BEHIND them goes on. The statement's order of evaluation is drawn: one draw. THE FORM '_f': IT SAYS BESIDES THAT THE BUILDER IS A BUILDER STILL ('Lib.IsBuilderF', the same bytes): SO IT CAN BE WRITTEN ON: 'b.WriteString(b.String()[:k])'. (LAID: no walk: one application.) -/
theorem Tryd.Builder_String_f (B b : Nat) (l : List UInt8) (w : World) (h : Lib.IsBuilderF 43 5 B b (Lib.byteCells l) w) (h0 : l ≠ []) :
    Calls Tryd.prog 44 #[.pointer (some ⟨b, 0, none⟩)] w fun e w' => e = .returned (.string ⟨l.toArray⟩) ∧ (Lib.IsBuilderF 43 5 B b (Lib.byteCells l) w' ∧ Below B w w') := Any.Builder_String_f Tryd.lays169 Tryd.Builder_Extra_169 B b l w h h0
open Go.RowKit in
/-- (*strings.Builder).String OF A BUILDER THAT HOLDS NO BYTE: the empty string; THE FORM '_f': a builder still. (LAID: no walk: one application.) -/
theorem Tryd.Builder_String_empty_f (B b : Nat) (w : World) (h : Lib.IsBuilderF 43 5 B b [] w) (hBw : B ≤ w.heap.size) :
    Calls Tryd.prog 44 #[.pointer (some ⟨b, 0, none⟩)] w fun e w' => e = .returned (.string ⟨#[]⟩) ∧ (Lib.IsBuilderF 43 5 B b [] w' ∧ Below B w w') := Any.Builder_String_empty_f Tryd.lays169 Tryd.Builder_Extra_169 B b w h hBw
open Go.RowKit in
/-- (*strings.Builder).String: "String returns the accumulated string.": WHATEVER THE BUILDER HOLDS; THE FORM '_f': OF A BUILDER THAT MAY HAVE BEEN READ BEFORE; AND IT IS A BUILDER STILL, holding the same bytes: it can be written on. (LAID: no walk: one application.) -/
theorem Tryd.Builder_String_any_f (B b : Nat) (l : List UInt8) (w : World) (h : Lib.IsBuilderF 43 5 B b (Lib.byteCells l) w) (hBw : B ≤ w.heap.size) :
    Calls Tryd.prog 44 #[.pointer (some ⟨b, 0, none⟩)] w fun e w' => e = .returned (.string ⟨l.toArray⟩) ∧ (Lib.IsBuilderF 43 5 B b (Lib.byteCells l) w' ∧ Below B w w') := Any.Builder_String_any_f Tryd.lays169 Tryd.Builder_Extra_169 B b l w h hBw
open Go.RowKit in
/-- (*strings.Builder).String: "String returns the accumulated string.": OF A BUILDER THAT HOLDS AT LEAST ONE BYTE. ✋ THE MODEL FREEZES THOSE BYTES IN THE BUFFER (unsafe.String): a later write INTO them ends the model's run without an answer; a later append BEHIND them goes on. The statement's order of evaluation is drawn: one draw. THE FORM '_k': OVER 'Lib.IsBuilderF' (a builder that 'String()' may have read), AND WITH THE FRAME THAT REACHES ABOVE THE BUILDER: 'Lib.OthersKept': every block that is not b and is no row of uint8's stands as it stood: the iterator of a range among them. (LAID: no walk: one application.) -/
theorem Tryd.Builder_String_k (B b : Nat) (l : List UInt8) (w : World) (h : Lib.IsBuilderF 43 5 B b (Lib.byteCells l) w) (h0 : l ≠ []) :
    Calls Tryd.prog 44 #[.pointer (some ⟨b, 0, none⟩)] w fun e w' => e = .returned (.string ⟨l.toArray⟩) ∧ (Lib.IsBuilderF 43 5 B b (Lib.byteCells l) w' ∧ Below B w w' ∧ Lib.OthersKept 5 (some b) w w') := Any.Builder_String_k Tryd.lays169 Tryd.Builder_Extra_169 B b l w h h0
open Go.RowKit in
/-- (*strings.Builder).String OF A BUILDER THAT HOLDS NO BYTE: the empty string; THE FORM '_k': OVER 'Lib.IsBuilderF' (a builder that 'String()' may have read), AND WITH THE FRAME THAT REACHES ABOVE THE BUILDER: 'Lib.OthersKept': every block that is not b and is no row of uint8's stands as it stood: the iterator of a range among them. (LAID: no walk: one application.) -/
theorem Tryd.Builder_String_empty_k (B b : Nat) (w : World) (h : Lib.IsBuilderF 43 5 B b [] w) (hBw : B ≤ w.heap.size) :
    Calls Tryd.prog 44 #[.pointer (some ⟨b, 0, none⟩)] w fun e w' => e = .returned (.string ⟨#[]⟩) ∧ (Lib.IsBuilderF 43 5 B b [] w' ∧ Below B w w' ∧ Lib.OthersKept 5 (some b) w w') := Any.Builder_String_empty_k Tryd.lays169 Tryd.Builder_Extra_169 B b w h hBw
open Go.RowKit in
/-- (*strings.Builder).String: "String returns the accumulated string.": WHATEVER THE BUILDER HOLDS; THE FORM '_k': OVER 'Lib.IsBuilderF' (a builder that 'String()' may have read), AND WITH THE FRAME THAT REACHES ABOVE THE BUILDER: 'Lib.OthersKept': every block that is not b and is no row of uint8's stands as it stood: the iterator of a range among them. (LAID: no walk: one application.) -/
theorem Tryd.Builder_String_any_k (B b : Nat) (l : List UInt8) (w : World) (h : Lib.IsBuilderF 43 5 B b (Lib.byteCells l) w) (hBw : B ≤ w.heap.size) :
    Calls Tryd.prog 44 #[.pointer (some ⟨b, 0, none⟩)] w fun e w' => e = .returned (.string ⟨l.toArray⟩) ∧ (Lib.IsBuilderF 43 5 B b (Lib.byteCells l) w' ∧ Below B w w' ∧ Lib.OthersKept 5 (some b) w w') := Any.Builder_String_any_k Tryd.lays169 Tryd.Builder_Extra_169 B b l w h hBw
open Go.RowKit in
/-- (*strings.Builder).grow (no doc but "grow copies the buffer to a new, larger buffer so that there are at least n bytes of capacity beyond len(b.buf)."): AT A BUILDER WITHOUT A BUFFER: a new row of whatever bytes for its buffer, none of them its own yet. Three draws. (LAID: no walk: one application.) -/
theorem Tryd.Builder_grow_fresh_cap (B b n : Nat) (w : World) (hB : B ≤ b) (hbk : w.heap[b]? = some (.cells #[.pointer (some ⟨b, 0, none⟩), .slice none 0 0] 43 (0, 0))) (hBw : B ≤ w.heap.size) (hn : n ≤ 281474976710656) :
    Calls Tryd.prog 49 #[.pointer (some ⟨b, 0, none⟩), .int .i64 n] w fun e w' => e = .returned (.tuple #[]) ∧ (Lib.BuilderAt 43 5 B b (.pointer (some ⟨b, 0, none⟩)) [] w' ∧ Below B w w') ∧ ∃ p cap, w'.cell? ⟨b, 1, none⟩ = some (.slice p 0 cap) ∧ n ≤ cap := Any.Builder_grow_fresh_cap Tryd.lays241 Tryd.Builder_Extra_241 B b n w hB hbk hBw hn
open Go.RowKit in
/-- (*strings.Builder).Grow AT A BUILDER THAT HAS NOT BEEN WRITTEN ('var b strings.Builder; b.Grow(n)'): "Grow grows b's capacity, if necessary, to guarantee space for another n bytes.": it holds no byte behind it as before it. (LAID: no walk: one application.) -/
theorem Tryd.Builder_Grow_fresh_cap (B b n : Nat) (w : World) (hB : B ≤ b) (hbk : w.heap[b]? = some (.cells #[.pointer none, .slice none 0 0] 43 (0, 0))) (hBw : B ≤ w.heap.size) (hn : n ≤ 281474976710656) :
    Calls Tryd.prog 39 #[.pointer (some ⟨b, 0, none⟩), .int .i64 n] w fun e w' => e = .returned (.tuple #[]) ∧ (Lib.BuilderAt 43 5 B b (.pointer (some ⟨b, 0, none⟩)) [] w' ∧ Below B w w') ∧ ∃ p cap, w'.cell? ⟨b, 1, none⟩ = some (.slice p 0 cap) ∧ n ≤ cap := Any.Builder_Grow_fresh_cap Tryd.lays165 Tryd.Builder_Extra_165 B b n w hB hbk hBw hn
def Tryd.lays198_ren : Go.Shelf.Ren := ⟨fun | 198 => 33 | 261 => 45 | 311 => 51 | 312 => 52 | n => n, fun | 21 => 21 | 4 => 4 | 141 => 57 | 0 => 0 | 196 => 66 | 193 => 63 | 3 => 3 | 51 => 54 | 198 => 69 | 49 => 67 | 194 => 64 | 201 => 72 | 226 => 84 | 46 => 74 | 227 => 85 | n => n, fun | 5 => 2 | n => n⟩
theorem Tryd.lays198 : Go.Proofs.Lays.n198 Tryd.prog Tryd.lays198_ren := {
  mixed := by kernel_rfl
  f198 := Tryd.func33.trans (congrArg some (by kernel_rfl))
  f261 := Tryd.func45.trans (congrArg some (by kernel_rfl))
  f311 := Tryd.func51.trans (congrArg some (by kernel_rfl))
  f312 := Tryd.func52.trans (congrArg some (by kernel_rfl))
  t0 := Tryd.underlying0
  a0 := Tryd.isAgg0
  z0 := Tryd.sizeOf0
  v0 := Tryd.zeroValue0
  t3 := Tryd.underlying3
  a3 := Tryd.isAgg3
  z3 := Tryd.sizeOf3
  v3 := Tryd.zeroValue3
  t4 := Tryd.underlying4
  a4 := Tryd.isAgg4
  z4 := Tryd.sizeOf4
  v4 := Tryd.zeroValue4
  t21 := Tryd.underlying21
  a21 := Tryd.isAgg21
  z21 := Tryd.sizeOf21
  v21 := Tryd.zeroValue21
  t46 := Tryd.underlying74
  a46 := Tryd.isAgg74
  z46 := Tryd.sizeOf74
  v46 := Tryd.zeroValue74
  t49 := Tryd.underlying67
  a49 := Tryd.isAgg67
  z49 := Tryd.sizeOf67
  v49 := Tryd.zeroValue67
  t51 := Tryd.underlying54
  a51 := Tryd.isAgg54
  z51 := Tryd.sizeOf54
  v51 := Tryd.zeroValue54
  t141 := Tryd.underlying57
  a141 := Tryd.isAgg57
  z141 := Tryd.sizeOf57
  v141 := Tryd.zeroValue57
  t193 := Tryd.underlying63
  a193 := Tryd.isAgg63
  z193 := Tryd.sizeOf63
  v193 := Tryd.zeroValue63
  t194 := Tryd.underlying64
  a194 := Tryd.isAgg64
  z194 := Tryd.sizeOf64
  v194 := Tryd.zeroValue64
  t196 := Tryd.underlying66
  a196 := Tryd.isAgg66
  z196 := Tryd.sizeOf66
  v196 := Tryd.zeroValue66
  t198 := Tryd.underlying69
  a198 := Tryd.isAgg69
  z198 := Tryd.sizeOf69
  v198 := Tryd.zeroValue69
  t201 := Tryd.underlying72
  a201 := Tryd.isAgg72
  z201 := Tryd.sizeOf72
  v201 := Tryd.zeroValue72
  t226 := Tryd.underlying84
  a226 := Tryd.isAgg84
  z226 := Tryd.sizeOf84
  v226 := Tryd.zeroValue84
  t227 := Tryd.underlying85
  a227 := Tryd.isAgg85
  z227 := Tryd.sizeOf85
  v227 := Tryd.zeroValue85
  g5 := by kernel_rfl }
open Go.RowKit Go.Lib in
theorem Tryd.unicode_IsDigit (r : Int) (w : World) (h : r ≤ 255) :
    Calls Tryd.prog 33 #[.int .i32 r] w fun e w' => e = .returned (.bool (Lib.isDigitL r)) ∧ w' = w := Any.unicode_IsDigit Tryd.lays198 r w h
def Tryd.lays203_ren : Go.Shelf.Ren := ⟨fun | 203 => 27 | 262 => 36 | 313 => 47 | 274 => 53 | 275 => 54 | n => n, fun | 21 => 21 | 4 => 4 | 3 => 3 | 162 => 60 | 203 => 58 | 160 => 78 | 46 => 74 | 0 => 0 | 208 => 89 | 51 => 54 | 206 => 87 | n => n, fun | 13 => 3 | n => n⟩
theorem Tryd.lays203 : Go.Proofs.Lays.n203 Tryd.prog Tryd.lays203_ren := {
  mixed := by kernel_rfl
  f203 := Tryd.func27.trans (congrArg some (by kernel_rfl))
  f262 := Tryd.func36.trans (congrArg some (by kernel_rfl))
  f274 := Tryd.func53.trans (congrArg some (by kernel_rfl))
  f275 := Tryd.func54.trans (congrArg some (by kernel_rfl))
  f313 := Tryd.func47.trans (congrArg some (by kernel_rfl))
  t0 := Tryd.underlying0
  a0 := Tryd.isAgg0
  z0 := Tryd.sizeOf0
  v0 := Tryd.zeroValue0
  t3 := Tryd.underlying3
  a3 := Tryd.isAgg3
  z3 := Tryd.sizeOf3
  v3 := Tryd.zeroValue3
  t4 := Tryd.underlying4
  a4 := Tryd.isAgg4
  z4 := Tryd.sizeOf4
  v4 := Tryd.zeroValue4
  t21 := Tryd.underlying21
  a21 := Tryd.isAgg21
  z21 := Tryd.sizeOf21
  v21 := Tryd.zeroValue21
  t46 := Tryd.underlying74
  a46 := Tryd.isAgg74
  z46 := Tryd.sizeOf74
  v46 := Tryd.zeroValue74
  t51 := Tryd.underlying54
  a51 := Tryd.isAgg54
  z51 := Tryd.sizeOf54
  v51 := Tryd.zeroValue54
  t160 := Tryd.underlying78
  a160 := Tryd.isAgg78
  z160 := Tryd.sizeOf78
  v160 := Tryd.zeroValue78
  t162 := Tryd.underlying60
  a162 := Tryd.isAgg60
  z162 := Tryd.sizeOf60
  v162 := Tryd.zeroValue60
  t203 := Tryd.underlying58
  a203 := Tryd.isAgg58
  z203 := Tryd.sizeOf58
  v203 := Tryd.zeroValue58
  t206 := Tryd.underlying87
  a206 := Tryd.isAgg87
  z206 := Tryd.sizeOf87
  v206 := Tryd.zeroValue87
  t208 := Tryd.underlying89
  a208 := Tryd.isAgg89
  z208 := Tryd.sizeOf89
  v208 := Tryd.zeroValue89
  g13 := by kernel_rfl }
open Go.RowKit Go.Lib in
theorem Tryd.unicode_ToUpper (r : Int) (w : World) (h : r ≤ 127) :
    Calls Tryd.prog 27 #[.int .i32 r] w fun e w' => e = .returned (.int .i32 (Lib.toUpperR r)) ∧ w' = w := Any.unicode_ToUpper Tryd.lays203 r w h
def Tryd.lays204_ren : Go.Shelf.Ren := ⟨fun | 204 => 28 | 262 => 36 | 313 => 47 | 274 => 53 | 275 => 54 | n => n, fun | 21 => 21 | 4 => 4 | 3 => 3 | 162 => 60 | 203 => 58 | 160 => 78 | 46 => 74 | 0 => 0 | 208 => 89 | 51 => 54 | 206 => 87 | n => n, fun | 13 => 3 | n => n⟩
theorem Tryd.lays204 : Go.Proofs.Lays.n204 Tryd.prog Tryd.lays204_ren := {
  mixed := by kernel_rfl
  f204 := Tryd.func28.trans (congrArg some (by kernel_rfl))
  f262 := Tryd.func36.trans (congrArg some (by kernel_rfl))
  f274 := Tryd.func53.trans (congrArg some (by kernel_rfl))
  f275 := Tryd.func54.trans (congrArg some (by kernel_rfl))
  f313 := Tryd.func47.trans (congrArg some (by kernel_rfl))
  t0 := Tryd.underlying0
  a0 := Tryd.isAgg0
  z0 := Tryd.sizeOf0
  v0 := Tryd.zeroValue0
  t3 := Tryd.underlying3
  a3 := Tryd.isAgg3
  z3 := Tryd.sizeOf3
  v3 := Tryd.zeroValue3
  t4 := Tryd.underlying4
  a4 := Tryd.isAgg4
  z4 := Tryd.sizeOf4
  v4 := Tryd.zeroValue4
  t21 := Tryd.underlying21
  a21 := Tryd.isAgg21
  z21 := Tryd.sizeOf21
  v21 := Tryd.zeroValue21
  t46 := Tryd.underlying74
  a46 := Tryd.isAgg74
  z46 := Tryd.sizeOf74
  v46 := Tryd.zeroValue74
  t51 := Tryd.underlying54
  a51 := Tryd.isAgg54
  z51 := Tryd.sizeOf54
  v51 := Tryd.zeroValue54
  t160 := Tryd.underlying78
  a160 := Tryd.isAgg78
  z160 := Tryd.sizeOf78
  v160 := Tryd.zeroValue78
  t162 := Tryd.underlying60
  a162 := Tryd.isAgg60
  z162 := Tryd.sizeOf60
  v162 := Tryd.zeroValue60
  t203 := Tryd.underlying58
  a203 := Tryd.isAgg58
  z203 := Tryd.sizeOf58
  v203 := Tryd.zeroValue58
  t206 := Tryd.underlying87
  a206 := Tryd.isAgg87
  z206 := Tryd.sizeOf87
  v206 := Tryd.zeroValue87
  t208 := Tryd.underlying89
  a208 := Tryd.isAgg89
  z208 := Tryd.sizeOf89
  v208 := Tryd.zeroValue89
  g13 := by kernel_rfl }
open Go.RowKit Go.Lib in
theorem Tryd.unicode_ToLower (r : Int) (w : World) (h : r ≤ 127) :
    Calls Tryd.prog 28 #[.int .i32 r] w fun e w' => e = .returned (.int .i32 (Lib.toLowerR r)) ∧ w' = w := Any.unicode_ToLower Tryd.lays204 r w h
def Tryd.lays200_ren : Go.Shelf.Ren := ⟨fun | 200 => 32 | 261 => 45 | 311 => 51 | 312 => 52 | n => n, fun | 21 => 21 | 4 => 4 | 51 => 54 | 5 => 5 | 119 => 55 | 0 => 0 | 141 => 57 | 196 => 66 | 193 => 63 | 3 => 3 | 198 => 69 | 49 => 67 | 194 => 64 | 201 => 72 | 226 => 84 | 46 => 74 | 227 => 85 | n => n, fun | 7 => 0 | 8 => 1 | n => n⟩
theorem Tryd.lays200 : Go.Proofs.Lays.n200 Tryd.prog Tryd.lays200_ren := {
  mixed := by kernel_rfl
  f200 := Tryd.func32.trans (congrArg some (by kernel_rfl))
  f261 := Tryd.func45.trans (congrArg some (by kernel_rfl))
  f311 := Tryd.func51.trans (congrArg some (by kernel_rfl))
  f312 := Tryd.func52.trans (congrArg some (by kernel_rfl))
  t0 := Tryd.underlying0
  a0 := Tryd.isAgg0
  z0 := Tryd.sizeOf0
  v0 := Tryd.zeroValue0
  t3 := Tryd.underlying3
  a3 := Tryd.isAgg3
  z3 := Tryd.sizeOf3
  v3 := Tryd.zeroValue3
  t4 := Tryd.underlying4
  a4 := Tryd.isAgg4
  z4 := Tryd.sizeOf4
  v4 := Tryd.zeroValue4
  t5 := Tryd.underlying5
  a5 := Tryd.isAgg5
  z5 := Tryd.sizeOf5
  v5 := Tryd.zeroValue5
  t21 := Tryd.underlying21
  a21 := Tryd.isAgg21
  z21 := Tryd.sizeOf21
  v21 := Tryd.zeroValue21
  t46 := Tryd.underlying74
  a46 := Tryd.isAgg74
  z46 := Tryd.sizeOf74
  v46 := Tryd.zeroValue74
  t49 := Tryd.underlying67
  a49 := Tryd.isAgg67
  z49 := Tryd.sizeOf67
  v49 := Tryd.zeroValue67
  t51 := Tryd.underlying54
  a51 := Tryd.isAgg54
  z51 := Tryd.sizeOf54
  v51 := Tryd.zeroValue54
  t119 := Tryd.underlying55
  a119 := Tryd.isAgg55
  z119 := Tryd.sizeOf55
  t141 := Tryd.underlying57
  a141 := Tryd.isAgg57
  z141 := Tryd.sizeOf57
  v141 := Tryd.zeroValue57
  t193 := Tryd.underlying63
  a193 := Tryd.isAgg63
  z193 := Tryd.sizeOf63
  v193 := Tryd.zeroValue63
  t194 := Tryd.underlying64
  a194 := Tryd.isAgg64
  z194 := Tryd.sizeOf64
  v194 := Tryd.zeroValue64
  t196 := Tryd.underlying66
  a196 := Tryd.isAgg66
  z196 := Tryd.sizeOf66
  v196 := Tryd.zeroValue66
  t198 := Tryd.underlying69
  a198 := Tryd.isAgg69
  z198 := Tryd.sizeOf69
  v198 := Tryd.zeroValue69
  t201 := Tryd.underlying72
  a201 := Tryd.isAgg72
  z201 := Tryd.sizeOf72
  v201 := Tryd.zeroValue72
  t226 := Tryd.underlying84
  a226 := Tryd.isAgg84
  z226 := Tryd.sizeOf84
  v226 := Tryd.zeroValue84
  t227 := Tryd.underlying85
  a227 := Tryd.isAgg85
  z227 := Tryd.sizeOf85
  v227 := Tryd.zeroValue85
  g7 := by kernel_rfl
  g8 := by kernel_rfl }
open Go.RowKit Go.Lib in
theorem Tryd.unicode_IsLetter (c : Nat) (w : World) (hc : c < 256) (htab : Lib.TabIs Tryd.prog w "unicode.properties" .u8 Lib.propertiesTab) :
    Calls Tryd.prog 32 #[.int .i32 c] w fun e w' => e = .returned (.bool (Lib.isLetterL c)) ∧ w' = w := Any.unicode_IsLetter Tryd.lays200 (by kernel_rfl) c w hc htab
def Tryd.laysM200_ren : Go.Shelf.Ren := ⟨fun | 200 => 32 | 261 => 45 | 311 => 51 | 312 => 52 | n => n, fun | 21 => 21 | 4 => 4 | 51 => 54 | 5 => 5 | 119 => 55 | 0 => 0 | 141 => 57 | 196 => 66 | 193 => 63 | 3 => 3 | 198 => 69 | 49 => 67 | 194 => 64 | 201 => 72 | 226 => 84 | 46 => 74 | 227 => 85 | n => n, fun | 7 => 0 | 8 => 1 | n => n⟩
theorem Tryd.laysM200 : Go.Proofs.LaysM.n200 Tryd.prog Tryd.laysM200_ren := {
  mixed := by kernel_rfl
  f200 := Tryd.func32.trans (congrArg some (by kernel_rfl))
  f261 := Tryd.func45.trans (congrArg some (by kernel_rfl))
  f311 := Tryd.func51.trans (congrArg some (by kernel_rfl))
  f312 := Tryd.func52.trans (congrArg some (by kernel_rfl))
  t0 := Tryd.underlying0
  a0 := Tryd.isAgg0
  z0 := Tryd.sizeOf0
  v0 := Tryd.zeroValue0
  t3 := Tryd.underlying3
  a3 := Tryd.isAgg3
  z3 := Tryd.sizeOf3
  v3 := Tryd.zeroValue3
  t4 := Tryd.underlying4
  a4 := Tryd.isAgg4
  z4 := Tryd.sizeOf4
  v4 := Tryd.zeroValue4
  t5 := Tryd.underlying5
  a5 := Tryd.isAgg5
  z5 := Tryd.sizeOf5
  v5 := Tryd.zeroValue5
  t21 := Tryd.underlying21
  a21 := Tryd.isAgg21
  z21 := Tryd.sizeOf21
  v21 := Tryd.zeroValue21
  t46 := Tryd.underlying74
  a46 := Tryd.isAgg74
  z46 := Tryd.sizeOf74
  v46 := Tryd.zeroValue74
  t49 := Tryd.underlying67
  a49 := Tryd.isAgg67
  z49 := Tryd.sizeOf67
  v49 := Tryd.zeroValue67
  t51 := Tryd.underlying54
  a51 := Tryd.isAgg54
  z51 := Tryd.sizeOf54
  v51 := Tryd.zeroValue54
  t119 := Tryd.underlying55
  a119 := Tryd.isAgg55
  z119 := Tryd.sizeOf55
  t141 := Tryd.underlying57
  a141 := Tryd.isAgg57
  z141 := Tryd.sizeOf57
  v141 := Tryd.zeroValue57
  t193 := Tryd.underlying63
  a193 := Tryd.isAgg63
  z193 := Tryd.sizeOf63
  v193 := Tryd.zeroValue63
  t194 := Tryd.underlying64
  a194 := Tryd.isAgg64
  z194 := Tryd.sizeOf64
  v194 := Tryd.zeroValue64
  t196 := Tryd.underlying66
  a196 := Tryd.isAgg66
  z196 := Tryd.sizeOf66
  v196 := Tryd.zeroValue66
  t198 := Tryd.underlying69
  a198 := Tryd.isAgg69
  z198 := Tryd.sizeOf69
  v198 := Tryd.zeroValue69
  t201 := Tryd.underlying72
  a201 := Tryd.isAgg72
  z201 := Tryd.sizeOf72
  v201 := Tryd.zeroValue72
  t226 := Tryd.underlying84
  a226 := Tryd.isAgg84
  z226 := Tryd.sizeOf84
  v226 := Tryd.zeroValue84
  t227 := Tryd.underlying85
  a227 := Tryd.isAgg85
  z227 := Tryd.sizeOf85
  v227 := Tryd.zeroValue85
  g7 := by kernel_rfl
  g8 := by kernel_rfl
  i0 := by kernel_rfl
  i3 := by kernel_rfl
  i4 := by kernel_rfl
  i5 := by kernel_rfl
  i21 := by kernel_rfl
  i46 := by kernel_rfl
  i49 := by kernel_rfl
  i51 := by kernel_rfl
  i141 := by kernel_rfl
  i193 := by kernel_rfl
  i194 := by kernel_rfl
  i196 := by kernel_rfl
  i198 := by kernel_rfl
  i201 := by kernel_rfl
  i226 := by kernel_rfl
  i227 := by kernel_rfl
  m7 := by kernel_rfl
  m8 := by kernel_rfl }
open Go.RowKit Go.Lib in
theorem Tryd.unicode_IsLetter_laid (c : Nat) (w : World) (hc : c < 256) (htab : Lib.TabIs Tryd.prog w "unicode.properties" .u8 Lib.propertiesTab) :
    Calls Tryd.prog 32 #[.int .i32 c] w fun e w' => e = .returned (.bool (Lib.isLetterL c)) ∧ w' = w := Any.unicode_IsLetter_laid Tryd.laysM200 c w hc htab
def Tryd.lays197_ren : Go.Shelf.Ren := ⟨fun | 197 => 34 | 260 => 46 | n => n, fun | 9 => 9 | 21 => 21 | 3 => 3 | 4 => 4 | 5 => 5 | 105 => 37 | 119 => 55 | 0 => 0 | 46 => 74 | 139 => 77 | 138 => 76 | n => n, fun | 3 => 4 | 4 => 5 | n => n⟩
theorem Tryd.lays197 : Go.Proofs.Lays.n197 Tryd.prog Tryd.lays197_ren := {
  mixed := by kernel_rfl
  f197 := Tryd.func34.trans (congrArg some (by kernel_rfl))
  f260 := Tryd.func46.trans (congrArg some (by kernel_rfl))
  t0 := Tryd.underlying0
  a0 := Tryd.isAgg0
  z0 := Tryd.sizeOf0
  v0 := Tryd.zeroValue0
  t3 := Tryd.underlying3
  a3 := Tryd.isAgg3
  z3 := Tryd.sizeOf3
  v3 := Tryd.zeroValue3
  t4 := Tryd.underlying4
  a4 := Tryd.isAgg4
  z4 := Tryd.sizeOf4
  v4 := Tryd.zeroValue4
  t5 := Tryd.underlying5
  a5 := Tryd.isAgg5
  z5 := Tryd.sizeOf5
  v5 := Tryd.zeroValue5
  t9 := Tryd.underlying9
  a9 := Tryd.isAgg9
  z9 := Tryd.sizeOf9
  v9 := Tryd.zeroValue9
  t21 := Tryd.underlying21
  a21 := Tryd.isAgg21
  z21 := Tryd.sizeOf21
  v21 := Tryd.zeroValue21
  t46 := Tryd.underlying74
  a46 := Tryd.isAgg74
  z46 := Tryd.sizeOf74
  v46 := Tryd.zeroValue74
  t105 := Tryd.underlying37
  a105 := Tryd.isAgg37
  z105 := Tryd.sizeOf37
  v105 := Tryd.zeroValue37
  t119 := Tryd.underlying55
  a119 := Tryd.isAgg55
  z119 := Tryd.sizeOf55
  t138 := Tryd.underlying76
  a138 := Tryd.isAgg76
  z138 := Tryd.sizeOf76
  v138 := Tryd.zeroValue76
  t139 := Tryd.underlying77
  a139 := Tryd.isAgg77
  z139 := Tryd.sizeOf77
  v139 := Tryd.zeroValue77
  g3 := by kernel_rfl
  g4 := by kernel_rfl }
open Go.RowKit Go.Lib in
/-- unicode/utf8.DecodeRuneInString: "DecodeRuneInString is like DecodeRune but its input is a string.": ("DecodeRune unpacks the first UTF-8 encoding in p and returns the rune and its width in bytes."): WHERE s BEGINS WITH AN ASCII BYTE x: (x, 1). (LAID: no walk: one application.) -/
theorem Tryd.utf8_DecodeRuneInString_ascii (s : ByteArray) (x : UInt8) (w : World) (h0 : s.data.toList[0]? = some x) (hx : x.toNat < 128) :
    Calls Tryd.prog 34 #[.string s] w fun e w' => e = .returned (.tuple #[.int .i32 x.toNat, .int .i64 1]) ∧ w' = w := Any.utf8_DecodeRuneInString_ascii Tryd.lays197 s x w h0 hx
def Tryd.lays260_ren : Go.Shelf.Ren := ⟨fun | 260 => 46 | n => n, fun | 9 => 9 | 21 => 21 | 3 => 3 | 4 => 4 | 5 => 5 | 119 => 55 | 0 => 0 | 46 => 74 | 139 => 77 | 138 => 76 | n => n, fun | 3 => 4 | 4 => 5 | n => n⟩
theorem Tryd.lays260 : Go.Proofs.Lays.n260 Tryd.prog Tryd.lays260_ren := {
  mixed := by kernel_rfl
  f260 := Tryd.func46.trans (congrArg some (by kernel_rfl))
  t0 := Tryd.underlying0
  a0 := Tryd.isAgg0
  z0 := Tryd.sizeOf0
  v0 := Tryd.zeroValue0
  t3 := Tryd.underlying3
  a3 := Tryd.isAgg3
  z3 := Tryd.sizeOf3
  v3 := Tryd.zeroValue3
  t4 := Tryd.underlying4
  a4 := Tryd.isAgg4
  z4 := Tryd.sizeOf4
  v4 := Tryd.zeroValue4
  t5 := Tryd.underlying5
  a5 := Tryd.isAgg5
  z5 := Tryd.sizeOf5
  v5 := Tryd.zeroValue5
  t9 := Tryd.underlying9
  a9 := Tryd.isAgg9
  z9 := Tryd.sizeOf9
  v9 := Tryd.zeroValue9
  t21 := Tryd.underlying21
  a21 := Tryd.isAgg21
  z21 := Tryd.sizeOf21
  v21 := Tryd.zeroValue21
  t46 := Tryd.underlying74
  a46 := Tryd.isAgg74
  z46 := Tryd.sizeOf74
  v46 := Tryd.zeroValue74
  t119 := Tryd.underlying55
  a119 := Tryd.isAgg55
  z119 := Tryd.sizeOf55
  t138 := Tryd.underlying76
  a138 := Tryd.isAgg76
  z138 := Tryd.sizeOf76
  v138 := Tryd.zeroValue76
  t139 := Tryd.underlying77
  a139 := Tryd.isAgg77
  z139 := Tryd.sizeOf77
  v139 := Tryd.zeroValue77
  g3 := by kernel_rfl
  g4 := by kernel_rfl }
open Go.RowKit Go.Lib in
theorem Tryd.utf8_decodeRuneInStringSlow (s : ByteArray) (w : World) (hT : Lib.Utf8Tabs 4 5 w) :
    Calls Tryd.prog 46 #[.string s] w fun e w' => e = .returned (.tuple #[.int .i32 (Lib.decodeGo s).1, .int .i64 (Lib.decodeGo s).2]) ∧ Below w.heap.size w w' := Any.utf8_decodeRuneInStringSlow Tryd.lays260 s w hT
open Go.RowKit Go.Lib in
/-- **unicode/utf8.DecodeRuneInString AT EVERY STRING.** (LAID: no walk: one application.) -/
theorem Tryd.utf8_DecodeRuneInString (s : ByteArray) (w : World) (hT : Lib.Utf8Tabs 4 5 w) :
    Calls Tryd.prog 34 #[.string s] w fun e w' => e = .returned (.tuple #[.int .i32 (Lib.decodeGo s).1, .int .i64 (Lib.decodeGo s).2]) ∧ Below w.heap.size w w' := Any.utf8_DecodeRuneInString Tryd.lays197 s w hT
def Tryd.lays311_ren : Go.Shelf.Ren := ⟨fun | 311 => 51 | n => n, fun | 193 => 63 | 49 => 67 | 4 => 4 | 3 => 3 | 0 => 0 | 226 => 84 | 198 => 69 | 46 => 74 | n => n, fun | n => n⟩
theorem Tryd.lays311 : Go.Proofs.Lays.n311 Tryd.prog Tryd.lays311_ren := {
  mixed := by kernel_rfl
  f311 := Tryd.func51.trans (congrArg some (by kernel_rfl))
  t0 := Tryd.underlying0
  a0 := Tryd.isAgg0
  z0 := Tryd.sizeOf0
  v0 := Tryd.zeroValue0
  t3 := Tryd.underlying3
  a3 := Tryd.isAgg3
  z3 := Tryd.sizeOf3
  v3 := Tryd.zeroValue3
  t4 := Tryd.underlying4
  a4 := Tryd.isAgg4
  z4 := Tryd.sizeOf4
  v4 := Tryd.zeroValue4
  t46 := Tryd.underlying74
  a46 := Tryd.isAgg74
  z46 := Tryd.sizeOf74
  v46 := Tryd.zeroValue74
  t49 := Tryd.underlying67
  a49 := Tryd.isAgg67
  z49 := Tryd.sizeOf67
  v49 := Tryd.zeroValue67
  t193 := Tryd.underlying63
  a193 := Tryd.isAgg63
  z193 := Tryd.sizeOf63
  v193 := Tryd.zeroValue63
  t198 := Tryd.underlying69
  a198 := Tryd.isAgg69
  z198 := Tryd.sizeOf69
  v198 := Tryd.zeroValue69
  t226 := Tryd.underlying84
  a226 := Tryd.isAgg84
  z226 := Tryd.sizeOf84
  v226 := Tryd.zeroValue84 }
open Go.RowKit Go.Lib in
theorem Tryd.unicode_is16_white (R oR : Nat) (z : Nat) (w : World) (hz : z < 65536) (hz0 : 255 < z) (c6 : w.cell? ⟨R, oR + 6, none⟩ = some (.int .u16 160)) (c7 : w.cell? ⟨R, oR + 7, none⟩ = some (.int .u16 5760)) (c8 : w.cell? ⟨R, oR + 8, none⟩ = some (.int .u16 5600)) (c9 : w.cell? ⟨R, oR + 9, none⟩ = some (.int .u16 8192)) (c10 : w.cell? ⟨R, oR + 10, none⟩ = some (.int .u16 8202)) (c11 : w.cell? ⟨R, oR + 11, none⟩ = some (.int .u16 1)) (c12 : w.cell? ⟨R, oR + 12, none⟩ = some (.int .u16 8232)) (c13 : w.cell? ⟨R, oR + 13, none⟩ = some (.int .u16 8233)) (c14 : w.cell? ⟨R, oR + 14, none⟩ = some (.int .u16 1)) (c15 : w.cell? ⟨R, oR + 15, none⟩ = some (.int .u16 8239)) (c16 : w.cell? ⟨R, oR + 16, none⟩ = some (.int .u16 8287)) (c17 : w.cell? ⟨R, oR + 17, none⟩ = some (.int .u16 48)) (c18 : w.cell? ⟨R, oR + 18, none⟩ = some (.int .u16 12288)) (c19 : w.cell? ⟨R, oR + 19, none⟩ = some (.int .u16 12288)) (c20 : w.cell? ⟨R, oR + 20, none⟩ = some (.int .u16 1)) :
    Calls Tryd.prog 51 #[.slice (some ⟨R, oR + 6, none⟩) 5 5, .int .u16 z] w fun e w' => e = .returned (.bool (Lib.isSpaceR z)) ∧ Below w.heap.size w w' := Any.unicode_is16_white Tryd.lays311 R oR z w hz hz0 c6 c7 c8 c9 c10 c11 c12 c13 c14 c15 c16 c17 c18 c19 c20
def Tryd.lays261_ren : Go.Shelf.Ren := ⟨fun | 261 => 45 | 311 => 51 | 312 => 52 | n => n, fun | 141 => 57 | 21 => 21 | 4 => 4 | 0 => 0 | 196 => 66 | 193 => 63 | 3 => 3 | 51 => 54 | 198 => 69 | 49 => 67 | 194 => 64 | 201 => 72 | 226 => 84 | 46 => 74 | 227 => 85 | n => n, fun | n => n⟩
theorem Tryd.lays261 : Go.Proofs.Lays.n261 Tryd.prog Tryd.lays261_ren := {
  mixed := by kernel_rfl
  f261 := Tryd.func45.trans (congrArg some (by kernel_rfl))
  f311 := Tryd.func51.trans (congrArg some (by kernel_rfl))
  f312 := Tryd.func52.trans (congrArg some (by kernel_rfl))
  t0 := Tryd.underlying0
  a0 := Tryd.isAgg0
  z0 := Tryd.sizeOf0
  v0 := Tryd.zeroValue0
  t3 := Tryd.underlying3
  a3 := Tryd.isAgg3
  z3 := Tryd.sizeOf3
  v3 := Tryd.zeroValue3
  t4 := Tryd.underlying4
  a4 := Tryd.isAgg4
  z4 := Tryd.sizeOf4
  v4 := Tryd.zeroValue4
  t21 := Tryd.underlying21
  a21 := Tryd.isAgg21
  z21 := Tryd.sizeOf21
  v21 := Tryd.zeroValue21
  t46 := Tryd.underlying74
  a46 := Tryd.isAgg74
  z46 := Tryd.sizeOf74
  v46 := Tryd.zeroValue74
  t49 := Tryd.underlying67
  a49 := Tryd.isAgg67
  z49 := Tryd.sizeOf67
  v49 := Tryd.zeroValue67
  t51 := Tryd.underlying54
  a51 := Tryd.isAgg54
  z51 := Tryd.sizeOf54
  v51 := Tryd.zeroValue54
  t141 := Tryd.underlying57
  a141 := Tryd.isAgg57
  z141 := Tryd.sizeOf57
  v141 := Tryd.zeroValue57
  t193 := Tryd.underlying63
  a193 := Tryd.isAgg63
  z193 := Tryd.sizeOf63
  v193 := Tryd.zeroValue63
  t194 := Tryd.underlying64
  a194 := Tryd.isAgg64
  z194 := Tryd.sizeOf64
  v194 := Tryd.zeroValue64
  t196 := Tryd.underlying66
  a196 := Tryd.isAgg66
  z196 := Tryd.sizeOf66
  v196 := Tryd.zeroValue66
  t198 := Tryd.underlying69
  a198 := Tryd.isAgg69
  z198 := Tryd.sizeOf69
  v198 := Tryd.zeroValue69
  t201 := Tryd.underlying72
  a201 := Tryd.isAgg72
  z201 := Tryd.sizeOf72
  v201 := Tryd.zeroValue72
  t226 := Tryd.underlying84
  a226 := Tryd.isAgg84
  z226 := Tryd.sizeOf84
  v226 := Tryd.zeroValue84
  t227 := Tryd.underlying85
  a227 := Tryd.isAgg85
  z227 := Tryd.sizeOf85
  v227 := Tryd.zeroValue85 }
open Go.RowKit Go.Lib in
/-- unicode.isExcludingLatin(White_Space, r), r beyond U+00FF or negative. (LAID: no walk: one application.) -/
theorem Tryd.unicode_isExcludingLatin_white (T oT R oR : Nat) (r : Int) (w : World) (hlo : -2147483648 ≤ r) (hhi : r ≤ 2147483647) (hr : r < 0 ∨ 255 < r) (h2 : w.cell? ⟨T, oT, none⟩ = some (.slice (some ⟨R, oR, none⟩) 7 7)) (h3 : w.cell? ⟨T, oT + 1, none⟩ = some (.slice none 0 0)) (h4 : w.cell? ⟨T, oT + 2, none⟩ = some (.int .i64 2)) (h5 : ∀ i, i < 21 → w.cell? ⟨R, oR + i, none⟩ = some (.int .u16 (whiteT.getD i 0))) :
    Calls Tryd.prog 45 #[.pointer (some ⟨T, oT, none⟩), .int .i32 r] w fun e w' => e = .returned (.bool (Lib.isSpaceZ r)) ∧ Below w.heap.size w w' := Any.unicode_isExcludingLatin_white Tryd.lays261 T oT R oR r w hlo hhi hr h2 h3 h4 h5
def Tryd.lays274_ren : Go.Shelf.Ren := ⟨fun | 274 => 53 | n => n, fun | 21 => 21 | 162 => 60 | 160 => 78 | 3 => 3 | 4 => 4 | 46 => 74 | 0 => 0 | 208 => 89 | 51 => 54 | 206 => 87 | n => n, fun | n => n⟩
theorem Tryd.lays274 : Go.Proofs.Lays.n274 Tryd.prog Tryd.lays274_ren := {
  mixed := by kernel_rfl
  f274 := Tryd.func53.trans (congrArg some (by kernel_rfl))
  t0 := Tryd.underlying0
  a0 := Tryd.isAgg0
  z0 := Tryd.sizeOf0
  v0 := Tryd.zeroValue0
  t3 := Tryd.underlying3
  a3 := Tryd.isAgg3
  z3 := Tryd.sizeOf3
  v3 := Tryd.zeroValue3
  t4 := Tryd.underlying4
  a4 := Tryd.isAgg4
  z4 := Tryd.sizeOf4
  v4 := Tryd.zeroValue4
  t21 := Tryd.underlying21
  a21 := Tryd.isAgg21
  z21 := Tryd.sizeOf21
  v21 := Tryd.zeroValue21
  t46 := Tryd.underlying74
  a46 := Tryd.isAgg74
  z46 := Tryd.sizeOf74
  v46 := Tryd.zeroValue74
  t51 := Tryd.underlying54
  a51 := Tryd.isAgg54
  z51 := Tryd.sizeOf54
  v51 := Tryd.zeroValue54
  t160 := Tryd.underlying78
  a160 := Tryd.isAgg78
  z160 := Tryd.sizeOf78
  v160 := Tryd.zeroValue78
  t162 := Tryd.underlying60
  a162 := Tryd.isAgg60
  z162 := Tryd.sizeOf60
  v162 := Tryd.zeroValue60
  t208 := Tryd.underlying89
  a208 := Tryd.isAgg89
  z208 := Tryd.sizeOf89
  v208 := Tryd.zeroValue89 }
open Go.RowKit Go.Lib in
theorem Tryd.unicode_lookupCaseRange (T : Array CaseRow) (R oR cap : Nat) (r : Int) (w : World) (hT : CaseTab R oR T w) (hok : CaseOk T) (hn : T.size ≤ 1000000000) :
    Calls Tryd.prog 53 #[.int .i32 r, .slice (some ⟨R, oR, none⟩) T.size cap] w fun e w' =>
      e = .returned (match lookupIdx T r (T.size + 1) 0 T.size with | some i => .pointer (some ⟨R, oR + i * 5, none⟩) | none => .pointer none) ∧ w' = w := Any.unicode_lookupCaseRange Tryd.lays274 T R oR cap r w hT hok hn
def Tryd.lays275_ren : Go.Shelf.Ren := ⟨fun | 275 => 54 | n => n, fun | 3 => 3 | 21 => 21 | 160 => 78 | 0 => 0 | 208 => 89 | 206 => 87 | 4 => 4 | 51 => 54 | n => n, fun | n => n⟩
theorem Tryd.lays275 : Go.Proofs.Lays.n275 Tryd.prog Tryd.lays275_ren := {
  mixed := by kernel_rfl
  f275 := Tryd.func54.trans (congrArg some (by kernel_rfl))
  t0 := Tryd.underlying0
  a0 := Tryd.isAgg0
  z0 := Tryd.sizeOf0
  v0 := Tryd.zeroValue0
  t3 := Tryd.underlying3
  a3 := Tryd.isAgg3
  z3 := Tryd.sizeOf3
  v3 := Tryd.zeroValue3
  t4 := Tryd.underlying4
  a4 := Tryd.isAgg4
  z4 := Tryd.sizeOf4
  v4 := Tryd.zeroValue4
  t21 := Tryd.underlying21
  a21 := Tryd.isAgg21
  z21 := Tryd.sizeOf21
  v21 := Tryd.zeroValue21
  t51 := Tryd.underlying54
  a51 := Tryd.isAgg54
  z51 := Tryd.sizeOf54
  v51 := Tryd.zeroValue54
  t160 := Tryd.underlying78
  a160 := Tryd.isAgg78
  z160 := Tryd.sizeOf78
  v160 := Tryd.zeroValue78
  t206 := Tryd.underlying87
  a206 := Tryd.isAgg87
  z206 := Tryd.sizeOf87
  v206 := Tryd.zeroValue87
  t208 := Tryd.underlying89
  a208 := Tryd.isAgg89
  z208 := Tryd.sizeOf89
  v208 := Tryd.zeroValue89 }
open Go.RowKit Go.Lib in
theorem Tryd.unicode_convertCase (c : Nat) (hc : c < 3) (r : Int) (A o : Nat) (x : CaseRow) (w : World) (hlo : (x.1 : Int) ≤ r) (hhi : r ≤ (x.2.1 : Int)) (hH : x.2.1 < 2147483647) (c0 : w.cell? ⟨A, o, none⟩ = some (.int .u32 x.1)) (cD : w.cell? ⟨A, o + 2 + c, none⟩ = some (.int .i32 (x.delta c))) :
    Calls Tryd.prog 54 #[.int .i64 c, .int .i32 r, .pointer (some ⟨A, o, none⟩)] w fun e w' => e = .returned (.int .i32 (wrap32 (convertR c r x))) ∧ ∃ q, w' = w.drewN q := Any.unicode_convertCase Tryd.lays275 c hc r A o x w hlo hhi hH c0 cD
def Tryd.lays313_ren : Go.Shelf.Ren := ⟨fun | 313 => 47 | 274 => 53 | 275 => 54 | n => n, fun | 3 => 3 | 21 => 21 | 162 => 60 | 4 => 4 | 160 => 78 | 46 => 74 | 0 => 0 | 208 => 89 | 51 => 54 | 206 => 87 | n => n, fun | n => n⟩
theorem Tryd.lays313 : Go.Proofs.Lays.n313 Tryd.prog Tryd.lays313_ren := {
  mixed := by kernel_rfl
  f274 := Tryd.func53.trans (congrArg some (by kernel_rfl))
  f275 := Tryd.func54.trans (congrArg some (by kernel_rfl))
  f313 := Tryd.func47.trans (congrArg some (by kernel_rfl))
  t0 := Tryd.underlying0
  a0 := Tryd.isAgg0
  z0 := Tryd.sizeOf0
  v0 := Tryd.zeroValue0
  t3 := Tryd.underlying3
  a3 := Tryd.isAgg3
  z3 := Tryd.sizeOf3
  v3 := Tryd.zeroValue3
  t4 := Tryd.underlying4
  a4 := Tryd.isAgg4
  z4 := Tryd.sizeOf4
  v4 := Tryd.zeroValue4
  t21 := Tryd.underlying21
  a21 := Tryd.isAgg21
  z21 := Tryd.sizeOf21
  v21 := Tryd.zeroValue21
  t46 := Tryd.underlying74
  a46 := Tryd.isAgg74
  z46 := Tryd.sizeOf74
  v46 := Tryd.zeroValue74
  t51 := Tryd.underlying54
  a51 := Tryd.isAgg54
  z51 := Tryd.sizeOf54
  v51 := Tryd.zeroValue54
  t160 := Tryd.underlying78
  a160 := Tryd.isAgg78
  z160 := Tryd.sizeOf78
  v160 := Tryd.zeroValue78
  t162 := Tryd.underlying60
  a162 := Tryd.isAgg60
  z162 := Tryd.sizeOf60
  v162 := Tryd.zeroValue60
  t206 := Tryd.underlying87
  a206 := Tryd.isAgg87
  z206 := Tryd.sizeOf87
  v206 := Tryd.zeroValue87
  t208 := Tryd.underlying89
  a208 := Tryd.isAgg89
  z208 := Tryd.sizeOf89
  v208 := Tryd.zeroValue89 }
open Go.RowKit Go.Lib in
theorem Tryd.unicode_to (c : Nat) (hc : c < 3) (r : Int) (T : Array CaseRow) (R oR cap : Nat) (w : World) (hT : CaseTab R oR T w) (hok : CaseOk2 T) (hn : T.size ≤ 1000000000) :
    Calls Tryd.prog 47 #[.int .i64 c, .int .i32 r, .slice (some ⟨R, oR, none⟩) T.size cap] w fun e w' => e = .returned (.tuple #[.int .i32 (toW T c r), .bool (lookupIdx T r (T.size + 1) 0 T.size).isSome]) ∧ ∃ q, w' = w.drewN q := Any.unicode_to Tryd.lays313 c hc r T R oR cap w hT hok hn
def Tryd.lays262_ren : Go.Shelf.Ren := ⟨fun | 262 => 36 | 313 => 47 | 274 => 53 | 275 => 54 | n => n, fun | 3 => 3 | 21 => 21 | 162 => 60 | 203 => 58 | 4 => 4 | 160 => 78 | 46 => 74 | 0 => 0 | 208 => 89 | 51 => 54 | 206 => 87 | n => n, fun | 13 => 3 | n => n⟩
theorem Tryd.lays262 : Go.Proofs.Lays.n262 Tryd.prog Tryd.lays262_ren := {
  mixed := by kernel_rfl
  f262 := Tryd.func36.trans (congrArg some (by kernel_rfl))
  f274 := Tryd.func53.trans (congrArg some (by kernel_rfl))
  f275 := Tryd.func54.trans (congrArg some (by kernel_rfl))
  f313 := Tryd.func47.trans (congrArg some (by kernel_rfl))
  t0 := Tryd.underlying0
  a0 := Tryd.isAgg0
  z0 := Tryd.sizeOf0
  v0 := Tryd.zeroValue0
  t3 := Tryd.underlying3
  a3 := Tryd.isAgg3
  z3 := Tryd.sizeOf3
  v3 := Tryd.zeroValue3
  t4 := Tryd.underlying4
  a4 := Tryd.isAgg4
  z4 := Tryd.sizeOf4
  v4 := Tryd.zeroValue4
  t21 := Tryd.underlying21
  a21 := Tryd.isAgg21
  z21 := Tryd.sizeOf21
  v21 := Tryd.zeroValue21
  t46 := Tryd.underlying74
  a46 := Tryd.isAgg74
  z46 := Tryd.sizeOf74
  v46 := Tryd.zeroValue74
  t51 := Tryd.underlying54
  a51 := Tryd.isAgg54
  z51 := Tryd.sizeOf54
  v51 := Tryd.zeroValue54
  t160 := Tryd.underlying78
  a160 := Tryd.isAgg78
  z160 := Tryd.sizeOf78
  v160 := Tryd.zeroValue78
  t162 := Tryd.underlying60
  a162 := Tryd.isAgg60
  z162 := Tryd.sizeOf60
  v162 := Tryd.zeroValue60
  t203 := Tryd.underlying58
  a203 := Tryd.isAgg58
  z203 := Tryd.sizeOf58
  v203 := Tryd.zeroValue58
  t206 := Tryd.underlying87
  a206 := Tryd.isAgg87
  z206 := Tryd.sizeOf87
  v206 := Tryd.zeroValue87
  t208 := Tryd.underlying89
  a208 := Tryd.isAgg89
  z208 := Tryd.sizeOf89
  v208 := Tryd.zeroValue89
  g13 := by kernel_rfl }
open Go.RowKit Go.Lib in
theorem Tryd.unicode_To (c : Nat) (hc : c < 3) (r : Int) (T : Array CaseRow) (w : World) (hV : CaseVar 3 T w) (hok : CaseOk2 T) (hn : T.size ≤ 1000000000) :
    Calls Tryd.prog 36 #[.int .i64 c, .int .i32 r] w fun e w' => e = .returned (.int .i32 (toW T c r)) ∧ ∃ q, w' = w.drewN q := Any.unicode_To Tryd.lays262 c hc r T w hV hok hn
open Go.RowKit Go.Lib in
theorem Tryd.unicode_ToLower_any (r : Int) (T : Array CaseRow) (w : World) (hV : CaseVar 3 T w) (hok : CaseOk2 T) (hn : T.size ≤ 1000000000) :
    Calls Tryd.prog 28 #[.int .i32 r] w fun e w' => e = .returned (.int .i32 (Lib.toLowerW T r)) ∧ ∃ q, w' = w.drewN q := Any.unicode_ToLower_any Tryd.lays204 r T w hV hok hn
open Go.RowKit Go.Lib in
theorem Tryd.unicode_ToUpper_any (r : Int) (T : Array CaseRow) (w : World) (hV : CaseVar 3 T w) (hok : CaseOk2 T) (hn : T.size ≤ 1000000000) :
    Calls Tryd.prog 27 #[.int .i32 r] w fun e w' => e = .returned (.int .i32 (Lib.toUpperW T r)) ∧ ∃ q, w' = w.drewN q := Any.unicode_ToUpper_any Tryd.lays203 r T w hV hok hn
open Go.RowKit Go.Lib in
theorem Tryd.unicode_ToLower_laid (r : Int) (w : World) (hV : CaseVar 3 caseA w) :
    Calls Tryd.prog 28 #[.int .i32 r] w fun e w' => e = .returned (.int .i32 (toLowerU r)) ∧ ∃ q, w' = w.drewN q := Any.unicode_ToLower_laid Tryd.lays204 r w hV
open Go.RowKit Go.Lib in
theorem Tryd.unicode_ToUpper_laid (r : Int) (w : World) (hV : CaseVar 3 caseA w) :
    Calls Tryd.prog 27 #[.int .i32 r] w fun e w' => e = .returned (.int .i32 (toUpperU r)) ∧ ∃ q, w' = w.drewN q := Any.unicode_ToUpper_laid Tryd.lays203 r w hV
def Tryd.lays270_ren : Go.Shelf.Ren := ⟨fun | 270 => 42 | n => n, fun | 70 => 41 | 3 => 3 | 0 => 0 | 72 => 43 | 37 => 33 | 5 => 5 | n => n, fun | n => n⟩
theorem Tryd.lays270 : Go.Proofs.Lays.n270 Tryd.prog Tryd.lays270_ren := {
  mixed := by kernel_rfl
  f270 := Tryd.func42.trans (congrArg some (by kernel_rfl))
  t0 := Tryd.underlying0
  a0 := Tryd.isAgg0
  z0 := Tryd.sizeOf0
  v0 := Tryd.zeroValue0
  t3 := Tryd.underlying3
  a3 := Tryd.isAgg3
  z3 := Tryd.sizeOf3
  v3 := Tryd.zeroValue3
  t37 := Tryd.underlying33
  a37 := Tryd.isAgg33
  z37 := Tryd.sizeOf33
  v37 := Tryd.zeroValue33
  t70 := Tryd.underlying41
  a70 := Tryd.isAgg41
  z70 := Tryd.sizeOf41
  v70 := Tryd.zeroValue41
  t72 := Tryd.underlying43
  a72 := Tryd.isAgg43
  z72 := Tryd.sizeOf43
  v72 := Tryd.zeroValue43 }
open Go.RowKit Go.Lib in
/-- (*strings.Builder).Cap: "Cap returns the capacity of the builder's underlying byte slice." (LAID: no walk: one application.) -/
theorem Tryd.Builder_Cap_cell (b : Nat) (p : Option Addr) (n cap : Nat) (w : World) (c1 : w.cell? ⟨b, 1, none⟩ = some (.slice p n cap)) :
    Calls Tryd.prog 42 #[.pointer (some ⟨b, 0, none⟩)] w fun e w' => e = .returned (.int .i64 cap) ∧ w' = w := Any.Builder_Cap_cell Tryd.lays270 b p n cap w c1
def Tryd.lays230_ren : Go.Shelf.Ren := ⟨fun | 230 => 30 | 197 => 34 | 118 => 38 | 165 => 39 | 166 => 40 | 168 => 41 | 270 => 42 | 167 => 43 | 169 => 44 | 260 => 46 | 240 => 48 | 241 => 49 | 242 => 50 | 276 => 55 | 277 => 56 | 278 => 57 | n => n, fun | 107 => 34 | 9 => 9 | 72 => 43 | 0 => 0 | 4 => 4 | 3 => 3 | 21 => 21 | 105 => 37 | 76 => 48 | 5 => 5 | 75 => 47 | 70 => 41 | 20 => 20 | 37 => 33 | 127 => 62 | 119 => 55 | 46 => 74 | 139 => 77 | 138 => 76 | 164 => 81 | 51 => 54 | 80 => 53 | n => n, fun | 3 => 4 | 4 => 5 | n => n⟩
theorem Tryd.lays230 : Go.Proofs.Lays.n230 Tryd.prog Tryd.lays230_ren := {
  mixed := by kernel_rfl
  f118 := Tryd.func38.trans (congrArg some (by kernel_rfl))
  f165 := Tryd.func39.trans (congrArg some (by kernel_rfl))
  f166 := Tryd.func40.trans (congrArg some (by kernel_rfl))
  f167 := Tryd.func43.trans (congrArg some (by kernel_rfl))
  f168 := Tryd.func41.trans (congrArg some (by kernel_rfl))
  f169 := Tryd.func44.trans (congrArg some (by kernel_rfl))
  f197 := Tryd.func34.trans (congrArg some (by kernel_rfl))
  f230 := Tryd.func30.trans (congrArg some (by kernel_rfl))
  f240 := Tryd.func48.trans (congrArg some (by kernel_rfl))
  f241 := Tryd.func49.trans (congrArg some (by kernel_rfl))
  f242 := Tryd.func50.trans (congrArg some (by kernel_rfl))
  f260 := Tryd.func46.trans (congrArg some (by kernel_rfl))
  f270 := Tryd.func42.trans (congrArg some (by kernel_rfl))
  f276 := Tryd.func55.trans (congrArg some (by kernel_rfl))
  f277 := Tryd.func56.trans (congrArg some (by kernel_rfl))
  f278 := Tryd.func57.trans (congrArg some (by kernel_rfl))
  t0 := Tryd.underlying0
  a0 := Tryd.isAgg0
  z0 := Tryd.sizeOf0
  v0 := Tryd.zeroValue0
  t3 := Tryd.underlying3
  a3 := Tryd.isAgg3
  z3 := Tryd.sizeOf3
  v3 := Tryd.zeroValue3
  t4 := Tryd.underlying4
  a4 := Tryd.isAgg4
  z4 := Tryd.sizeOf4
  v4 := Tryd.zeroValue4
  t5 := Tryd.underlying5
  a5 := Tryd.isAgg5
  z5 := Tryd.sizeOf5
  v5 := Tryd.zeroValue5
  t9 := Tryd.underlying9
  a9 := Tryd.isAgg9
  z9 := Tryd.sizeOf9
  v9 := Tryd.zeroValue9
  t20 := Tryd.underlying20
  a20 := Tryd.isAgg20
  z20 := Tryd.sizeOf20
  v20 := Tryd.zeroValue20
  t21 := Tryd.underlying21
  a21 := Tryd.isAgg21
  z21 := Tryd.sizeOf21
  v21 := Tryd.zeroValue21
  t37 := Tryd.underlying33
  a37 := Tryd.isAgg33
  z37 := Tryd.sizeOf33
  v37 := Tryd.zeroValue33
  t46 := Tryd.underlying74
  a46 := Tryd.isAgg74
  z46 := Tryd.sizeOf74
  v46 := Tryd.zeroValue74
  t51 := Tryd.underlying54
  a51 := Tryd.isAgg54
  z51 := Tryd.sizeOf54
  v51 := Tryd.zeroValue54
  t70 := Tryd.underlying41
  a70 := Tryd.isAgg41
  z70 := Tryd.sizeOf41
  v70 := Tryd.zeroValue41
  t72 := Tryd.underlying43
  a72 := Tryd.isAgg43
  z72 := Tryd.sizeOf43
  v72 := Tryd.zeroValue43
  t75 := Tryd.underlying47
  a75 := Tryd.isAgg47
  z75 := Tryd.sizeOf47
  v75 := Tryd.zeroValue47
  t76 := Tryd.underlying48
  a76 := Tryd.isAgg48
  z76 := Tryd.sizeOf48
  v76 := Tryd.zeroValue48
  t105 := Tryd.underlying37
  a105 := Tryd.isAgg37
  z105 := Tryd.sizeOf37
  v105 := Tryd.zeroValue37
  t107 := Tryd.underlying34
  a107 := Tryd.isAgg34
  z107 := Tryd.sizeOf34
  v107 := Tryd.zeroValue34
  t119 := Tryd.underlying55
  a119 := Tryd.isAgg55
  z119 := Tryd.sizeOf55
  t127 := Tryd.underlying62
  a127 := Tryd.isAgg62
  z127 := Tryd.sizeOf62
  v127 := Tryd.zeroValue62
  t138 := Tryd.underlying76
  a138 := Tryd.isAgg76
  z138 := Tryd.sizeOf76
  v138 := Tryd.zeroValue76
  t139 := Tryd.underlying77
  a139 := Tryd.isAgg77
  z139 := Tryd.sizeOf77
  v139 := Tryd.zeroValue77
  t164 := Tryd.underlying81
  a164 := Tryd.isAgg81
  z164 := Tryd.sizeOf81
  v164 := Tryd.zeroValue81
  g3 := by kernel_rfl
  g4 := by kernel_rfl }
theorem Tryd.Builder_Extra_230 : Builder.Extra Tryd.prog Tryd.lays230_ren := {
  sizeBuilder := by kernel_rfl
  liesBuilder := by kernel_rfl
  t5 := Tryd.underlying5
  a5 := Tryd.isAgg5
  z5 := Tryd.sizeOf5
  v5 := Tryd.zeroValue5
  infoByte := by kernel_rfl
  cellsByte := by kernel_rfl
  sizeByte := by kernel_rfl
  neB5 := by decide }
open Go.RowKit Go.Lib in
theorem Tryd.strings_Map_runes (g : Nat) (lb : Array Value) (eg : ∀ args w, (callFunc g args).run Tryd.prog w = .ok (.enter g args) w) (f : Int → Int) (s : ByteArray) (w : World) (hs : s.size < 35184372088832) (hf : MapAtRunes Tryd.prog g lb f w) (hnn : ∀ x : Nat, x ≤ 1114111 → 0 ≤ f x ∧ f x ≤ 2147483647) (hT : Lib.Utf8Tabs 4 5 w) :
    Calls Tryd.prog 30 #[.func (.func g) #[] lb, .string s] w fun e w' => e = .returned (.string ⟨(Lib.mapD f s.data.toList).toArray⟩) ∧ Below w.heap.size w w' := Any.strings_Map_runes Tryd.lays230 Tryd.Builder_Extra_230 g lb eg f s w hs hf hnn hT
open Go.RowKit Go.Lib in
theorem Tryd.unicode_is16_any (T : Array Rg) (R oR cap : Nat) (z : Nat) (w : World) (hz : z < 65536) (hT : RgTab .u16 R oR T w) (hok : RgOk 65536 T) (hn : T.size ≤ 1000000000) :
    Calls Tryd.prog 51 #[.slice (some ⟨R, oR, none⟩) T.size cap, .int .u16 z] w fun e w' => e = .returned (.bool (is16Go T z)) ∧ ∃ q, w' = w.drewN q := Any.unicode_is16_any Tryd.lays311 T R oR cap z w hz hT hok hn
def Tryd.lays312_ren : Go.Shelf.Ren := ⟨fun | 312 => 52 | n => n, fun | 194 => 64 | 51 => 54 | 4 => 4 | 3 => 3 | 0 => 0 | 227 => 85 | 201 => 72 | 46 => 74 | n => n, fun | n => n⟩
theorem Tryd.lays312 : Go.Proofs.Lays.n312 Tryd.prog Tryd.lays312_ren := {
  mixed := by kernel_rfl
  f312 := Tryd.func52.trans (congrArg some (by kernel_rfl))
  t0 := Tryd.underlying0
  a0 := Tryd.isAgg0
  z0 := Tryd.sizeOf0
  v0 := Tryd.zeroValue0
  t3 := Tryd.underlying3
  a3 := Tryd.isAgg3
  z3 := Tryd.sizeOf3
  v3 := Tryd.zeroValue3
  t4 := Tryd.underlying4
  a4 := Tryd.isAgg4
  z4 := Tryd.sizeOf4
  v4 := Tryd.zeroValue4
  t46 := Tryd.underlying74
  a46 := Tryd.isAgg74
  z46 := Tryd.sizeOf74
  v46 := Tryd.zeroValue74
  t51 := Tryd.underlying54
  a51 := Tryd.isAgg54
  z51 := Tryd.sizeOf54
  v51 := Tryd.zeroValue54
  t194 := Tryd.underlying64
  a194 := Tryd.isAgg64
  z194 := Tryd.sizeOf64
  v194 := Tryd.zeroValue64
  t201 := Tryd.underlying72
  a201 := Tryd.isAgg72
  z201 := Tryd.sizeOf72
  v201 := Tryd.zeroValue72
  t227 := Tryd.underlying85
  a227 := Tryd.isAgg85
  z227 := Tryd.sizeOf85
  v227 := Tryd.zeroValue85 }
open Go.RowKit Go.Lib in
theorem Tryd.unicode_is32_any (T : Array Rg) (R oR cap : Nat) (z : Nat) (w : World) (hz : z < 4294967296) (hT : RgTab .u32 R oR T w) (hok : RgOk 4294967296 T) (hn : T.size ≤ 1000000000) :
    Calls Tryd.prog 52 #[.slice (some ⟨R, oR, none⟩) T.size cap, .int .u32 z] w fun e w' => e = .returned (.bool (is32Go T z)) ∧ Below w.heap.size w w' := Any.unicode_is32_any Tryd.lays312 T R oR cap z w hz hT hok hn
open Go.RowKit Go.Lib in
theorem Tryd.unicode_isExcludingLatin_any (Tb oT : Nat) (T : RTab) (r : Int) (w : World) (hlo : -2147483648 ≤ r) (hhi : r ≤ 2147483647) (hA : RTabAt Tb oT T w) (hok : RTabOk T) :
    Calls Tryd.prog 45 #[.pointer (some ⟨Tb, oT, none⟩), .int .i32 r] w fun e w' => e = .returned (.bool (exclGo T r)) ∧ Below w.heap.size w w' := Any.unicode_isExcludingLatin_any Tryd.lays261 Tb oT T r w hlo hhi hA hok
open Go.RowKit Go.Lib in
/-- unicode.IsLetter(r) AT EVERY int32, over whatever table the variable unicode.Letter leads to. (LAID: no walk: one application.) -/
theorem Tryd.unicode_IsLetter_any (T : RTab) (r : Int) (w : World) (hlo : -2147483648 ≤ r) (hhi : r ≤ 2147483647) (htab : Lib.TabIs Tryd.prog w "unicode.properties" .u8 Lib.propertiesTab) (hV : RVar 1 T w) (hok : RTabOk T) :
    Calls Tryd.prog 32 #[.int .i32 r] w fun e w' => e = .returned (.bool (if latin1 r then isLetterL r else exclGo T r)) ∧ Below w.heap.size w w' := Any.unicode_IsLetter_any Tryd.lays200 (by kernel_rfl) T r w hlo hhi htab hV hok
open Go.RowKit Go.Lib in
/-- unicode.IsDigit(r) AT EVERY int32, over whatever table the variable unicode.Digit leads to. (LAID: no walk: one application.) -/
theorem Tryd.unicode_IsDigit_any (T : RTab) (r : Int) (w : World) (hlo : -2147483648 ≤ r) (hhi : r ≤ 2147483647) (hV : RVar 2 T w) (hok : RTabOk T) :
    Calls Tryd.prog 33 #[.int .i32 r] w fun e w' => e = .returned (.bool (if r ≤ 255 then isDigitL r else exclGo T r)) ∧ Below w.heap.size w w' := Any.unicode_IsDigit_any Tryd.lays198 T r w hlo hhi hV hok
open Go.RowKit Go.Lib in
/-- unicode.IsLetter(r) AT EVERY int32, the tables as their initialisers lay them: 'Lib.isLetterU r'. (LAID: no walk: one application.) -/
theorem Tryd.unicode_IsLetter_all (r : Int) (w : World) (hlo : -2147483648 ≤ r) (hhi : r ≤ 2147483647) (htab : Lib.TabIs Tryd.prog w "unicode.properties" .u8 Lib.propertiesTab) (hV : RVar 1 letterT w) :
    Calls Tryd.prog 32 #[.int .i32 r] w fun e w' => e = .returned (.bool (isLetterU r)) ∧ Below w.heap.size w w' := Any.unicode_IsLetter_all Tryd.lays200 (by kernel_rfl) r w hlo hhi htab hV
open Go.RowKit Go.Lib in
/-- unicode.IsDigit(r) AT EVERY int32: 'Lib.isDigitU r'. (LAID: no walk: one application.) -/
theorem Tryd.unicode_IsDigit_all (r : Int) (w : World) (hlo : -2147483648 ≤ r) (hhi : r ≤ 2147483647) (hV : RVar 2 digitT w) :
    Calls Tryd.prog 33 #[.int .i32 r] w fun e w' => e = .returned (.bool (isDigitU r)) ∧ Below w.heap.size w w' := Any.unicode_IsDigit_all Tryd.lays198 r w hlo hhi hV
open Go.RowKit Go.Lib in
/-- **strings.Map(mapping, s) AT EVERY STRING, AT WHATEVER FUNCTION VALUE: IT MAY DROP RUNES (a negative result); IT MAY GROW THE HEAP.** (LAID: no walk: one application.) -/
theorem Tryd.strings_Map_grows (g : Nat) (lb : Array Value) (eg : ∀ args w, (callFunc g args).run Tryd.prog w = .ok (.enter g args) w) (f : Int → Int) (s : ByteArray) (w : World) (hs : s.size < 35184372088832) (hf : MapGrows Tryd.prog g lb f w) (hnn : ∀ x : Nat, x ≤ 1114111 → -2147483648 ≤ f x ∧ f x ≤ 2147483647) (hT : Lib.Utf8Tabs 4 5 w) :
    Calls Tryd.prog 30 #[.func (.func g) #[] lb, .string s] w fun e w' => e = .returned (.string ⟨(Lib.mapD f s.data.toList).toArray⟩) ∧ Below w.heap.size w w' := Any.strings_Map_grows Tryd.lays230 Tryd.Builder_Extra_230 g lb eg f s w hs hf hnn hT
end Go.Proofs
