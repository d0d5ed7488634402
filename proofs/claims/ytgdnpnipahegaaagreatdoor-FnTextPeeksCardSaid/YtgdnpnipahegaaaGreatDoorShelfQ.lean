/-
  DERIVED: THE SHELF's CONTRACTS AT THIS DUMP, IN PLAIN WORDS (tools/lay-plain.mjs out of 'TryzShelfQ.lean', which tools/lay-shelf.mjs wrote): THE SAME DECLARATIONS UNDER THE SAME NAMES: 'import', 'namespace', 'open', 'def', 'theorem' AND NOTHING ELSE: no command of the shelf's: FOR A HAND-IN. Each laying: the table of numbers ('.._ren') and one theorem, a field a fact of the dump's own or the kernel's comparison; each contract: ONE APPLICATION.
-/
import Derived.Shelf.Strings.Builder1
import Derived.Shelf.Strings.Builder2
import Derived.Shelf.Strings.OnBuilder
import Derived.Shelf.Strconv.Itoa0
import Derived.Shelf.Strconv.ParseIntEmpty
import Derived.Shelf.LaysM
import Derived.Shelf.Strconv.Clone
import Derived.Shelf.Strconv.SyntaxError
import Derived.Shelf.LaysC
import Derived.Shelf.Strconv.ToError
import Derived.Shelf.Strconv.Lower
import Derived.Shelf.Strconv.ParseUint10
import Derived.Shelf.Strconv.ParseUint10Empty
import Derived.Shelf.Strconv.ParseUint10Any
import Derived.Shelf.Strconv.ParseInt10
import Derived.Shelf.Strconv.RangeError
import Derived.Shelf.Strconv.ToErrorRange
import Derived.Shelf.Strconv.ParseUintEmpty
import Derived.Shelf.Strconv.ParseUint10b64
import Derived.Shelf.Strconv.ParseUint10b32
import Derived.Shelf.Strconv.ParseUint10b16
import Derived.Shelf.Strconv.ParseUint10b8
import Derived.Shelf.Strconv.ParseUint10At
import Derived.Shelf.Strconv.ParseInt10At64
import Derived.Shelf.Strconv.ParseInt10At32
import Derived.Shelf.Strconv.ParseInt10At16
import Derived.Shelf.Strconv.ParseInt10At8
import Derived.Shelf.Strconv.ParseInt10All
import Derived.Shelf.Strconv.ParseIntPublic10
import Derived.Shelf.Strconv.ErrVarParseInt
import Derived.Shelf.Bytes.SlIndexAt
import Derived.Shelf.Bytes.SlSearch0
import Derived.Shelf.Bytes.IndexByte
import Derived.Test.YtgdnpnipahegaaaGreatDoorProg
namespace Go.Proofs
open Go.Shelf
def Tryz.lays156_ren : Go.Shelf.Ren := ⟨fun | 156 => 73 | 165 => 87 | 166 => 88 | 169 => 89 | 240 => 101 | 241 => 102 | 276 => 106 | 277 => 107 | n => n, fun | 31 => 60 | 9 => 9 | 3 => 3 | 4 => 4 | 0 => 0 | 20 => 20 | 72 => 115 | 76 => 116 | 70 => 113 | 37 => 22 | 75 => 52 | 127 => 137 | 164 => 142 | 5 => 5 | 80 => 63 | n => n, fun | n => n⟩
theorem Tryz.lays156 : Go.Proofs.Lays.n156 Tryz.prog Tryz.lays156_ren := {
  mixed := by kernel_rfl
  f156 := Tryz.func73.trans (congrArg some (by kernel_rfl))
  f165 := Tryz.func87.trans (congrArg some (by kernel_rfl))
  f166 := Tryz.func88.trans (congrArg some (by kernel_rfl))
  f169 := Tryz.func89.trans (congrArg some (by kernel_rfl))
  f240 := Tryz.func101.trans (congrArg some (by kernel_rfl))
  f241 := Tryz.func102.trans (congrArg some (by kernel_rfl))
  f276 := Tryz.func106.trans (congrArg some (by kernel_rfl))
  f277 := Tryz.func107.trans (congrArg some (by kernel_rfl))
  t0 := Tryz.underlying0
  a0 := Tryz.isAgg0
  z0 := Tryz.sizeOf0
  v0 := Tryz.zeroValue0
  t3 := Tryz.underlying3
  a3 := Tryz.isAgg3
  z3 := Tryz.sizeOf3
  v3 := Tryz.zeroValue3
  t4 := Tryz.underlying4
  a4 := Tryz.isAgg4
  z4 := Tryz.sizeOf4
  v4 := Tryz.zeroValue4
  t9 := Tryz.underlying9
  a9 := Tryz.isAgg9
  z9 := Tryz.sizeOf9
  v9 := Tryz.zeroValue9
  t20 := Tryz.underlying20
  a20 := Tryz.isAgg20
  z20 := Tryz.sizeOf20
  v20 := Tryz.zeroValue20
  t31 := Tryz.underlying60
  a31 := Tryz.isAgg60
  z31 := Tryz.sizeOf60
  v31 := Tryz.zeroValue60
  t37 := Tryz.underlying22
  a37 := Tryz.isAgg22
  z37 := Tryz.sizeOf22
  v37 := Tryz.zeroValue22
  t70 := Tryz.underlying113
  a70 := Tryz.isAgg113
  z70 := Tryz.sizeOf113
  v70 := Tryz.zeroValue113
  t72 := Tryz.underlying115
  a72 := Tryz.isAgg115
  z72 := Tryz.sizeOf115
  v72 := Tryz.zeroValue115
  t75 := Tryz.underlying52
  a75 := Tryz.isAgg52
  z75 := Tryz.sizeOf52
  v75 := Tryz.zeroValue52
  t76 := Tryz.underlying116
  a76 := Tryz.isAgg116
  z76 := Tryz.sizeOf116
  v76 := Tryz.zeroValue116
  t127 := Tryz.underlying137
  a127 := Tryz.isAgg137
  z127 := Tryz.sizeOf137
  v127 := Tryz.zeroValue137
  t164 := Tryz.underlying142
  a164 := Tryz.isAgg142
  z164 := Tryz.sizeOf142
  v164 := Tryz.zeroValue142 }
def Tryz.laysC174_ren : Go.Shelf.Ren := ⟨fun | 174 => 55 | 247 => 69 | 245 => 70 | 287 => 76 | 279 => 77 | 280 => 78 | 281 => 79 | 282 => 80 | 321 => 90 | 322 => 91 | 316 => 92 | 171 => 94 | 205 => 93 | 243 => 103 | 246 => 108 | 283 => 109 | 284 => 110 | 285 => 111 | 286 => 112 | 129 => 114 | 317 => 113 | 318 => 115 | 319 => 116 | 320 => 117 | 337 => 118 | 338 => 119 | n => n, fun | 9 => 9 | 3 => 3 | 2 => 2 | 75 => 52 | 85 => 83 | 4 => 4 | 167 => 101 | 5 => 5 | 53 => 102 | 175 => 103 | 46 => 105 | 168 => 106 | 37 => 22 | 0 => 0 | 210 => 122 | 21 => 21 | 127 => 137 | 145 => 140 | 143 => 138 | 171 => 146 | 173 => 149 | 212 => 152 | 51 => 153 | 20 => 20 | 213 => 154 | 232 => 158 | 233 => 159 | 80 => 63 | n => n, fun | 15 => 2 | 16 => 3 | 17 => 6 | 18 => 7 | 19 => 8 | n => n⟩
theorem Tryz.laysC174 : Go.Proofs.LaysC.n174 Tryz.prog Tryz.laysC174_ren := {
  mixed := by kernel_rfl
  f129 := Tryz.func114.trans (congrArg some (by kernel_rfl))
  f171 := Tryz.func94.trans (congrArg some (by kernel_rfl))
  f174 := Tryz.func55.trans (congrArg some (by kernel_rfl))
  f205 := Tryz.func93.trans (congrArg some (by kernel_rfl))
  f243 := Tryz.func103.trans (congrArg some (by kernel_rfl))
  f245 := Tryz.func70.trans (congrArg some (by kernel_rfl))
  f246 := Tryz.func108.trans (congrArg some (by kernel_rfl))
  f247 := Tryz.func69.trans (congrArg some (by kernel_rfl))
  f279 := Tryz.func77.trans (congrArg some (by kernel_rfl))
  f280 := Tryz.func78.trans (congrArg some (by kernel_rfl))
  f281 := Tryz.func79.trans (congrArg some (by kernel_rfl))
  f282 := Tryz.func80.trans (congrArg some (by kernel_rfl))
  f283 := Tryz.func109.trans (congrArg some (by kernel_rfl))
  f284 := Tryz.func110.trans (congrArg some (by kernel_rfl))
  f285 := Tryz.func111.trans (congrArg some (by kernel_rfl))
  f286 := Tryz.func112.trans (congrArg some (by kernel_rfl))
  f287 := Tryz.func76.trans (congrArg some (by kernel_rfl))
  f316 := Tryz.func92.trans (congrArg some (by kernel_rfl))
  f317 := Tryz.func113.trans (congrArg some (by kernel_rfl))
  f318 := Tryz.func115.trans (congrArg some (by kernel_rfl))
  f319 := Tryz.func116.trans (congrArg some (by kernel_rfl))
  f320 := Tryz.func117.trans (congrArg some (by kernel_rfl))
  f321 := Tryz.func90.trans (congrArg some (by kernel_rfl))
  f322 := Tryz.func91.trans (congrArg some (by kernel_rfl))
  f337 := Tryz.func118.trans (congrArg some (by kernel_rfl))
  f338 := Tryz.func119.trans (congrArg some (by kernel_rfl))
  t0 := Tryz.underlying0
  a0 := Tryz.isAgg0
  z0 := Tryz.sizeOf0
  v0 := Tryz.zeroValue0
  t2 := Tryz.underlying2
  a2 := Tryz.isAgg2
  z2 := Tryz.sizeOf2
  v2 := Tryz.zeroValue2
  t3 := Tryz.underlying3
  a3 := Tryz.isAgg3
  z3 := Tryz.sizeOf3
  v3 := Tryz.zeroValue3
  t4 := Tryz.underlying4
  a4 := Tryz.isAgg4
  z4 := Tryz.sizeOf4
  v4 := Tryz.zeroValue4
  t5 := Tryz.underlying5
  a5 := Tryz.isAgg5
  z5 := Tryz.sizeOf5
  v5 := Tryz.zeroValue5
  t9 := Tryz.underlying9
  a9 := Tryz.isAgg9
  z9 := Tryz.sizeOf9
  v9 := Tryz.zeroValue9
  t20 := Tryz.underlying20
  a20 := Tryz.isAgg20
  z20 := Tryz.sizeOf20
  v20 := Tryz.zeroValue20
  t21 := Tryz.underlying21
  a21 := Tryz.isAgg21
  z21 := Tryz.sizeOf21
  v21 := Tryz.zeroValue21
  t37 := Tryz.underlying22
  a37 := Tryz.isAgg22
  z37 := Tryz.sizeOf22
  v37 := Tryz.zeroValue22
  t46 := Tryz.underlying105
  a46 := Tryz.isAgg105
  z46 := Tryz.sizeOf105
  v46 := Tryz.zeroValue105
  t51 := Tryz.underlying153
  a51 := Tryz.isAgg153
  z51 := Tryz.sizeOf153
  v51 := Tryz.zeroValue153
  t53 := Tryz.underlying102
  a53 := Tryz.isAgg102
  z53 := Tryz.sizeOf102
  v53 := Tryz.zeroValue102
  t75 := Tryz.underlying52
  a75 := Tryz.isAgg52
  z75 := Tryz.sizeOf52
  v75 := Tryz.zeroValue52
  t85 := Tryz.underlying83
  a85 := Tryz.isAgg83
  z85 := Tryz.sizeOf83
  v85 := Tryz.zeroValue83
  t127 := Tryz.underlying137
  a127 := Tryz.isAgg137
  z127 := Tryz.sizeOf137
  v127 := Tryz.zeroValue137
  t143 := Tryz.underlying138
  a143 := Tryz.isAgg138
  z143 := Tryz.sizeOf138
  v143 := Tryz.zeroValue138
  t145 := Tryz.underlying140
  a145 := Tryz.isAgg140
  z145 := Tryz.sizeOf140
  v145 := Tryz.zeroValue140
  t167 := Tryz.underlying101
  a167 := Tryz.isAgg101
  z167 := Tryz.sizeOf101
  v167 := Tryz.zeroValue101
  t168 := Tryz.underlying106
  a168 := Tryz.isAgg106
  z168 := Tryz.sizeOf106
  v168 := Tryz.zeroValue106
  t171 := Tryz.underlying146
  a171 := Tryz.isAgg146
  z171 := Tryz.sizeOf146
  v171 := Tryz.zeroValue146
  t173 := Tryz.underlying149
  a173 := Tryz.isAgg149
  z173 := Tryz.sizeOf149
  v173 := Tryz.zeroValue149
  t175 := Tryz.underlying103
  a175 := Tryz.isAgg103
  z175 := Tryz.sizeOf103
  v175 := Tryz.zeroValue103
  t210 := Tryz.underlying122
  a210 := Tryz.isAgg122
  z210 := Tryz.sizeOf122
  v210 := Tryz.zeroValue122
  t212 := Tryz.underlying152
  a212 := Tryz.isAgg152
  z212 := Tryz.sizeOf152
  v212 := Tryz.zeroValue152
  t213 := Tryz.underlying154
  a213 := Tryz.isAgg154
  z213 := Tryz.sizeOf154
  t232 := Tryz.underlying158
  a232 := Tryz.isAgg158
  z232 := Tryz.sizeOf158
  v232 := Tryz.zeroValue158
  t233 := Tryz.underlying159
  a233 := Tryz.isAgg159
  z233 := Tryz.sizeOf159
  v233 := Tryz.zeroValue159
  g15 := by kernel_rfl
  g16 := by kernel_rfl
  g17 := by kernel_rfl
  g18 := by kernel_rfl
  g19 := by kernel_rfl
  t80 := Tryz.underlying63
  a80 := Tryz.isAgg63
  z80 := Tryz.sizeOf63
  v80 := Tryz.zeroValue63
  i0 := by kernel_rfl
  i2 := by kernel_rfl
  i3 := by kernel_rfl
  i4 := by kernel_rfl
  i5 := by kernel_rfl
  i9 := by kernel_rfl
  i20 := by kernel_rfl
  i21 := by kernel_rfl
  i37 := by kernel_rfl
  i46 := by kernel_rfl
  i51 := by kernel_rfl
  i53 := by kernel_rfl
  i75 := by kernel_rfl
  i80 := by kernel_rfl
  i85 := by kernel_rfl
  i127 := by kernel_rfl
  i143 := by kernel_rfl
  i145 := by kernel_rfl
  i167 := by kernel_rfl
  i168 := by kernel_rfl
  i171 := by kernel_rfl
  i173 := by kernel_rfl
  i175 := by kernel_rfl
  i210 := by kernel_rfl
  i212 := by kernel_rfl
  i232 := by kernel_rfl
  i233 := by kernel_rfl
  m15 := by kernel_rfl
  m16 := by kernel_rfl
  m17 := by kernel_rfl
  m18 := by kernel_rfl
  m19 := by kernel_rfl
  c0 := by kernel_rfl
  c2 := by kernel_rfl
  c3 := by kernel_rfl
  c4 := by kernel_rfl
  c5 := by kernel_rfl
  c9 := by kernel_rfl
  c20 := by kernel_rfl
  c21 := by kernel_rfl
  c37 := by kernel_rfl
  c46 := by kernel_rfl
  c51 := by kernel_rfl
  c53 := by kernel_rfl
  c75 := by kernel_rfl
  c80 := by kernel_rfl
  c85 := by kernel_rfl
  c127 := by kernel_rfl
  c143 := by kernel_rfl
  c145 := by kernel_rfl
  c167 := by kernel_rfl
  c168 := by kernel_rfl
  c171 := by kernel_rfl
  c173 := by kernel_rfl
  c175 := by kernel_rfl
  c210 := by kernel_rfl
  c212 := by kernel_rfl
  c213 := by kernel_rfl
  c232 := by kernel_rfl
  c233 := by kernel_rfl }
theorem Tryz.Builder_Extra_156 : Builder.Extra Tryz.prog Tryz.lays156_ren := {
  sizeBuilder := by kernel_rfl
  liesBuilder := by kernel_rfl
  t5 := Tryz.underlying5
  a5 := Tryz.isAgg5
  z5 := Tryz.sizeOf5
  v5 := Tryz.zeroValue5
  infoByte := by kernel_rfl
  cellsByte := by kernel_rfl
  sizeByte := by kernel_rfl
  neB5 := by decide }
open Go.RowKit in
/-- No element: the empty string; the world is as it was. (Whatever the slice's address and capacity: a nil slice too.) (LAID: no walk: one application.) -/
theorem Tryz.strings_Join_none (a : Option Addr) (c : Nat) (sep : ByteArray) (w : World) :
    Calls Tryz.prog 73 #[.slice a 0 c, .string sep] w fun e w' => e = .returned (.string ⟨#[]⟩) ∧ w' = w := Any.strings_Join_none Tryz.lays156 Tryz.Builder_Extra_156 a c sep w
open Go.RowKit in
/-- strings.Join: "Join concatenates the elements of its first argument to create a single string. The separator string sep is placed between elements in the resulting string.": HOWEVER MANY ELEMENTS. Below the heap's end the world is as it was. (LAID: no walk: one application.) -/
theorem Tryz.strings_Join (bk o c : Nat) (xs : List ByteArray) (sep : ByteArray) (w : World) (hcells : ∀ (j : Nat) x, xs[j]? = some x → w.cell? ⟨bk, o + j, none⟩ = some (.string x)) (hbk : bk < w.heap.size) (hN : xs.length ≤ 140737488355328) (hcap : xs.length ≤ c) (hlen : (Lib.join (xs.map (·.data.toList)) sep.data.toList).length ≤ 140737488355328) :
    Calls Tryz.prog 73 #[.slice (some ⟨bk, o, none⟩) xs.length c, .string sep] w fun e w' => e = .returned (.string ⟨(Lib.join (xs.map (·.data.toList)) sep.data.toList).toArray⟩) ∧ Below w.heap.size w w' := Any.strings_Join Tryz.lays156 Tryz.Builder_Extra_156 bk o c xs sep w hcells hbk hN hcap hlen
open Go.RowKit in
/-- strconv.ParseInt(s, 10, 32), AT EVERY STRING THAT SPELLS AN int32 ('Lib.parseIntB 32 s.data.toList = .ok v'): v, AND NO ERROR. (LAID: no walk: one application.) -/
theorem Tryz.strconv_ParseInt_10_at32_ok (s : ByteArray) (hmax : s.size ≤ 9223372036854775806) (v : Int) (h : Lib.parseIntB 32 s.data.toList = .ok v) (w : World) :
    Calls Tryz.prog 55 #[.string s, .int .i64 10, .int .i64 32] w fun e w' => e = .returned (.tuple #[.int .i64 v, .nilIface]) ∧ (w' = w ∨ ∃ t, w' = Lib.bytesWorld w 5 t) := Any.strconv_ParseInt_10_at32_ok Tryz.laysC174 s hmax v h w
open Go.RowKit in
/-- strconv.ParseInt(s, 10, 32), AT EVERY NUMERAL THAT NO int32 HOLDS: THE GREATEST OR THE LEAST int32, BY THE SIGN ('Lib.intSat 32'), AND AN ERROR THAT IS NOT nil: a *NumError in a new block N: {Func: "ParseInt", Num: s's bytes, Err: what the variable ErrRange holds}. Of what was there nothing has turned. (LAID: no walk: one application.) -/
theorem Tryz.strconv_ParseInt_10_at32_range (s : ByteArray) (hlim : s.size ≤ 281474976710656) (h : Lib.parseIntB 32 s.data.toList = .range) (ev : Value) (w : World) (hv : w.cell? ⟨3, 0, none⟩ = some ev) (hev : ev = .nilIface ∨ ∃ te pe, ev = .iface te pe) :
    Calls Tryz.prog 55 #[.string s, .int .i64 10, .int .i64 32] w fun e w' => ∃ N, e = .returned (.tuple #[.int .i64 (Lib.intSat 32 s.data.toList), .iface 106 (.pointer (some ⟨N, 0, none⟩))]) ∧ w.heap.size ≤ N ∧ w'.heap[N]? = some (.cells #[.string ⟨#[80, 97, 114, 115, 101, 73, 110, 116]⟩, .string s, ev] 122 (0, 0)) ∧ Below w.heap.size w w' := Any.strconv_ParseInt_10_at32_range Tryz.laysC174 s hlim h ev w hv hev
open Go.RowKit in
theorem Tryz.strconv_ParseInt_10_at32_range_var (s : ByteArray) (hlim : s.size ≤ 281474976710656) (h : Lib.parseIntB 32 s.data.toList = .range) (tp : TypeId) (p : Value) (w : World) (hvar : w.var? Tryz.prog "strconv.ErrRange" = some #[.iface tp p]) :
    Calls Tryz.prog 55 #[.string s, .int .i64 10, .int .i64 32] w fun e w' => ∃ N, e = .returned (.tuple #[.int .i64 (Lib.intSat 32 s.data.toList), .iface 106 (.pointer (some ⟨N, 0, none⟩))]) ∧ w.heap.size ≤ N ∧ w'.heap[N]? = some (.cells #[.string ⟨#[80, 97, 114, 115, 101, 73, 110, 116]⟩, .string s, .iface tp p] 122 (0, 0)) ∧ Below w.heap.size w w' := Any.strconv_ParseInt_10_at32_range_var Tryz.laysC174 s hlim h tp p w hvar
end Go.Proofs
