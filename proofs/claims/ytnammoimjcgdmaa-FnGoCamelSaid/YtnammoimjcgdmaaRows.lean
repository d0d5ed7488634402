/-
  No cell of these rows narrows 'for every input' (looked for: loops, veiled, ifaces, maps, wideKeys, modest, calm, conditions, laid).
  DERIVED. THE GIVEN ROWS OF THIS SEAT. 7 by the template 'for every input the law returns true; each argument reads behind the call as it read before'; 0 by the template 'total and deterministic' (their statements: YtnammoimjcgdmaaTotals.lean).
  GIVEN WITH THE SEED: the statements are not yours to turn. If you find one false, say at which input.
  Laid BY PROGRAM, IN A SANDBOX (cutbox-rows.mjs): the forced cells as the released guide's own fill.sh prints them over the translation c1983228d5066026… (all of the seat's roots in one cut). By AI agents, Wed Nov 11 2026. No macro, syntax, notation, axiom, sorry.
-/
import Derived.Test.YtnammoimjcgdmaaChecked
import GoSem.Claim
import GoSem.ClaimJoined
import GoSem.ClaimMapViews
import Derived.JoinedTies
import Derived.KernelRfl
namespace Go.Proofs.Ytnammoimjcgdmaa
/- THE CELL 'sum', in the pinned program and in every row, IS THE sha256 OF THE DUMP (.gsa) THAT YtnammoimjcgdmaaProg.lean LOADS. Nothing in Lean hashes anything: it is a label: what it is worth is what the hold of that sum in a sandbox is worth. -/
noncomputable def Try.pinned : Pinned := { name := "ytnammoimjcgdmaa", sum := "c1983228d5066026bcd6a110df42bf5284c7fe11887abcc0ff9e417f20e4cd57", checked := Try.checked }
namespace Rows
def none {H : Type} : Left H := { results := [], args := [] }

/-- 'laws.FnFullName': WHATEVER THE INPUT: true; the input reads as it did. -/
def fnFullNameSpec : ChangeSpec := { name := "fnFullName", fn := fun _ => fun
  | [d1, d2] => { results := [.lit (.bool true)], args := [d1, d2] }
  | _ => none }
def fnFullNameRow : OpenClaim := { program := "ytnammoimjcgdmaa", sum := "c1983228d5066026bcd6a110df42bf5284c7fe11887abcc0ff9e417f20e4cd57", func := "pub-codicil/laws.FnFullName", spec := "fnFullName", apart := false }
def FnFullNameSaid : Prop := fnFullNameRow.holds Try.pinned (OpenSpec.ofChange fnFullNameSpec)

/-- ITS FALSE NEIGHBOUR: 'it returns false'. Refute it at one input. -/
def fnFullNameWrong : ChangeSpec := { name := "fnFullName", fn := fun _ => fun
  | [d1, d2] => { results := [.lit (.bool false)], args := [d1, d2] }
  | _ => none }
def FnFullNameWrongFalsely : Prop := fnFullNameRow.holds Try.pinned (OpenSpec.ofChange fnFullNameWrong)

/-- 'laws.FnJsonSnake': WHATEVER THE INPUT: true; the input reads as it did. -/
def fnJsonSnakeSpec : ChangeSpec := { name := "fnJsonSnake", fn := fun _ => fun
  | [d] => { results := [.lit (.bool true)], args := [d] }
  | _ => none }
def fnJsonSnakeRow : OpenClaim := { program := "ytnammoimjcgdmaa", sum := "c1983228d5066026bcd6a110df42bf5284c7fe11887abcc0ff9e417f20e4cd57", func := "pub-codicil/laws.FnJsonSnake", spec := "fnJsonSnake", apart := false }
def FnJsonSnakeSaid : Prop := fnJsonSnakeRow.holds Try.pinned (OpenSpec.ofChange fnJsonSnakeSpec)

/-- ITS FALSE NEIGHBOUR: 'it returns false'. Refute it at one input. -/
def fnJsonSnakeWrong : ChangeSpec := { name := "fnJsonSnake", fn := fun _ => fun
  | [d] => { results := [.lit (.bool false)], args := [d] }
  | _ => none }
def FnJsonSnakeWrongFalsely : Prop := fnJsonSnakeRow.holds Try.pinned (OpenSpec.ofChange fnJsonSnakeWrong)

/-- 'laws.FnJsonCamel': WHATEVER THE INPUT: true; the input reads as it did. -/
def fnJsonCamelSpec : ChangeSpec := { name := "fnJsonCamel", fn := fun _ => fun
  | [d] => { results := [.lit (.bool true)], args := [d] }
  | _ => none }
def fnJsonCamelRow : OpenClaim := { program := "ytnammoimjcgdmaa", sum := "c1983228d5066026bcd6a110df42bf5284c7fe11887abcc0ff9e417f20e4cd57", func := "pub-codicil/laws.FnJsonCamel", spec := "fnJsonCamel", unfollowed := true, recurses := true, apart := false }
def FnJsonCamelSaid : Prop := fnJsonCamelRow.holds Try.pinned (OpenSpec.ofChange fnJsonCamelSpec)

/-- ITS FALSE NEIGHBOUR: 'it returns false'. Refute it at one input. -/
def fnJsonCamelWrong : ChangeSpec := { name := "fnJsonCamel", fn := fun _ => fun
  | [d] => { results := [.lit (.bool false)], args := [d] }
  | _ => none }
def FnJsonCamelWrongFalsely : Prop := fnJsonCamelRow.holds Try.pinned (OpenSpec.ofChange fnJsonCamelWrong)

/-- 'laws.FnNameParts': WHATEVER THE INPUT: true; the input reads as it did. -/
def fnNamePartsSpec : ChangeSpec := { name := "fnNameParts", fn := fun _ => fun
  | [d] => { results := [.lit (.bool true)], args := [d] }
  | _ => none }
def fnNamePartsRow : OpenClaim := { program := "ytnammoimjcgdmaa", sum := "c1983228d5066026bcd6a110df42bf5284c7fe11887abcc0ff9e417f20e4cd57", func := "pub-codicil/laws.FnNameParts", spec := "fnNameParts", apart := false }
def FnNamePartsSaid : Prop := fnNamePartsRow.holds Try.pinned (OpenSpec.ofChange fnNamePartsSpec)

/-- ITS FALSE NEIGHBOUR: 'it returns false'. Refute it at one input. -/
def fnNamePartsWrong : ChangeSpec := { name := "fnNameParts", fn := fun _ => fun
  | [d] => { results := [.lit (.bool false)], args := [d] }
  | _ => none }
def FnNamePartsWrongFalsely : Prop := fnNamePartsRow.holds Try.pinned (OpenSpec.ofChange fnNamePartsWrong)

/-- 'laws.FnNamesBack': WHATEVER THE INPUT: true; the input reads as it did. -/
def fnNamesBackSpec : ChangeSpec := { name := "fnNamesBack", fn := fun _ => fun
  | [d] => { results := [.lit (.bool true)], args := [d] }
  | _ => none }
def fnNamesBackRow : OpenClaim := { program := "ytnammoimjcgdmaa", sum := "c1983228d5066026bcd6a110df42bf5284c7fe11887abcc0ff9e417f20e4cd57", func := "pub-codicil/laws.FnNamesBack", spec := "fnNamesBack", apart := false }
def FnNamesBackSaid : Prop := fnNamesBackRow.holds Try.pinned (OpenSpec.ofChange fnNamesBackSpec)

/-- ITS FALSE NEIGHBOUR: 'it returns false'. Refute it at one input. -/
def fnNamesBackWrong : ChangeSpec := { name := "fnNamesBack", fn := fun _ => fun
  | [d] => { results := [.lit (.bool false)], args := [d] }
  | _ => none }
def FnNamesBackWrongFalsely : Prop := fnNamesBackRow.holds Try.pinned (OpenSpec.ofChange fnNamesBackWrong)

/-- 'laws.FnNameValid': WHATEVER THE INPUT: true; the input reads as it did. -/
def fnNameValidSpec : ChangeSpec := { name := "fnNameValid", fn := fun _ => fun
  | [d] => { results := [.lit (.bool true)], args := [d] }
  | _ => none }
def fnNameValidRow : OpenClaim := { program := "ytnammoimjcgdmaa", sum := "c1983228d5066026bcd6a110df42bf5284c7fe11887abcc0ff9e417f20e4cd57", func := "pub-codicil/laws.FnNameValid", spec := "fnNameValid", apart := false }
def FnNameValidSaid : Prop := fnNameValidRow.holds Try.pinned (OpenSpec.ofChange fnNameValidSpec)

/-- ITS FALSE NEIGHBOUR: 'it returns false'. Refute it at one input. -/
def fnNameValidWrong : ChangeSpec := { name := "fnNameValid", fn := fun _ => fun
  | [d] => { results := [.lit (.bool false)], args := [d] }
  | _ => none }
def FnNameValidWrongFalsely : Prop := fnNameValidRow.holds Try.pinned (OpenSpec.ofChange fnNameValidWrong)

/-- 'laws.FnGoCamel': WHATEVER THE INPUT: true; the input reads as it did. -/
def fnGoCamelSpec : ChangeSpec := { name := "fnGoCamel", fn := fun _ => fun
  | [d] => { results := [.lit (.bool true)], args := [d] }
  | _ => none }
def fnGoCamelRow : OpenClaim := { program := "ytnammoimjcgdmaa", sum := "c1983228d5066026bcd6a110df42bf5284c7fe11887abcc0ff9e417f20e4cd57", func := "pub-codicil/laws.FnGoCamel", spec := "fnGoCamel", apart := false }
def FnGoCamelSaid : Prop := fnGoCamelRow.holds Try.pinned (OpenSpec.ofChange fnGoCamelSpec)

/-- ITS FALSE NEIGHBOUR: 'it returns false'. Refute it at one input. -/
def fnGoCamelWrong : ChangeSpec := { name := "fnGoCamel", fn := fun _ => fun
  | [d] => { results := [.lit (.bool false)], args := [d] }
  | _ => none }
def FnGoCamelWrongFalsely : Prop := fnGoCamelRow.holds Try.pinned (OpenSpec.ofChange fnGoCamelWrong)

/- THE SECOND FORM. 'bulk': how many values and letters a reading holds, each counted each time it is reached (what is shared counts as often as it is met; a slice's spare places count too). A statement '..UptoSaid' is the law's where the arguments, and the package variables that the reading takes, are together of bulk at most 1048576: NARROWER than '..Said'. Prove '..Said' where nothing that the law and all that it calls make is longer than what came in: it says more and counts as full. Else prove '..UptoSaid'. A law counts once. -/
mutual
def uptoBulk {H : Type} : DataW H → Nat
  | .lit (.string bytes) => bytes.length + 1
  | .lit _ => 1
  | .nil => 1
  | .ptr d => uptoBulk d + 1
  | .slice elems spare => uptoBulkAll elems + uptoBulkAll spare + 1
  | .agg parts => uptoBulkAll parts + 1
  | .iface _ d => uptoBulk d + 1
  | .map entries => uptoBulkEntries entries + 1
  | .held _ => 1
def uptoBulkAll {H : Type} : List (DataW H) → Nat
  | [] => 0
  | d :: r => uptoBulk d + uptoBulkAll r
def uptoBulkEntries {H : Type} : List (Lit × DataW H) → Nat
  | [] => 0
  | x :: r => uptoBulkEntry x + uptoBulkEntries r
def uptoBulkEntry {H : Type} : Lit × DataW H → Nat
  | (.string bytes, d) => bytes.length + uptoBulk d + 1
  | (_, d) => uptoBulk d + 1
 end
def uptoSmall : (H : Type) → List (DataW H) → Bool := fun _ ds => decide (uptoBulkAll ds ≤ 1048576)
def OpenSpec.upto (s : _root_.Go.ChangeSpec) : _root_.Go.OpenSpec := { _root_.Go.OpenSpec.ofChange s with cond := some uptoSmall }

/-- 'laws.FnFullName', WHERE WHAT IT READS IS OF BULK AT MOST 1048576: true; the input reads as it did. -/
def fnFullNameUptoRow : OpenClaim := { program := "ytnammoimjcgdmaa", sum := "c1983228d5066026bcd6a110df42bf5284c7fe11887abcc0ff9e417f20e4cd57", func := "pub-codicil/laws.FnFullName", spec := "fnFullName", apart := false, narrowed := true }
def FnFullNameUptoSaid : Prop := fnFullNameUptoRow.holds Try.pinned (OpenSpec.upto fnFullNameSpec)

/-- 'laws.FnJsonSnake', WHERE WHAT IT READS IS OF BULK AT MOST 1048576: true; the input reads as it did. -/
def fnJsonSnakeUptoRow : OpenClaim := { program := "ytnammoimjcgdmaa", sum := "c1983228d5066026bcd6a110df42bf5284c7fe11887abcc0ff9e417f20e4cd57", func := "pub-codicil/laws.FnJsonSnake", spec := "fnJsonSnake", apart := false, narrowed := true }
def FnJsonSnakeUptoSaid : Prop := fnJsonSnakeUptoRow.holds Try.pinned (OpenSpec.upto fnJsonSnakeSpec)

/-- 'laws.FnJsonCamel', WHERE WHAT IT READS IS OF BULK AT MOST 1048576: true; the input reads as it did. -/
def fnJsonCamelUptoRow : OpenClaim := { program := "ytnammoimjcgdmaa", sum := "c1983228d5066026bcd6a110df42bf5284c7fe11887abcc0ff9e417f20e4cd57", func := "pub-codicil/laws.FnJsonCamel", spec := "fnJsonCamel", unfollowed := true, recurses := true, apart := false, narrowed := true }
def FnJsonCamelUptoSaid : Prop := fnJsonCamelUptoRow.holds Try.pinned (OpenSpec.upto fnJsonCamelSpec)

/-- 'laws.FnNameParts', WHERE WHAT IT READS IS OF BULK AT MOST 1048576: true; the input reads as it did. -/
def fnNamePartsUptoRow : OpenClaim := { program := "ytnammoimjcgdmaa", sum := "c1983228d5066026bcd6a110df42bf5284c7fe11887abcc0ff9e417f20e4cd57", func := "pub-codicil/laws.FnNameParts", spec := "fnNameParts", apart := false, narrowed := true }
def FnNamePartsUptoSaid : Prop := fnNamePartsUptoRow.holds Try.pinned (OpenSpec.upto fnNamePartsSpec)

/-- 'laws.FnNamesBack', WHERE WHAT IT READS IS OF BULK AT MOST 1048576: true; the input reads as it did. -/
def fnNamesBackUptoRow : OpenClaim := { program := "ytnammoimjcgdmaa", sum := "c1983228d5066026bcd6a110df42bf5284c7fe11887abcc0ff9e417f20e4cd57", func := "pub-codicil/laws.FnNamesBack", spec := "fnNamesBack", apart := false, narrowed := true }
def FnNamesBackUptoSaid : Prop := fnNamesBackUptoRow.holds Try.pinned (OpenSpec.upto fnNamesBackSpec)

/-- 'laws.FnNameValid', WHERE WHAT IT READS IS OF BULK AT MOST 1048576: true; the input reads as it did. -/
def fnNameValidUptoRow : OpenClaim := { program := "ytnammoimjcgdmaa", sum := "c1983228d5066026bcd6a110df42bf5284c7fe11887abcc0ff9e417f20e4cd57", func := "pub-codicil/laws.FnNameValid", spec := "fnNameValid", apart := false, narrowed := true }
def FnNameValidUptoSaid : Prop := fnNameValidUptoRow.holds Try.pinned (OpenSpec.upto fnNameValidSpec)

/-- 'laws.FnGoCamel', WHERE WHAT IT READS IS OF BULK AT MOST 1048576: true; the input reads as it did. -/
def fnGoCamelUptoRow : OpenClaim := { program := "ytnammoimjcgdmaa", sum := "c1983228d5066026bcd6a110df42bf5284c7fe11887abcc0ff9e417f20e4cd57", func := "pub-codicil/laws.FnGoCamel", spec := "fnGoCamel", apart := false, narrowed := true }
def FnGoCamelUptoSaid : Prop := fnGoCamelUptoRow.holds Try.pinned (OpenSpec.upto fnGoCamelSpec)

end Rows
end Go.Proofs.Ytnammoimjcgdmaa
