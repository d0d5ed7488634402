/-
  NARROWER THAN 'FOR EVERY INPUT', by the rows' own cells (each row's printed sentence says how): FnMapEntry: laid · FnEnumValue: laid · FnTrimPrefix: laid · FnGoSane: laid.
  DERIVED. THE GIVEN ROWS OF THIS SEAT. 4 by the template 'for every input the law returns true; each argument reads behind the call as it read before'; 0 by the template 'total and deterministic' (their statements: YtnammoimjcgdmaaDoorTotals.lean).
  GIVEN WITH THE SEED: the statements are not yours to turn. If you find one false, say at which input.
  Laid BY PROGRAM, IN A SANDBOX (cutbox-rows.mjs): the forced cells as the released guide's own fill.sh prints them over the translation 536bd38a5a61e198… (all of the seat's roots in one cut). By AI agents, Wed Nov 11 2026. No macro, syntax, notation, axiom, sorry.
-/
import Derived.Test.YtnammoimjcgdmaaDoorChecked
import GoSem.PinnedTables
import GoSem.Claim
import GoSem.ClaimJoined
import GoSem.ClaimMapViews
import Derived.JoinedTies
import Derived.KernelRfl
namespace Go.Proofs.YtnammoimjcgdmaaDoor
/- THE CELL 'sum', in the pinned program and in every row, IS THE sha256 OF THE DUMP (.gsa) THAT YtnammoimjcgdmaaDoorProg.lean LOADS. Nothing in Lean hashes anything: it is a label: what it is worth is what the hold of that sum in a sandbox is worth. -/
noncomputable def Tryd.pinned : Pinned := { name := "ytnammoimjcgdmaadoor", sum := "536bd38a5a61e198c77e6db3fa21f5d669b79ab19026dd892ce2483e50cf7180", checked := Tryd.checked }
namespace Rows
def none {H : Type} : Left H := { results := [], args := [] }

/- WHAT THE LISTED PACKAGE-LEVEL VARIABLES READ AS WHEN THE CALL BEGINS. Each datum BY PROGRAM (the guide's laid-datum.mjs) off the statement by which the dump's own 'gosem.cut.vars' lays the variable. In a bare row this is a premise. The card (YtnammoimjcgdmaaDoorCards.lean) ties it to the program's text. -/
/-- One of Go's own tables, pinned by name: the form's constant. -/
def laid_unicode_CaseRanges : DataW Unit := Go.Pinned.caseRanges
def laid_unicode_utf8_acceptRanges {H : Type} : DataW H := .agg [.agg [.lit (.int .u8 128), .lit (.int .u8 191)], .agg [.lit (.int .u8 160), .lit (.int .u8 191)], .agg [.lit (.int .u8 128), .lit (.int .u8 159)], .agg [.lit (.int .u8 144), .lit (.int .u8 191)], .agg [.lit (.int .u8 128), .lit (.int .u8 143)], .agg [.lit (.int .u8 0), .lit (.int .u8 0)], .agg [.lit (.int .u8 0), .lit (.int .u8 0)], .agg [.lit (.int .u8 0), .lit (.int .u8 0)], .agg [.lit (.int .u8 0), .lit (.int .u8 0)], .agg [.lit (.int .u8 0), .lit (.int .u8 0)], .agg [.lit (.int .u8 0), .lit (.int .u8 0)], .agg [.lit (.int .u8 0), .lit (.int .u8 0)], .agg [.lit (.int .u8 0), .lit (.int .u8 0)], .agg [.lit (.int .u8 0), .lit (.int .u8 0)], .agg [.lit (.int .u8 0), .lit (.int .u8 0)], .agg [.lit (.int .u8 0), .lit (.int .u8 0)]]
def laid_unicode_properties {H : Type} : DataW H := .agg [.lit (.int .u8 1), .lit (.int .u8 1), .lit (.int .u8 1), .lit (.int .u8 1), .lit (.int .u8 1), .lit (.int .u8 1), .lit (.int .u8 1), .lit (.int .u8 1), .lit (.int .u8 1), .lit (.int .u8 1), .lit (.int .u8 1), .lit (.int .u8 1), .lit (.int .u8 1), .lit (.int .u8 1), .lit (.int .u8 1), .lit (.int .u8 1), .lit (.int .u8 1), .lit (.int .u8 1), .lit (.int .u8 1), .lit (.int .u8 1), .lit (.int .u8 1), .lit (.int .u8 1), .lit (.int .u8 1), .lit (.int .u8 1), .lit (.int .u8 1), .lit (.int .u8 1), .lit (.int .u8 1), .lit (.int .u8 1), .lit (.int .u8 1), .lit (.int .u8 1), .lit (.int .u8 1), .lit (.int .u8 1), .lit (.int .u8 144), .lit (.int .u8 130), .lit (.int .u8 130), .lit (.int .u8 130), .lit (.int .u8 136), .lit (.int .u8 130), .lit (.int .u8 130), .lit (.int .u8 130), .lit (.int .u8 130), .lit (.int .u8 130), .lit (.int .u8 130), .lit (.int .u8 136), .lit (.int .u8 130), .lit (.int .u8 130), .lit (.int .u8 130), .lit (.int .u8 130), .lit (.int .u8 132), .lit (.int .u8 132), .lit (.int .u8 132), .lit (.int .u8 132), .lit (.int .u8 132), .lit (.int .u8 132), .lit (.int .u8 132), .lit (.int .u8 132), .lit (.int .u8 132), .lit (.int .u8 132), .lit (.int .u8 130), .lit (.int .u8 130), .lit (.int .u8 136), .lit (.int .u8 136), .lit (.int .u8 136), .lit (.int .u8 130), .lit (.int .u8 130), .lit (.int .u8 160), .lit (.int .u8 160), .lit (.int .u8 160), .lit (.int .u8 160), .lit (.int .u8 160), .lit (.int .u8 160), .lit (.int .u8 160), .lit (.int .u8 160), .lit (.int .u8 160), .lit (.int .u8 160), .lit (.int .u8 160), .lit (.int .u8 160), .lit (.int .u8 160), .lit (.int .u8 160), .lit (.int .u8 160), .lit (.int .u8 160), .lit (.int .u8 160), .lit (.int .u8 160), .lit (.int .u8 160), .lit (.int .u8 160), .lit (.int .u8 160), .lit (.int .u8 160), .lit (.int .u8 160), .lit (.int .u8 160), .lit (.int .u8 160), .lit (.int .u8 160), .lit (.int .u8 130), .lit (.int .u8 130), .lit (.int .u8 130), .lit (.int .u8 136), .lit (.int .u8 130), .lit (.int .u8 136), .lit (.int .u8 192), .lit (.int .u8 192), .lit (.int .u8 192), .lit (.int .u8 192), .lit (.int .u8 192), .lit (.int .u8 192), .lit (.int .u8 192), .lit (.int .u8 192), .lit (.int .u8 192), .lit (.int .u8 192), .lit (.int .u8 192), .lit (.int .u8 192), .lit (.int .u8 192), .lit (.int .u8 192), .lit (.int .u8 192), .lit (.int .u8 192), .lit (.int .u8 192), .lit (.int .u8 192), .lit (.int .u8 192), .lit (.int .u8 192), .lit (.int .u8 192), .lit (.int .u8 192), .lit (.int .u8 192), .lit (.int .u8 192), .lit (.int .u8 192), .lit (.int .u8 192), .lit (.int .u8 130), .lit (.int .u8 136), .lit (.int .u8 130), .lit (.int .u8 136), .lit (.int .u8 1), .lit (.int .u8 1), .lit (.int .u8 1), .lit (.int .u8 1), .lit (.int .u8 1), .lit (.int .u8 1), .lit (.int .u8 1), .lit (.int .u8 1), .lit (.int .u8 1), .lit (.int .u8 1), .lit (.int .u8 1), .lit (.int .u8 1), .lit (.int .u8 1), .lit (.int .u8 1), .lit (.int .u8 1), .lit (.int .u8 1), .lit (.int .u8 1), .lit (.int .u8 1), .lit (.int .u8 1), .lit (.int .u8 1), .lit (.int .u8 1), .lit (.int .u8 1), .lit (.int .u8 1), .lit (.int .u8 1), .lit (.int .u8 1), .lit (.int .u8 1), .lit (.int .u8 1), .lit (.int .u8 1), .lit (.int .u8 1), .lit (.int .u8 1), .lit (.int .u8 1), .lit (.int .u8 1), .lit (.int .u8 1), .lit (.int .u8 16), .lit (.int .u8 130), .lit (.int .u8 136), .lit (.int .u8 136), .lit (.int .u8 136), .lit (.int .u8 136), .lit (.int .u8 136), .lit (.int .u8 130), .lit (.int .u8 136), .lit (.int .u8 136), .lit (.int .u8 224), .lit (.int .u8 130), .lit (.int .u8 136), .lit (.int .u8 0), .lit (.int .u8 136), .lit (.int .u8 136), .lit (.int .u8 136), .lit (.int .u8 136), .lit (.int .u8 132), .lit (.int .u8 132), .lit (.int .u8 136), .lit (.int .u8 192), .lit (.int .u8 130), .lit (.int .u8 130), .lit (.int .u8 136), .lit (.int .u8 132), .lit (.int .u8 224), .lit (.int .u8 130), .lit (.int .u8 132), .lit (.int .u8 132), .lit (.int .u8 132), .lit (.int .u8 130), .lit (.int .u8 160), .lit (.int .u8 160), .lit (.int .u8 160), .lit (.int .u8 160), .lit (.int .u8 160), .lit (.int .u8 160), .lit (.int .u8 160), .lit (.int .u8 160), .lit (.int .u8 160), .lit (.int .u8 160), .lit (.int .u8 160), .lit (.int .u8 160), .lit (.int .u8 160), .lit (.int .u8 160), .lit (.int .u8 160), .lit (.int .u8 160), .lit (.int .u8 160), .lit (.int .u8 160), .lit (.int .u8 160), .lit (.int .u8 160), .lit (.int .u8 160), .lit (.int .u8 160), .lit (.int .u8 160), .lit (.int .u8 136), .lit (.int .u8 160), .lit (.int .u8 160), .lit (.int .u8 160), .lit (.int .u8 160), .lit (.int .u8 160), .lit (.int .u8 160), .lit (.int .u8 160), .lit (.int .u8 192), .lit (.int .u8 192), .lit (.int .u8 192), .lit (.int .u8 192), .lit (.int .u8 192), .lit (.int .u8 192), .lit (.int .u8 192), .lit (.int .u8 192), .lit (.int .u8 192), .lit (.int .u8 192), .lit (.int .u8 192), .lit (.int .u8 192), .lit (.int .u8 192), .lit (.int .u8 192), .lit (.int .u8 192), .lit (.int .u8 192), .lit (.int .u8 192), .lit (.int .u8 192), .lit (.int .u8 192), .lit (.int .u8 192), .lit (.int .u8 192), .lit (.int .u8 192), .lit (.int .u8 192), .lit (.int .u8 192), .lit (.int .u8 136), .lit (.int .u8 192), .lit (.int .u8 192), .lit (.int .u8 192), .lit (.int .u8 192), .lit (.int .u8 192), .lit (.int .u8 192), .lit (.int .u8 192), .lit (.int .u8 192)]
/-- One of Go's own tables, pinned by name: the form's constant. -/
def laid_unicode_Digit : DataW Unit := Go.Pinned.digit
/-- One of Go's own tables, pinned by name: the form's constant. -/
def laid_unicode_Letter : DataW Unit := Go.Pinned.letter
/-- One of Go's own tables, pinned by name: the form's constant. -/
def laid_unicode_utf8_first : DataW Unit := Go.Pinned.utf8First

/-- 'laws.FnMapEntry': WHATEVER THE INPUT: true; the input reads as it did. -/
def fnMapEntrySpec : ChangeSpec := { name := "fnMapEntry", fn := fun _ => fun
  | [d] => { results := [.lit (.bool true)], args := [d] }
  | _ => none }
def fnMapEntryRow : OpenClaim := { program := "ytnammoimjcgdmaadoor", sum := "536bd38a5a61e198c77e6db3fa21f5d669b79ab19026dd892ce2483e50cf7180", func := "pub-codicil/laws.FnMapEntry", spec := "fnMapEntry", unfollowed := true, recurses := true, named := ["unicode.CaseRanges"], apart := false, laid := [("unicode.CaseRanges", laid_unicode_CaseRanges)] }
def FnMapEntrySaid : Prop := fnMapEntryRow.holds Tryd.pinned (OpenSpec.ofChange fnMapEntrySpec)

/-- ITS FALSE NEIGHBOUR: 'it returns false'. Refute it at one input. -/
def fnMapEntryWrong : ChangeSpec := { name := "fnMapEntry", fn := fun _ => fun
  | [d] => { results := [.lit (.bool false)], args := [d] }
  | _ => none }
def FnMapEntryWrongFalsely : Prop := fnMapEntryRow.holds Tryd.pinned (OpenSpec.ofChange fnMapEntryWrong)

/-- 'laws.FnEnumValue': WHATEVER THE INPUT: true; the input reads as it did. -/
def fnEnumValueSpec : ChangeSpec := { name := "fnEnumValue", fn := fun _ => fun
  | [d] => { results := [.lit (.bool true)], args := [d] }
  | _ => none }
def fnEnumValueRow : OpenClaim := { program := "ytnammoimjcgdmaadoor", sum := "536bd38a5a61e198c77e6db3fa21f5d669b79ab19026dd892ce2483e50cf7180", func := "pub-codicil/laws.FnEnumValue", spec := "fnEnumValue", unfollowed := true, recurses := true, named := ["unicode.CaseRanges"], apart := false, laid := [("unicode.CaseRanges", laid_unicode_CaseRanges)] }
def FnEnumValueSaid : Prop := fnEnumValueRow.holds Tryd.pinned (OpenSpec.ofChange fnEnumValueSpec)

/-- ITS FALSE NEIGHBOUR: 'it returns false'. Refute it at one input. -/
def fnEnumValueWrong : ChangeSpec := { name := "fnEnumValue", fn := fun _ => fun
  | [d] => { results := [.lit (.bool false)], args := [d] }
  | _ => none }
def FnEnumValueWrongFalsely : Prop := fnEnumValueRow.holds Tryd.pinned (OpenSpec.ofChange fnEnumValueWrong)

/-- 'laws.FnTrimPrefix': WHATEVER THE INPUT: true; the input reads as it did. -/
def fnTrimPrefixSpec : ChangeSpec := { name := "fnTrimPrefix", fn := fun _ => fun
  | [d1, d2] => { results := [.lit (.bool true)], args := [d1, d2] }
  | _ => none }
def fnTrimPrefixRow : OpenClaim := { program := "ytnammoimjcgdmaadoor", sum := "536bd38a5a61e198c77e6db3fa21f5d669b79ab19026dd892ce2483e50cf7180", func := "pub-codicil/laws.FnTrimPrefix", spec := "fnTrimPrefix", named := ["unicode.CaseRanges"], apart := false, laid := [("unicode.CaseRanges", laid_unicode_CaseRanges)] }
def FnTrimPrefixSaid : Prop := fnTrimPrefixRow.holds Tryd.pinned (OpenSpec.ofChange fnTrimPrefixSpec)

/-- ITS FALSE NEIGHBOUR: 'it returns false'. Refute it at one input. -/
def fnTrimPrefixWrong : ChangeSpec := { name := "fnTrimPrefix", fn := fun _ => fun
  | [d1, d2] => { results := [.lit (.bool false)], args := [d1, d2] }
  | _ => none }
def FnTrimPrefixWrongFalsely : Prop := fnTrimPrefixRow.holds Tryd.pinned (OpenSpec.ofChange fnTrimPrefixWrong)

/-- 'laws.FnGoSane': WHATEVER THE INPUT: true; the input reads as it did. -/
def fnGoSaneSpec : ChangeSpec := { name := "fnGoSane", fn := fun _ => fun
  | [d] => { results := [.lit (.bool true)], args := [d] }
  | _ => none }
def fnGoSaneRow : OpenClaim := { program := "ytnammoimjcgdmaadoor", sum := "536bd38a5a61e198c77e6db3fa21f5d669b79ab19026dd892ce2483e50cf7180", func := "pub-codicil/laws.FnGoSane", spec := "fnGoSane", inPlace := ["internal/abi.NoEscape", "internal/bytealg.MakeNoZero"], unfollowed := true, recurses := true, named := ["unicode/utf8.first", "unicode/utf8.acceptRanges", "unicode.properties", "unicode.Letter", "unicode.Digit"], apart := false, laid := [("unicode/utf8.acceptRanges", laid_unicode_utf8_acceptRanges), ("unicode.properties", laid_unicode_properties), ("unicode.Digit", laid_unicode_Digit), ("unicode.Letter", laid_unicode_Letter), ("unicode/utf8.first", laid_unicode_utf8_first)] }
def FnGoSaneSaid : Prop := fnGoSaneRow.holds Tryd.pinned (OpenSpec.ofChange fnGoSaneSpec)

/-- ITS FALSE NEIGHBOUR: 'it returns false'. Refute it at one input. -/
def fnGoSaneWrong : ChangeSpec := { name := "fnGoSane", fn := fun _ => fun
  | [d] => { results := [.lit (.bool false)], args := [d] }
  | _ => none }
def FnGoSaneWrongFalsely : Prop := fnGoSaneRow.holds Tryd.pinned (OpenSpec.ofChange fnGoSaneWrong)

/- THE SECOND FORM. 'bulk': how many values and letters a reading holds, each counted each time it is reached (what is shared counts as often as it is met; a slice's spare places count too). A statement '..UptoSaid' is the law's where the arguments, and the package variables that the reading takes, are together of bulk at most 1048576: NARROWER than '..Said'. Prove '..Said' where nothing that the law and all that it calls make is longer than what came in: it says more and counts as full. Else prove '..UptoSaid'. A law counts once. -/
mutual
def uptoBulk {H : Type} : DataW H → Nat
  | .lit (.string bytes) => bytes.length + 1
  | .lit _ => 1
  | .nil => 1
  | .ptr d => uptoBulk d + 1
  | .slice elems spare => uptoBulkAll elems + uptoBulkAll spare + 1
  | .agg parts => uptoBulkAll parts + 1
  | .iface _ d => uptoBulk d + 1
  | .map entries => uptoBulkEntries entries + 1
  | .held _ => 1
def uptoBulkAll {H : Type} : List (DataW H) → Nat
  | [] => 0
  | d :: r => uptoBulk d + uptoBulkAll r
def uptoBulkEntries {H : Type} : List (Lit × DataW H) → Nat
  | [] => 0
  | x :: r => uptoBulkEntry x + uptoBulkEntries r
def uptoBulkEntry {H : Type} : Lit × DataW H → Nat
  | (.string bytes, d) => bytes.length + uptoBulk d + 1
  | (_, d) => uptoBulk d + 1
 end
def uptoSmall : (H : Type) → List (DataW H) → Bool := fun _ ds => decide (uptoBulkAll ds ≤ 1048576)
def OpenSpec.upto (s : _root_.Go.ChangeSpec) : _root_.Go.OpenSpec := { _root_.Go.OpenSpec.ofChange s with cond := some uptoSmall }

/-- 'laws.FnMapEntry', WHERE WHAT IT READS IS OF BULK AT MOST 1048576: true; the input reads as it did. -/
def fnMapEntryUptoRow : OpenClaim := { program := "ytnammoimjcgdmaadoor", sum := "536bd38a5a61e198c77e6db3fa21f5d669b79ab19026dd892ce2483e50cf7180", func := "pub-codicil/laws.FnMapEntry", spec := "fnMapEntry", unfollowed := true, recurses := true, named := ["unicode.CaseRanges"], apart := false, laid := [("unicode.CaseRanges", laid_unicode_CaseRanges)], narrowed := true }
def FnMapEntryUptoSaid : Prop := fnMapEntryUptoRow.holds Tryd.pinned (OpenSpec.upto fnMapEntrySpec)

/-- 'laws.FnEnumValue', WHERE WHAT IT READS IS OF BULK AT MOST 1048576: true; the input reads as it did. -/
def fnEnumValueUptoRow : OpenClaim := { program := "ytnammoimjcgdmaadoor", sum := "536bd38a5a61e198c77e6db3fa21f5d669b79ab19026dd892ce2483e50cf7180", func := "pub-codicil/laws.FnEnumValue", spec := "fnEnumValue", unfollowed := true, recurses := true, named := ["unicode.CaseRanges"], apart := false, laid := [("unicode.CaseRanges", laid_unicode_CaseRanges)], narrowed := true }
def FnEnumValueUptoSaid : Prop := fnEnumValueUptoRow.holds Tryd.pinned (OpenSpec.upto fnEnumValueSpec)

/-- 'laws.FnTrimPrefix', WHERE WHAT IT READS IS OF BULK AT MOST 1048576: true; the input reads as it did. -/
def fnTrimPrefixUptoRow : OpenClaim := { program := "ytnammoimjcgdmaadoor", sum := "536bd38a5a61e198c77e6db3fa21f5d669b79ab19026dd892ce2483e50cf7180", func := "pub-codicil/laws.FnTrimPrefix", spec := "fnTrimPrefix", named := ["unicode.CaseRanges"], apart := false, laid := [("unicode.CaseRanges", laid_unicode_CaseRanges)], narrowed := true }
def FnTrimPrefixUptoSaid : Prop := fnTrimPrefixUptoRow.holds Tryd.pinned (OpenSpec.upto fnTrimPrefixSpec)

/-- 'laws.FnGoSane', WHERE WHAT IT READS IS OF BULK AT MOST 1048576: true; the input reads as it did. -/
def fnGoSaneUptoRow : OpenClaim := { program := "ytnammoimjcgdmaadoor", sum := "536bd38a5a61e198c77e6db3fa21f5d669b79ab19026dd892ce2483e50cf7180", func := "pub-codicil/laws.FnGoSane", spec := "fnGoSane", inPlace := ["internal/abi.NoEscape", "internal/bytealg.MakeNoZero"], unfollowed := true, recurses := true, named := ["unicode/utf8.first", "unicode/utf8.acceptRanges", "unicode.properties", "unicode.Letter", "unicode.Digit"], apart := false, laid := [("unicode/utf8.acceptRanges", laid_unicode_utf8_acceptRanges), ("unicode.properties", laid_unicode_properties), ("unicode.Digit", laid_unicode_Digit), ("unicode.Letter", laid_unicode_Letter), ("unicode/utf8.first", laid_unicode_utf8_first)], narrowed := true }
def FnGoSaneUptoSaid : Prop := fnGoSaneUptoRow.holds Tryd.pinned (OpenSpec.upto fnGoSaneSpec)

end Rows
end Go.Proofs.YtnammoimjcgdmaaDoor
