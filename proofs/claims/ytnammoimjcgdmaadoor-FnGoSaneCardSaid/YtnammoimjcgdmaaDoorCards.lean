/-
  DERIVED. GIVEN WITH THE SEED: THE CARDS: each row of YtnammoimjcgdmaaDoorRows.lean that lists a variable, with what it lists TIED to the program's text (the seventh form; the later family's looks); each row that meets fmt, with fmt's text TOLD by the authors' own Lean function (tested against real Go, not proved from fmt's source: count such statements apart). THE CARD IS WHAT COUNTS. Prove the row's statement (the work); the ties are given (YtnammoimjcgdmaaDoorTie.lean); close each card by the builder's one call (the guide's Derived/Test/ToyasCard.lean, 'card_holds'). Laid BY PROGRAM, IN A SANDBOX (cutbox-door.mjs). By AI agents, Wed Nov 11 2026. No macro, syntax, notation, axiom, sorry.
-/
import Derived.Test.YtnammoimjcgdmaaDoorRows
import GoSem.ClaimSeven
namespace Go.Proofs.YtnammoimjcgdmaaDoor
namespace Rows

/-- THE TIED CARD OF 'laws.FnMapEntry'. -/
def fnMapEntryCard : Claim7 := { stood := { row := fnMapEntryRow, standIns := [], harness := (true, "03cca9563f847d094f91511c65219d5565caecb0ed24d93baf1317bc4b1809f4"), looks := false }, kinds := [], alts := [], laidByText := true, laidKinds := [.pinned], laidTests := true, laidLooks := .later }
def FnMapEntryCardSaid : Prop := Claim7.holds Tryd.pinned (.plain (OpenSpec.ofChange fnMapEntrySpec)) fnMapEntryCard

/-- THE TIED CARD OF 'laws.FnEnumValue'. -/
def fnEnumValueCard : Claim7 := { stood := { row := fnEnumValueRow, standIns := [], harness := (true, "03cca9563f847d094f91511c65219d5565caecb0ed24d93baf1317bc4b1809f4"), looks := false }, kinds := [], alts := [], laidByText := true, laidKinds := [.pinned], laidTests := true, laidLooks := .later }
def FnEnumValueCardSaid : Prop := Claim7.holds Tryd.pinned (.plain (OpenSpec.ofChange fnEnumValueSpec)) fnEnumValueCard

/-- THE TIED CARD OF 'laws.FnTrimPrefix'. -/
def fnTrimPrefixCard : Claim7 := { stood := { row := fnTrimPrefixRow, standIns := [], harness := (true, "03cca9563f847d094f91511c65219d5565caecb0ed24d93baf1317bc4b1809f4"), looks := false }, kinds := [], alts := [], laidByText := true, laidKinds := [.pinned], laidTests := true, laidLooks := .later }
def FnTrimPrefixCardSaid : Prop := Claim7.holds Tryd.pinned (.plain (OpenSpec.ofChange fnTrimPrefixSpec)) fnTrimPrefixCard

/-- THE TIED CARD OF 'laws.FnGoSane'. -/
def fnGoSaneCard : Claim7 := { stood := { row := fnGoSaneRow, standIns := [], harness := (true, "03cca9563f847d094f91511c65219d5565caecb0ed24d93baf1317bc4b1809f4"), looks := false }, kinds := [], alts := [], laidByText := true, laidKinds := [.data, .data, .pinned, .pinned, .pinned], laidTests := true, laidLooks := .later }
def FnGoSaneCardSaid : Prop := Claim7.holds Tryd.pinned (.plain (OpenSpec.ofChange fnGoSaneSpec)) fnGoSaneCard

/-- THE SECOND FORM's CARD OF 'laws.FnMapEntry'. -/
def fnMapEntryUptoCard : Claim7 := { stood := { row := fnMapEntryUptoRow, standIns := [], harness := (true, "03cca9563f847d094f91511c65219d5565caecb0ed24d93baf1317bc4b1809f4"), looks := false }, kinds := [], alts := [], laidByText := true, laidKinds := [.pinned], laidTests := true, laidLooks := .later }
def FnMapEntryUptoCardSaid : Prop := Claim7.holds Tryd.pinned (.plain (OpenSpec.upto fnMapEntrySpec)) fnMapEntryUptoCard

/-- THE SECOND FORM's CARD OF 'laws.FnEnumValue'. -/
def fnEnumValueUptoCard : Claim7 := { stood := { row := fnEnumValueUptoRow, standIns := [], harness := (true, "03cca9563f847d094f91511c65219d5565caecb0ed24d93baf1317bc4b1809f4"), looks := false }, kinds := [], alts := [], laidByText := true, laidKinds := [.pinned], laidTests := true, laidLooks := .later }
def FnEnumValueUptoCardSaid : Prop := Claim7.holds Tryd.pinned (.plain (OpenSpec.upto fnEnumValueSpec)) fnEnumValueUptoCard

/-- THE SECOND FORM's CARD OF 'laws.FnTrimPrefix'. -/
def fnTrimPrefixUptoCard : Claim7 := { stood := { row := fnTrimPrefixUptoRow, standIns := [], harness := (true, "03cca9563f847d094f91511c65219d5565caecb0ed24d93baf1317bc4b1809f4"), looks := false }, kinds := [], alts := [], laidByText := true, laidKinds := [.pinned], laidTests := true, laidLooks := .later }
def FnTrimPrefixUptoCardSaid : Prop := Claim7.holds Tryd.pinned (.plain (OpenSpec.upto fnTrimPrefixSpec)) fnTrimPrefixUptoCard

/-- THE SECOND FORM's CARD OF 'laws.FnGoSane'. -/
def fnGoSaneUptoCard : Claim7 := { stood := { row := fnGoSaneUptoRow, standIns := [], harness := (true, "03cca9563f847d094f91511c65219d5565caecb0ed24d93baf1317bc4b1809f4"), looks := false }, kinds := [], alts := [], laidByText := true, laidKinds := [.data, .data, .pinned, .pinned, .pinned], laidTests := true, laidLooks := .later }
def FnGoSaneUptoCardSaid : Prop := Claim7.holds Tryd.pinned (.plain (OpenSpec.upto fnGoSaneSpec)) fnGoSaneUptoCard
end Rows
end Go.Proofs.YtnammoimjcgdmaaDoor
