/-
  DERIVED. GIVEN WITH THE SEED: THE CARDS: each row of YtgdnpnipahegaaaGreatDoorRows.lean that lists a variable, with what it lists TIED to the program's text (the seventh form; the later family's looks); each row that meets fmt, with fmt's text TOLD by the authors' own Lean function (tested against real Go, not proved from fmt's source: count such statements apart). THE CARD IS WHAT COUNTS. Prove the row's statement (the work); the ties are given (YtgdnpnipahegaaaGreatDoorTie.lean); close each card by the builder's one call (the guide's Derived/Test/ToyasCard.lean, 'card_holds'). Laid BY PROGRAM, IN A SANDBOX (cutbox-door.mjs). By AI agents, Wed Nov 11 2026. No macro, syntax, notation, axiom, sorry.
-/
import Derived.Test.YtgdnpnipahegaaaGreatDoorRows
import GoSem.ClaimSeven
namespace Go.Proofs.YtgdnpnipahegaaaGreatDoor
namespace Rows

/-- THE TIED CARD OF 'laws.FnTextFormsCut'. -/
def fnTextFormsCutCard : Claim7 := { stood := { row := fnTextFormsCutRow, standIns := [], harness := (true, "2657a2f504260c9e3792e64954ba0de6c9507d3df3cb8ab6d690f20ae8706d87"), looks := true }, kinds := [], alts := [], laidByText := true, laidKinds := [.data, .data, .data, .data, .sentinel, .sentinel, .sentinel, .pinned], laidTests := true, laidLooks := .later }
def FnTextFormsCutCardSaid : Prop := Claim7.holds Tryz.pinned (.plain (OpenSpec.ofChange fnTextFormsCutSpec)) fnTextFormsCutCard

/-- THE TIED CARD OF 'laws.FnTextForms'. -/
def fnTextFormsCard : Claim7 := { stood := { row := fnTextFormsRow, standIns := [], harness := (true, "2657a2f504260c9e3792e64954ba0de6c9507d3df3cb8ab6d690f20ae8706d87"), looks := true }, kinds := [], alts := [], laidByText := true, laidKinds := [.data, .data, .data, .data, .sentinel, .sentinel, .sentinel, .pinned], laidTests := true, laidLooks := .later }
def FnTextFormsCardSaid : Prop := Claim7.holds Tryz.pinned (.plain (OpenSpec.ofChange fnTextFormsSpec)) fnTextFormsCard

/-- THE TIED CARD OF 'laws.FnTextPeeks'. -/
def fnTextPeeksCard : Claim7 := { stood := { row := fnTextPeeksRow, standIns := [], harness := (true, "2657a2f504260c9e3792e64954ba0de6c9507d3df3cb8ab6d690f20ae8706d87"), looks := true }, kinds := [], alts := [], laidByText := true, laidKinds := [.data, .data, .data, .data, .sentinel, .sentinel, .sentinel, .pinned], laidTests := true, laidLooks := .later }
def FnTextPeeksCardSaid : Prop := Claim7.holds Tryz.pinned (.plain (OpenSpec.ofChange fnTextPeeksSpec)) fnTextPeeksCard

/-- THE SECOND FORM's CARD OF 'laws.FnTextFormsCut'. -/
def fnTextFormsCutUptoCard : Claim7 := { stood := { row := fnTextFormsCutUptoRow, standIns := [], harness := (true, "2657a2f504260c9e3792e64954ba0de6c9507d3df3cb8ab6d690f20ae8706d87"), looks := true }, kinds := [], alts := [], laidByText := true, laidKinds := [.data, .data, .data, .data, .sentinel, .sentinel, .sentinel, .pinned], laidTests := true, laidLooks := .later }
def FnTextFormsCutUptoCardSaid : Prop := Claim7.holds Tryz.pinned (.plain (OpenSpec.upto fnTextFormsCutSpec)) fnTextFormsCutUptoCard

/-- THE SECOND FORM's CARD OF 'laws.FnTextForms'. -/
def fnTextFormsUptoCard : Claim7 := { stood := { row := fnTextFormsUptoRow, standIns := [], harness := (true, "2657a2f504260c9e3792e64954ba0de6c9507d3df3cb8ab6d690f20ae8706d87"), looks := true }, kinds := [], alts := [], laidByText := true, laidKinds := [.data, .data, .data, .data, .sentinel, .sentinel, .sentinel, .pinned], laidTests := true, laidLooks := .later }
def FnTextFormsUptoCardSaid : Prop := Claim7.holds Tryz.pinned (.plain (OpenSpec.upto fnTextFormsSpec)) fnTextFormsUptoCard

/-- THE SECOND FORM's CARD OF 'laws.FnTextPeeks'. -/
def fnTextPeeksUptoCard : Claim7 := { stood := { row := fnTextPeeksUptoRow, standIns := [], harness := (true, "2657a2f504260c9e3792e64954ba0de6c9507d3df3cb8ab6d690f20ae8706d87"), looks := true }, kinds := [], alts := [], laidByText := true, laidKinds := [.data, .data, .data, .data, .sentinel, .sentinel, .sentinel, .pinned], laidTests := true, laidLooks := .later }
def FnTextPeeksUptoCardSaid : Prop := Claim7.holds Tryz.pinned (.plain (OpenSpec.upto fnTextPeeksSpec)) fnTextPeeksUptoCard
end Rows
end Go.Proofs.YtgdnpnipahegaaaGreatDoor
