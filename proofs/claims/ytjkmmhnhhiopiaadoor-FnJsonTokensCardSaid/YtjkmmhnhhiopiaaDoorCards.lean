/-
  DERIVED. GIVEN WITH THE SEED: THE CARDS: each row of YtjkmmhnhhiopiaaDoorRows.lean that lists a variable, with what it lists TIED to the program's text (the seventh form; the later family's looks); each row that meets fmt, with fmt's text TOLD by the authors' own Lean function (tested against real Go, not proved from fmt's source: count such statements apart). THE CARD IS WHAT COUNTS. Prove the row's statement (the work); the ties are given (YtjkmmhnhhiopiaaDoorTie.lean); close each card by the builder's one call (the guide's Derived/Test/ToyasCard.lean, 'card_holds'). Laid BY PROGRAM, IN A SANDBOX (cutbox-door.mjs). By AI agents, Wed Nov 11 2026. No macro, syntax, notation, axiom, sorry.
-/
import Derived.Test.YtjkmmhnhhiopiaaDoorRows
import GoSem.ClaimSeven
namespace Go.Proofs.YtjkmmhnhhiopiaaDoor
namespace Rows

/-- THE TIED CARD OF 'laws.FnJsonEscapes'. -/
def fnJsonEscapesCard : Claim7 := { stood := { row := fnJsonEscapesRow, standIns := [], harness := (true, "bc69da7e0f55f50a244113e150dc4920beea93c2f87f7d2a6deea66232237378"), looks := true }, kinds := [], alts := [], laidByText := true, laidKinds := [.data, .data, .data, .data, .sentinel, .sentinel, .sentinel, .pinned], laidTests := true, laidLooks := .later }
def FnJsonEscapesCardSaid : Prop := Claim7.holds Tryd.pinned (.plain (OpenSpec.ofChange fnJsonEscapesSpec)) fnJsonEscapesCard

/-- THE TIED CARD OF 'laws.FnJsonFormsCut'. -/
def fnJsonFormsCutCard : Claim7 := { stood := { row := fnJsonFormsCutRow, standIns := [], harness := (true, "bc69da7e0f55f50a244113e150dc4920beea93c2f87f7d2a6deea66232237378"), looks := true }, kinds := [], alts := [], laidByText := true, laidKinds := [.data, .data, .data, .data, .sentinel, .sentinel, .sentinel, .pinned], laidTests := true, laidLooks := .later }
def FnJsonFormsCutCardSaid : Prop := Claim7.holds Tryd.pinned (.plain (OpenSpec.ofChange fnJsonFormsCutSpec)) fnJsonFormsCutCard

/-- THE TIED CARD OF 'laws.FnJsonTokens'. -/
def fnJsonTokensCard : Claim7 := { stood := { row := fnJsonTokensRow, standIns := [], harness := (true, "bc69da7e0f55f50a244113e150dc4920beea93c2f87f7d2a6deea66232237378"), looks := true }, kinds := [], alts := [], laidByText := true, laidKinds := [.data, .data, .data, .data, .sentinel, .sentinel, .sentinel, .pinned], laidTests := true, laidLooks := .later }
def FnJsonTokensCardSaid : Prop := Claim7.holds Tryd.pinned (.plain (OpenSpec.ofChange fnJsonTokensSpec)) fnJsonTokensCard

/-- THE TIED CARD OF 'laws.FnJsonForms'. -/
def fnJsonFormsCard : Claim7 := { stood := { row := fnJsonFormsRow, standIns := [], harness := (true, "bc69da7e0f55f50a244113e150dc4920beea93c2f87f7d2a6deea66232237378"), looks := true }, kinds := [], alts := [], laidByText := true, laidKinds := [.data, .data, .data, .data, .sentinel, .sentinel, .sentinel, .pinned], laidTests := true, laidLooks := .later }
def FnJsonFormsCardSaid : Prop := Claim7.holds Tryd.pinned (.plain (OpenSpec.ofChange fnJsonFormsSpec)) fnJsonFormsCard

/-- THE TIED CARD OF 'laws.FnJsonPeeks'. -/
def fnJsonPeeksCard : Claim7 := { stood := { row := fnJsonPeeksRow, standIns := [], harness := (true, "bc69da7e0f55f50a244113e150dc4920beea93c2f87f7d2a6deea66232237378"), looks := true }, kinds := [], alts := [], laidByText := true, laidKinds := [.data, .data, .data, .data, .sentinel, .sentinel, .sentinel, .pinned], laidTests := true, laidLooks := .later }
def FnJsonPeeksCardSaid : Prop := Claim7.holds Tryd.pinned (.plain (OpenSpec.ofChange fnJsonPeeksSpec)) fnJsonPeeksCard

/-- THE TIED CARD OF 'laws.FnJsonFormsClone'. -/
def fnJsonFormsCloneCard : Claim7 := { stood := { row := fnJsonFormsCloneRow, standIns := [], harness := (true, "bc69da7e0f55f50a244113e150dc4920beea93c2f87f7d2a6deea66232237378"), looks := true }, kinds := [], alts := [], laidByText := true, laidKinds := [.data, .data, .data, .data, .sentinel, .sentinel, .sentinel, .pinned], laidTests := true, laidLooks := .later }
def FnJsonFormsCloneCardSaid : Prop := Claim7.holds Tryd.pinned (.plain (OpenSpec.ofChange fnJsonFormsCloneSpec)) fnJsonFormsCloneCard

/-- THE TIED CARD OF 'laws.FnJsonClone'. -/
def fnJsonCloneCard : Claim7 := { stood := { row := fnJsonCloneRow, standIns := [], harness := (true, "bc69da7e0f55f50a244113e150dc4920beea93c2f87f7d2a6deea66232237378"), looks := true }, kinds := [], alts := [], laidByText := true, laidKinds := [.data, .data, .data, .data, .sentinel, .sentinel, .sentinel, .pinned], laidTests := true, laidLooks := .later }
def FnJsonCloneCardSaid : Prop := Claim7.holds Tryd.pinned (.plain (OpenSpec.ofChange fnJsonCloneSpec)) fnJsonCloneCard

/-- THE SECOND FORM's CARD OF 'laws.FnJsonEscapes'. -/
def fnJsonEscapesUptoCard : Claim7 := { stood := { row := fnJsonEscapesUptoRow, standIns := [], harness := (true, "bc69da7e0f55f50a244113e150dc4920beea93c2f87f7d2a6deea66232237378"), looks := true }, kinds := [], alts := [], laidByText := true, laidKinds := [.data, .data, .data, .data, .sentinel, .sentinel, .sentinel, .pinned], laidTests := true, laidLooks := .later }
def FnJsonEscapesUptoCardSaid : Prop := Claim7.holds Tryd.pinned (.plain (OpenSpec.upto fnJsonEscapesSpec)) fnJsonEscapesUptoCard

/-- THE SECOND FORM's CARD OF 'laws.FnJsonFormsCut'. -/
def fnJsonFormsCutUptoCard : Claim7 := { stood := { row := fnJsonFormsCutUptoRow, standIns := [], harness := (true, "bc69da7e0f55f50a244113e150dc4920beea93c2f87f7d2a6deea66232237378"), looks := true }, kinds := [], alts := [], laidByText := true, laidKinds := [.data, .data, .data, .data, .sentinel, .sentinel, .sentinel, .pinned], laidTests := true, laidLooks := .later }
def FnJsonFormsCutUptoCardSaid : Prop := Claim7.holds Tryd.pinned (.plain (OpenSpec.upto fnJsonFormsCutSpec)) fnJsonFormsCutUptoCard

/-- THE SECOND FORM's CARD OF 'laws.FnJsonTokens'. -/
def fnJsonTokensUptoCard : Claim7 := { stood := { row := fnJsonTokensUptoRow, standIns := [], harness := (true, "bc69da7e0f55f50a244113e150dc4920beea93c2f87f7d2a6deea66232237378"), looks := true }, kinds := [], alts := [], laidByText := true, laidKinds := [.data, .data, .data, .data, .sentinel, .sentinel, .sentinel, .pinned], laidTests := true, laidLooks := .later }
def FnJsonTokensUptoCardSaid : Prop := Claim7.holds Tryd.pinned (.plain (OpenSpec.upto fnJsonTokensSpec)) fnJsonTokensUptoCard

/-- THE SECOND FORM's CARD OF 'laws.FnJsonForms'. -/
def fnJsonFormsUptoCard : Claim7 := { stood := { row := fnJsonFormsUptoRow, standIns := [], harness := (true, "bc69da7e0f55f50a244113e150dc4920beea93c2f87f7d2a6deea66232237378"), looks := true }, kinds := [], alts := [], laidByText := true, laidKinds := [.data, .data, .data, .data, .sentinel, .sentinel, .sentinel, .pinned], laidTests := true, laidLooks := .later }
def FnJsonFormsUptoCardSaid : Prop := Claim7.holds Tryd.pinned (.plain (OpenSpec.upto fnJsonFormsSpec)) fnJsonFormsUptoCard

/-- THE SECOND FORM's CARD OF 'laws.FnJsonPeeks'. -/
def fnJsonPeeksUptoCard : Claim7 := { stood := { row := fnJsonPeeksUptoRow, standIns := [], harness := (true, "bc69da7e0f55f50a244113e150dc4920beea93c2f87f7d2a6deea66232237378"), looks := true }, kinds := [], alts := [], laidByText := true, laidKinds := [.data, .data, .data, .data, .sentinel, .sentinel, .sentinel, .pinned], laidTests := true, laidLooks := .later }
def FnJsonPeeksUptoCardSaid : Prop := Claim7.holds Tryd.pinned (.plain (OpenSpec.upto fnJsonPeeksSpec)) fnJsonPeeksUptoCard

/-- THE SECOND FORM's CARD OF 'laws.FnJsonFormsClone'. -/
def fnJsonFormsCloneUptoCard : Claim7 := { stood := { row := fnJsonFormsCloneUptoRow, standIns := [], harness := (true, "bc69da7e0f55f50a244113e150dc4920beea93c2f87f7d2a6deea66232237378"), looks := true }, kinds := [], alts := [], laidByText := true, laidKinds := [.data, .data, .data, .data, .sentinel, .sentinel, .sentinel, .pinned], laidTests := true, laidLooks := .later }
def FnJsonFormsCloneUptoCardSaid : Prop := Claim7.holds Tryd.pinned (.plain (OpenSpec.upto fnJsonFormsCloneSpec)) fnJsonFormsCloneUptoCard

/-- THE SECOND FORM's CARD OF 'laws.FnJsonClone'. -/
def fnJsonCloneUptoCard : Claim7 := { stood := { row := fnJsonCloneUptoRow, standIns := [], harness := (true, "bc69da7e0f55f50a244113e150dc4920beea93c2f87f7d2a6deea66232237378"), looks := true }, kinds := [], alts := [], laidByText := true, laidKinds := [.data, .data, .data, .data, .sentinel, .sentinel, .sentinel, .pinned], laidTests := true, laidLooks := .later }
def FnJsonCloneUptoCardSaid : Prop := Claim7.holds Tryd.pinned (.plain (OpenSpec.upto fnJsonCloneSpec)) fnJsonCloneUptoCard
end Rows
end Go.Proofs.YtjkmmhnhhiopiaaDoor
