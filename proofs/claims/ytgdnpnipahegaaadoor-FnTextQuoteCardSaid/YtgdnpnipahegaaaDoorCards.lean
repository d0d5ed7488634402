/-
  DERIVED. GIVEN WITH THE SEED: THE CARDS: each row of YtgdnpnipahegaaaDoorRows.lean that lists a variable, with what it lists TIED to the program's text (the seventh form; the later family's looks); each row that meets fmt, with fmt's text TOLD by the authors' own Lean function (tested against real Go, not proved from fmt's source: count such statements apart). THE CARD IS WHAT COUNTS. Prove the row's statement (the work); the ties are given (YtgdnpnipahegaaaDoorTie.lean); close each card by the builder's one call (the guide's Derived/Test/ToyasCard.lean, 'card_holds'). Laid BY PROGRAM, IN A SANDBOX (cutbox-door.mjs). By AI agents, Wed Nov 11 2026. No macro, syntax, notation, axiom, sorry.
-/
import Derived.Test.YtgdnpnipahegaaaDoorRows
import GoSem.ClaimSeven
namespace Go.Proofs.YtgdnpnipahegaaaDoor
namespace Rows

/-- THE TIED CARD OF 'laws.FnTextUnquotes'. -/
def fnTextUnquotesCard : Claim7 := { stood := { row := fnTextUnquotesRow, standIns := [], harness := (true, "72308a61cd53c1e58ce56dc60c57ca803fc1322dbc0c6a5fbddaf32133d3a9e4"), looks := true }, kinds := [], alts := [], laidByText := true, laidKinds := [.data, .data, .data, .data, .sentinel, .sentinel, .sentinel, .pinned], laidTests := true, laidLooks := .later }
def FnTextUnquotesCardSaid : Prop := Claim7.holds Tryd.pinned (.plain (OpenSpec.ofChange fnTextUnquotesSpec)) fnTextUnquotesCard

/-- THE TIED CARD OF 'laws.FnTextQuote'. -/
def fnTextQuoteCard : Claim7 := { stood := { row := fnTextQuoteRow, standIns := [], harness := (true, "72308a61cd53c1e58ce56dc60c57ca803fc1322dbc0c6a5fbddaf32133d3a9e4"), looks := true }, kinds := [], alts := [], laidByText := true, laidKinds := [.data, .data, .data, .data, .sentinel, .sentinel, .sentinel, .pinned], laidTests := true, laidLooks := .later }
def FnTextQuoteCardSaid : Prop := Claim7.holds Tryd.pinned (.plain (OpenSpec.ofChange fnTextQuoteSpec)) fnTextQuoteCard

/-- THE SECOND FORM's CARD OF 'laws.FnTextUnquotes'. -/
def fnTextUnquotesUptoCard : Claim7 := { stood := { row := fnTextUnquotesUptoRow, standIns := [], harness := (true, "72308a61cd53c1e58ce56dc60c57ca803fc1322dbc0c6a5fbddaf32133d3a9e4"), looks := true }, kinds := [], alts := [], laidByText := true, laidKinds := [.data, .data, .data, .data, .sentinel, .sentinel, .sentinel, .pinned], laidTests := true, laidLooks := .later }
def FnTextUnquotesUptoCardSaid : Prop := Claim7.holds Tryd.pinned (.plain (OpenSpec.upto fnTextUnquotesSpec)) fnTextUnquotesUptoCard

/-- THE SECOND FORM's CARD OF 'laws.FnTextQuote'. -/
def fnTextQuoteUptoCard : Claim7 := { stood := { row := fnTextQuoteUptoRow, standIns := [], harness := (true, "72308a61cd53c1e58ce56dc60c57ca803fc1322dbc0c6a5fbddaf32133d3a9e4"), looks := true }, kinds := [], alts := [], laidByText := true, laidKinds := [.data, .data, .data, .data, .sentinel, .sentinel, .sentinel, .pinned], laidTests := true, laidLooks := .later }
def FnTextQuoteUptoCardSaid : Prop := Claim7.holds Tryd.pinned (.plain (OpenSpec.upto fnTextQuoteSpec)) fnTextQuoteUptoCard
end Rows
end Go.Proofs.YtgdnpnipahegaaaDoor
