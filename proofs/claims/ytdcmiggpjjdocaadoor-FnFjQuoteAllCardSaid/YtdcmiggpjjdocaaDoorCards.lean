/-
  DERIVED. GIVEN WITH THE SEED: THE CARDS: each row of YtdcmiggpjjdocaaDoorRows.lean that lists a variable, with what it lists TIED to the program's text (the seventh form; the later family's looks); each row that meets fmt, with fmt's text TOLD by the authors' own Lean function (tested against real Go, not proved from fmt's source: count such statements apart). THE CARD IS WHAT COUNTS. Prove the row's statement (the work); the ties are given (YtdcmiggpjjdocaaDoorTie.lean); close each card by the builder's one call (the guide's Derived/Test/ToyasCard.lean, 'card_holds'). Laid BY PROGRAM, IN A SANDBOX (cutbox-door.mjs). By AI agents, Wed Nov 11 2026. No macro, syntax, notation, axiom, sorry.
-/
import Derived.Test.YtdcmiggpjjdocaaDoorRows
import GoSem.ClaimSeven
namespace Go.Proofs.YtdcmiggpjjdocaaDoor
namespace Rows

/-- THE TIED CARD OF 'laws.FnFjQuoteAll'. -/
def fnFjQuoteAllCard : Claim7 := { stood := { row := fnFjQuoteAllRow, standIns := [], harness := (true, "d1000e44b4d9753dbc62370ec353b6fa2921c18b9231b29a5d38e1a7c3ceb34a"), looks := true }, kinds := [], alts := [], laidByText := true, laidKinds := [.data, .pinned, .pinned, .pinned, .pinned, .pinned, .pinned], laidTests := true, laidLooks := .later }
def FnFjQuoteAllCardSaid : Prop := Claim7.holds Tryd.pinned (.plain (OpenSpec.ofChange fnFjQuoteAllSpec)) fnFjQuoteAllCard

/-- THE TIED CARD OF 'laws.FnFjUnescape'. -/
def fnFjUnescapeCard : Claim7 := { stood := { row := fnFjUnescapeRow, standIns := [], harness := (true, "d1000e44b4d9753dbc62370ec353b6fa2921c18b9231b29a5d38e1a7c3ceb34a"), looks := true }, kinds := [], alts := [], laidByText := true, laidKinds := [.data, .data, .data, .sentinel, .sentinel], laidTests := true, laidLooks := .later }
def FnFjUnescapeCardSaid : Prop := Claim7.holds Tryd.pinned (.plain (OpenSpec.ofChange fnFjUnescapeSpec)) fnFjUnescapeCard

/-- THE SECOND FORM's CARD OF 'laws.FnFjQuoteAll'. -/
def fnFjQuoteAllUptoCard : Claim7 := { stood := { row := fnFjQuoteAllUptoRow, standIns := [], harness := (true, "d1000e44b4d9753dbc62370ec353b6fa2921c18b9231b29a5d38e1a7c3ceb34a"), looks := true }, kinds := [], alts := [], laidByText := true, laidKinds := [.data, .pinned, .pinned, .pinned, .pinned, .pinned, .pinned], laidTests := true, laidLooks := .later }
def FnFjQuoteAllUptoCardSaid : Prop := Claim7.holds Tryd.pinned (.plain (OpenSpec.upto fnFjQuoteAllSpec)) fnFjQuoteAllUptoCard

/-- THE SECOND FORM's CARD OF 'laws.FnFjUnescape'. -/
def fnFjUnescapeUptoCard : Claim7 := { stood := { row := fnFjUnescapeUptoRow, standIns := [], harness := (true, "d1000e44b4d9753dbc62370ec353b6fa2921c18b9231b29a5d38e1a7c3ceb34a"), looks := true }, kinds := [], alts := [], laidByText := true, laidKinds := [.data, .data, .data, .sentinel, .sentinel], laidTests := true, laidLooks := .later }
def FnFjUnescapeUptoCardSaid : Prop := Claim7.holds Tryd.pinned (.plain (OpenSpec.upto fnFjUnescapeSpec)) fnFjUnescapeUptoCard
end Rows
end Go.Proofs.YtdcmiggpjjdocaaDoor
