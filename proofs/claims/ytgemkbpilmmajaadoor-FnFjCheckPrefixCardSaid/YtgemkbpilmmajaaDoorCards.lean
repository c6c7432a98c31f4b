/-
  DERIVED. GIVEN WITH THE SEED: THE CARDS: each row of YtgemkbpilmmajaaDoorRows.lean that lists a variable, with what it lists TIED to the program's text (the seventh form; the later family's looks); each row that meets fmt, with fmt's text TOLD by the authors' own Lean function (tested against real Go, not proved from fmt's source: count such statements apart). THE CARD IS WHAT COUNTS. Prove the row's statement (the work); the ties are given (YtgemkbpilmmajaaDoorTie.lean); close each card by the builder's one call (the guide's Derived/Test/ToyasCard.lean, 'card_holds'). Laid BY PROGRAM, IN A SANDBOX (cutbox-door.mjs). By AI agents, Wed Nov 11 2026. No macro, syntax, notation, axiom, sorry.
-/
import Derived.Test.YtgemkbpilmmajaaDoorRows
import GoSem.ClaimSeven
namespace Go.Proofs.YtgemkbpilmmajaaDoor
namespace Rows

/-- THE TIED CARD OF 'laws.FnJpBlockPlace'. -/
def fnJpBlockPlaceCard : Claim7 := { stood := { row := fnJpBlockPlaceRow, standIns := [], harness := (true, "24a2434d702c683c04866cd17cae9f12ef73f8db7cad9a754257a21a7542ced2"), looks := true }, kinds := [], alts := [], laidByText := true, laidKinds := [.data], laidTests := true, laidLooks := .later }
def FnJpBlockPlaceCardSaid : Prop := Claim7.holds Tryd.pinned (.plain (OpenSpec.ofChange fnJpBlockPlaceSpec)) fnJpBlockPlaceCard

/-- THE TIED CARD OF 'laws.FnFjQuoteAll'. -/
def fnFjQuoteAllCard : Claim7 := { stood := { row := fnFjQuoteAllRow, standIns := [], harness := (true, "24a2434d702c683c04866cd17cae9f12ef73f8db7cad9a754257a21a7542ced2"), looks := true }, kinds := [], alts := [], laidByText := true, laidKinds := [.data, .pinned, .pinned, .pinned, .pinned, .pinned, .pinned], laidTests := true, laidLooks := .later }
def FnFjQuoteAllCardSaid : Prop := Claim7.holds Tryd.pinned (.plain (OpenSpec.ofChange fnFjQuoteAllSpec)) fnFjQuoteAllCard

/-- THE TIED CARD OF 'laws.FnFfZeros'. -/
def fnFfZerosCard : Claim7 := { stood := { row := fnFfZerosRow, standIns := [], harness := (true, "24a2434d702c683c04866cd17cae9f12ef73f8db7cad9a754257a21a7542ced2"), looks := true }, kinds := [], alts := [], laidByText := true, laidKinds := [.data, .data, .data, .sentinel, .sentinel], laidTests := true, laidLooks := .later }
def FnFfZerosCardSaid : Prop := Claim7.holds Tryd.pinned (.plain (OpenSpec.ofChange fnFfZerosSpec)) fnFfZerosCard

/-- THE TIED CARD OF 'laws.FnFjUnescape'. -/
def fnFjUnescapeCard : Claim7 := { stood := { row := fnFjUnescapeRow, standIns := [], harness := (true, "24a2434d702c683c04866cd17cae9f12ef73f8db7cad9a754257a21a7542ced2"), looks := true }, kinds := [], alts := [], laidByText := true, laidKinds := [.data, .data, .data, .sentinel, .sentinel], laidTests := true, laidLooks := .later }
def FnFjUnescapeCardSaid : Prop := Claim7.holds Tryd.pinned (.plain (OpenSpec.ofChange fnFjUnescapeSpec)) fnFjUnescapeCard

/-- THE TIED CARD OF 'laws.FnFjCheckPrefix'. -/
def fnFjCheckPrefixCard : Claim7 := { stood := { row := fnFjCheckPrefixRow, standIns := [], harness := (true, "24a2434d702c683c04866cd17cae9f12ef73f8db7cad9a754257a21a7542ced2"), looks := true }, kinds := [], alts := [], laidByText := true, laidKinds := [.data, .data, .data, .sentinel, .sentinel], laidTests := true, laidLooks := .later }
def FnFjCheckPrefixCardSaid : Prop := Claim7.holds Tryd.pinned (.plain (OpenSpec.ofChange fnFjCheckPrefixSpec)) fnFjCheckPrefixCard

/-- THE SECOND FORM's CARD OF 'laws.FnJpBlockPlace'. -/
def fnJpBlockPlaceUptoCard : Claim7 := { stood := { row := fnJpBlockPlaceUptoRow, standIns := [], harness := (true, "24a2434d702c683c04866cd17cae9f12ef73f8db7cad9a754257a21a7542ced2"), looks := true }, kinds := [], alts := [], laidByText := true, laidKinds := [.data], laidTests := true, laidLooks := .later }
def FnJpBlockPlaceUptoCardSaid : Prop := Claim7.holds Tryd.pinned (.plain (OpenSpec.upto fnJpBlockPlaceSpec)) fnJpBlockPlaceUptoCard

/-- THE SECOND FORM's CARD OF 'laws.FnFjQuoteAll'. -/
def fnFjQuoteAllUptoCard : Claim7 := { stood := { row := fnFjQuoteAllUptoRow, standIns := [], harness := (true, "24a2434d702c683c04866cd17cae9f12ef73f8db7cad9a754257a21a7542ced2"), looks := true }, kinds := [], alts := [], laidByText := true, laidKinds := [.data, .pinned, .pinned, .pinned, .pinned, .pinned, .pinned], laidTests := true, laidLooks := .later }
def FnFjQuoteAllUptoCardSaid : Prop := Claim7.holds Tryd.pinned (.plain (OpenSpec.upto fnFjQuoteAllSpec)) fnFjQuoteAllUptoCard

/-- THE SECOND FORM's CARD OF 'laws.FnFfZeros'. -/
def fnFfZerosUptoCard : Claim7 := { stood := { row := fnFfZerosUptoRow, standIns := [], harness := (true, "24a2434d702c683c04866cd17cae9f12ef73f8db7cad9a754257a21a7542ced2"), looks := true }, kinds := [], alts := [], laidByText := true, laidKinds := [.data, .data, .data, .sentinel, .sentinel], laidTests := true, laidLooks := .later }
def FnFfZerosUptoCardSaid : Prop := Claim7.holds Tryd.pinned (.plain (OpenSpec.upto fnFfZerosSpec)) fnFfZerosUptoCard

/-- THE SECOND FORM's CARD OF 'laws.FnFjUnescape'. -/
def fnFjUnescapeUptoCard : Claim7 := { stood := { row := fnFjUnescapeUptoRow, standIns := [], harness := (true, "24a2434d702c683c04866cd17cae9f12ef73f8db7cad9a754257a21a7542ced2"), looks := true }, kinds := [], alts := [], laidByText := true, laidKinds := [.data, .data, .data, .sentinel, .sentinel], laidTests := true, laidLooks := .later }
def FnFjUnescapeUptoCardSaid : Prop := Claim7.holds Tryd.pinned (.plain (OpenSpec.upto fnFjUnescapeSpec)) fnFjUnescapeUptoCard

/-- THE SECOND FORM's CARD OF 'laws.FnFjCheckPrefix'. -/
def fnFjCheckPrefixUptoCard : Claim7 := { stood := { row := fnFjCheckPrefixUptoRow, standIns := [], harness := (true, "24a2434d702c683c04866cd17cae9f12ef73f8db7cad9a754257a21a7542ced2"), looks := true }, kinds := [], alts := [], laidByText := true, laidKinds := [.data, .data, .data, .sentinel, .sentinel], laidTests := true, laidLooks := .later }
def FnFjCheckPrefixUptoCardSaid : Prop := Claim7.holds Tryd.pinned (.plain (OpenSpec.upto fnFjCheckPrefixSpec)) fnFjCheckPrefixUptoCard
end Rows
end Go.Proofs.YtgemkbpilmmajaaDoor
