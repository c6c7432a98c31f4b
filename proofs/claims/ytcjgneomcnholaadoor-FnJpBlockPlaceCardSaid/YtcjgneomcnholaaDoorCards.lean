/-
  DERIVED. GIVEN WITH THE SEED: THE CARDS: each row of YtcjgneomcnholaaDoorRows.lean that lists a variable, with what it lists TIED to the program's text (the seventh form; the later family's looks); each row that meets fmt, with fmt's text TOLD by the authors' own Lean function (tested against real Go, not proved from fmt's source: count such statements apart). THE CARD IS WHAT COUNTS. Prove the row's statement (the work); the ties are given (YtcjgneomcnholaaDoorTie.lean); close each card by the builder's one call (the guide's Derived/Test/ToyasCard.lean, 'card_holds'). Laid BY PROGRAM, IN A SANDBOX (cutbox-door.mjs). By AI agents, Wed Nov 11 2026. No macro, syntax, notation, axiom, sorry.
-/
import Derived.Test.YtcjgneomcnholaaDoorRows
import GoSem.ClaimSeven
namespace Go.Proofs.YtcjgneomcnholaaDoor
namespace Rows

/-- THE TIED CARD OF 'laws.FnJpBlockPlace'. -/
def fnJpBlockPlaceCard : Claim7 := { stood := { row := fnJpBlockPlaceRow, standIns := [], harness := (true, "8286c8407c6a5b4459ed3cb8b81de1337a202a27f895032138ac5c3bccd0cfe1"), looks := true }, kinds := [], alts := [], laidByText := true, laidKinds := [.data], laidTests := true, laidLooks := .later }
def FnJpBlockPlaceCardSaid : Prop := Claim7.holds Tryd.pinned (.plain (OpenSpec.ofChange fnJpBlockPlaceSpec)) fnJpBlockPlaceCard

/-- THE TIED CARD OF 'laws.FnJpArrayCut'. -/
def fnJpArrayCutCard : Claim7 := { stood := { row := fnJpArrayCutRow, standIns := [], harness := (true, "8286c8407c6a5b4459ed3cb8b81de1337a202a27f895032138ac5c3bccd0cfe1"), looks := true }, kinds := [], alts := [], laidByText := true, laidKinds := [.data, .data, .data, .sentinel, .sentinel, .data, .data, .sentinel, .sentinel, .sentinel, .sentinel, .sentinel, .sentinel, .sentinel], laidTests := true, laidLooks := .later }
def FnJpArrayCutCardSaid : Prop := Claim7.holds Tryd.pinned (.plain (OpenSpec.ofChange fnJpArrayCutSpec)) fnJpArrayCutCard

/-- THE TIED CARD OF 'laws.FnJpGetStream'. -/
def fnJpGetStreamCard : Claim7 := { stood := { row := fnJpGetStreamRow, standIns := [], harness := (true, "8286c8407c6a5b4459ed3cb8b81de1337a202a27f895032138ac5c3bccd0cfe1"), looks := true }, kinds := [], alts := [], laidByText := true, laidKinds := [.data, .data, .data, .sentinel, .sentinel, .data, .data, .sentinel, .sentinel, .sentinel, .sentinel, .sentinel, .sentinel, .sentinel], laidTests := true, laidLooks := .later }
def FnJpGetStreamCardSaid : Prop := Claim7.holds Tryd.pinned (.plain (OpenSpec.ofChange fnJpGetStreamSpec)) fnJpGetStreamCard

/-- THE TIED CARD OF 'laws.FnJpPaths'. -/
def fnJpPathsCard : Claim7 := { stood := { row := fnJpPathsRow, standIns := [], harness := (true, "8286c8407c6a5b4459ed3cb8b81de1337a202a27f895032138ac5c3bccd0cfe1"), looks := true }, kinds := [], alts := [], laidByText := true, laidKinds := [.data, .data, .data, .sentinel, .sentinel, .data, .data, .sentinel, .sentinel, .sentinel, .sentinel, .sentinel, .sentinel, .sentinel], laidTests := true, laidLooks := .later }
def FnJpPathsCardSaid : Prop := Claim7.holds Tryd.pinned (.plain (OpenSpec.ofChange fnJpPathsSpec)) fnJpPathsCard

/-- THE TIED CARD OF 'laws.FnJrGetCut'. -/
def fnJrGetCutCard : Claim7 := { stood := { row := fnJrGetCutRow, standIns := [], harness := (true, "8286c8407c6a5b4459ed3cb8b81de1337a202a27f895032138ac5c3bccd0cfe1"), looks := true }, kinds := [], alts := [], laidByText := true, laidKinds := [.data, .data, .data, .sentinel, .sentinel, .data, .data, .sentinel, .sentinel, .sentinel, .sentinel, .sentinel, .sentinel, .sentinel, .sentinel, .sentinel, .sentinel], laidTests := true, laidLooks := .later }
def FnJrGetCutCardSaid : Prop := Claim7.holds Tryd.pinned (.plain (OpenSpec.ofChange fnJrGetCutSpec)) fnJrGetCutCard

/-- THE TIED CARD OF 'laws.FnJpConfigGet'. -/
def fnJpConfigGetCard : Claim7 := { stood := { row := fnJpConfigGetRow, standIns := [], harness := (true, "8286c8407c6a5b4459ed3cb8b81de1337a202a27f895032138ac5c3bccd0cfe1"), looks := true }, kinds := [], alts := [], laidByText := true, laidKinds := [.data, .data, .data, .sentinel, .sentinel, .data, .sentinel, .sentinel, .sentinel, .sentinel, .sentinel, .sentinel, .sentinel, .sentinel, .sentinel], laidTests := true, laidLooks := .later }
def FnJpConfigGetCardSaid : Prop := Claim7.holds Tryd.pinned (.plain (OpenSpec.ofChange fnJpConfigGetSpec)) fnJpConfigGetCard

/-- THE TIED CARD OF 'laws.FnJpDeleteRow'. -/
def fnJpDeleteRowCard : Claim7 := { stood := { row := fnJpDeleteRowRow, standIns := [], harness := (true, "8286c8407c6a5b4459ed3cb8b81de1337a202a27f895032138ac5c3bccd0cfe1"), looks := true }, kinds := [], alts := [], laidByText := true, laidKinds := [.data, .data, .data, .sentinel, .sentinel, .data, .data, .sentinel, .sentinel, .sentinel, .sentinel, .sentinel, .sentinel, .sentinel], laidTests := true, laidLooks := .later }
def FnJpDeleteRowCardSaid : Prop := Claim7.holds Tryd.pinned (.plain (OpenSpec.ofChange fnJpDeleteRowSpec)) fnJpDeleteRowCard

/-- THE TIED CARD OF 'laws.FnJpSetBack'. -/
def fnJpSetBackCard : Claim7 := { stood := { row := fnJpSetBackRow, standIns := [], harness := (true, "8286c8407c6a5b4459ed3cb8b81de1337a202a27f895032138ac5c3bccd0cfe1"), looks := true }, kinds := [], alts := [], laidByText := true, laidKinds := [.data, .data, .data, .sentinel, .sentinel, .data, .data, .sentinel, .sentinel, .sentinel, .sentinel, .sentinel, .sentinel, .sentinel], laidTests := true, laidLooks := .later }
def FnJpSetBackCardSaid : Prop := Claim7.holds Tryd.pinned (.plain (OpenSpec.ofChange fnJpSetBackSpec)) fnJpSetBackCard

/-- THE SECOND FORM's CARD OF 'laws.FnJpBlockPlace'. -/
def fnJpBlockPlaceUptoCard : Claim7 := { stood := { row := fnJpBlockPlaceUptoRow, standIns := [], harness := (true, "8286c8407c6a5b4459ed3cb8b81de1337a202a27f895032138ac5c3bccd0cfe1"), looks := true }, kinds := [], alts := [], laidByText := true, laidKinds := [.data], laidTests := true, laidLooks := .later }
def FnJpBlockPlaceUptoCardSaid : Prop := Claim7.holds Tryd.pinned (.plain (OpenSpec.upto fnJpBlockPlaceSpec)) fnJpBlockPlaceUptoCard

/-- THE SECOND FORM's CARD OF 'laws.FnJpArrayCut'. -/
def fnJpArrayCutUptoCard : Claim7 := { stood := { row := fnJpArrayCutUptoRow, standIns := [], harness := (true, "8286c8407c6a5b4459ed3cb8b81de1337a202a27f895032138ac5c3bccd0cfe1"), looks := true }, kinds := [], alts := [], laidByText := true, laidKinds := [.data, .data, .data, .sentinel, .sentinel, .data, .data, .sentinel, .sentinel, .sentinel, .sentinel, .sentinel, .sentinel, .sentinel], laidTests := true, laidLooks := .later }
def FnJpArrayCutUptoCardSaid : Prop := Claim7.holds Tryd.pinned (.plain (OpenSpec.upto fnJpArrayCutSpec)) fnJpArrayCutUptoCard

/-- THE SECOND FORM's CARD OF 'laws.FnJpGetStream'. -/
def fnJpGetStreamUptoCard : Claim7 := { stood := { row := fnJpGetStreamUptoRow, standIns := [], harness := (true, "8286c8407c6a5b4459ed3cb8b81de1337a202a27f895032138ac5c3bccd0cfe1"), looks := true }, kinds := [], alts := [], laidByText := true, laidKinds := [.data, .data, .data, .sentinel, .sentinel, .data, .data, .sentinel, .sentinel, .sentinel, .sentinel, .sentinel, .sentinel, .sentinel], laidTests := true, laidLooks := .later }
def FnJpGetStreamUptoCardSaid : Prop := Claim7.holds Tryd.pinned (.plain (OpenSpec.upto fnJpGetStreamSpec)) fnJpGetStreamUptoCard

/-- THE SECOND FORM's CARD OF 'laws.FnJpPaths'. -/
def fnJpPathsUptoCard : Claim7 := { stood := { row := fnJpPathsUptoRow, standIns := [], harness := (true, "8286c8407c6a5b4459ed3cb8b81de1337a202a27f895032138ac5c3bccd0cfe1"), looks := true }, kinds := [], alts := [], laidByText := true, laidKinds := [.data, .data, .data, .sentinel, .sentinel, .data, .data, .sentinel, .sentinel, .sentinel, .sentinel, .sentinel, .sentinel, .sentinel], laidTests := true, laidLooks := .later }
def FnJpPathsUptoCardSaid : Prop := Claim7.holds Tryd.pinned (.plain (OpenSpec.upto fnJpPathsSpec)) fnJpPathsUptoCard

/-- THE SECOND FORM's CARD OF 'laws.FnJrGetCut'. -/
def fnJrGetCutUptoCard : Claim7 := { stood := { row := fnJrGetCutUptoRow, standIns := [], harness := (true, "8286c8407c6a5b4459ed3cb8b81de1337a202a27f895032138ac5c3bccd0cfe1"), looks := true }, kinds := [], alts := [], laidByText := true, laidKinds := [.data, .data, .data, .sentinel, .sentinel, .data, .data, .sentinel, .sentinel, .sentinel, .sentinel, .sentinel, .sentinel, .sentinel, .sentinel, .sentinel, .sentinel], laidTests := true, laidLooks := .later }
def FnJrGetCutUptoCardSaid : Prop := Claim7.holds Tryd.pinned (.plain (OpenSpec.upto fnJrGetCutSpec)) fnJrGetCutUptoCard

/-- THE SECOND FORM's CARD OF 'laws.FnJpConfigGet'. -/
def fnJpConfigGetUptoCard : Claim7 := { stood := { row := fnJpConfigGetUptoRow, standIns := [], harness := (true, "8286c8407c6a5b4459ed3cb8b81de1337a202a27f895032138ac5c3bccd0cfe1"), looks := true }, kinds := [], alts := [], laidByText := true, laidKinds := [.data, .data, .data, .sentinel, .sentinel, .data, .sentinel, .sentinel, .sentinel, .sentinel, .sentinel, .sentinel, .sentinel, .sentinel, .sentinel], laidTests := true, laidLooks := .later }
def FnJpConfigGetUptoCardSaid : Prop := Claim7.holds Tryd.pinned (.plain (OpenSpec.upto fnJpConfigGetSpec)) fnJpConfigGetUptoCard

/-- THE SECOND FORM's CARD OF 'laws.FnJpDeleteRow'. -/
def fnJpDeleteRowUptoCard : Claim7 := { stood := { row := fnJpDeleteRowUptoRow, standIns := [], harness := (true, "8286c8407c6a5b4459ed3cb8b81de1337a202a27f895032138ac5c3bccd0cfe1"), looks := true }, kinds := [], alts := [], laidByText := true, laidKinds := [.data, .data, .data, .sentinel, .sentinel, .data, .data, .sentinel, .sentinel, .sentinel, .sentinel, .sentinel, .sentinel, .sentinel], laidTests := true, laidLooks := .later }
def FnJpDeleteRowUptoCardSaid : Prop := Claim7.holds Tryd.pinned (.plain (OpenSpec.upto fnJpDeleteRowSpec)) fnJpDeleteRowUptoCard

/-- THE SECOND FORM's CARD OF 'laws.FnJpSetBack'. -/
def fnJpSetBackUptoCard : Claim7 := { stood := { row := fnJpSetBackUptoRow, standIns := [], harness := (true, "8286c8407c6a5b4459ed3cb8b81de1337a202a27f895032138ac5c3bccd0cfe1"), looks := true }, kinds := [], alts := [], laidByText := true, laidKinds := [.data, .data, .data, .sentinel, .sentinel, .data, .data, .sentinel, .sentinel, .sentinel, .sentinel, .sentinel, .sentinel, .sentinel], laidTests := true, laidLooks := .later }
def FnJpSetBackUptoCardSaid : Prop := Claim7.holds Tryd.pinned (.plain (OpenSpec.upto fnJpSetBackSpec)) fnJpSetBackUptoCard
end Rows
end Go.Proofs.YtcjgneomcnholaaDoor
