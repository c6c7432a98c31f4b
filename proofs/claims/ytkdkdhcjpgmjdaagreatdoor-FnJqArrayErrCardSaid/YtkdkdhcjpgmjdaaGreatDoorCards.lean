/-
  DERIVED. GIVEN WITH THE SEED: THE CARDS: each row of YtkdkdhcjpgmjdaaGreatDoorRows.lean that lists a variable, with what it lists TIED to the program's text (the seventh form; the later family's looks); each row that meets fmt, with fmt's text TOLD by the authors' own Lean function (tested against real Go, not proved from fmt's source: count such statements apart). THE CARD IS WHAT COUNTS. Prove the row's statement (the work); the ties are given (YtkdkdhcjpgmjdaaGreatDoorTie.lean); close each card by the builder's one call (the guide's Derived/Test/ToyasCard.lean, 'card_holds'). Laid BY PROGRAM, IN A SANDBOX (cutbox-door.mjs). By AI agents, Wed Nov 11 2026. No macro, syntax, notation, axiom, sorry.
-/
import Derived.Test.YtkdkdhcjpgmjdaaGreatDoorRows
import GoSem.ClaimSeven
namespace Go.Proofs.YtkdkdhcjpgmjdaaGreatDoor
namespace Rows

/-- THE TIED CARD OF 'laws.FnJqArrayErr'. -/
def fnJqArrayErrCard : Claim7 := { stood := { row := fnJqArrayErrRow, standIns := [], harness := (true, "fea284f39aa83e3bd3190a5780202794bba983df43663596b4d7b5c4ca383081"), looks := true }, kinds := [], alts := [], laidByText := true, laidKinds := [.data, .data, .data, .sentinel, .sentinel, .sentinel, .data, .data, .sentinel, .sentinel, .sentinel, .sentinel, .sentinel, .sentinel, .sentinel, .sentinel], laidTests := true, laidLooks := .later }
def FnJqArrayErrCardSaid : Prop := Claim7.holds Tryz.pinned (.plain (OpenSpec.ofChange fnJqArrayErrSpec)) fnJqArrayErrCard

/-- THE TIED CARD OF 'laws.FnJqDeleteRoads'. -/
def fnJqDeleteRoadsCard : Claim7 := { stood := { row := fnJqDeleteRoadsRow, standIns := [], harness := (true, "fea284f39aa83e3bd3190a5780202794bba983df43663596b4d7b5c4ca383081"), looks := true }, kinds := [], alts := [], laidByText := true, laidKinds := [.data, .data, .data, .sentinel, .sentinel, .data, .data, .sentinel, .sentinel, .sentinel, .sentinel, .sentinel, .sentinel, .sentinel], laidTests := true, laidLooks := .later }
def FnJqDeleteRoadsCardSaid : Prop := Claim7.holds Tryz.pinned (.plain (OpenSpec.ofChange fnJqDeleteRoadsSpec)) fnJqDeleteRoadsCard

/-- THE TIED CARD OF 'laws.FnJqPathSet'. -/
def fnJqPathSetCard : Claim7 := { stood := { row := fnJqPathSetRow, standIns := [], harness := (true, "fea284f39aa83e3bd3190a5780202794bba983df43663596b4d7b5c4ca383081"), looks := true }, kinds := [], alts := [], laidByText := true, laidKinds := [.data, .data, .data, .sentinel, .sentinel, .data, .data, .sentinel, .sentinel, .sentinel, .sentinel, .sentinel, .sentinel, .sentinel, .sentinel, .sentinel, .sentinel], laidTests := true, laidLooks := .later }
def FnJqPathSetCardSaid : Prop := Claim7.holds Tryz.pinned (.plain (OpenSpec.ofChange fnJqPathSetSpec)) fnJqPathSetCard

/-- THE SECOND FORM's CARD OF 'laws.FnJqArrayErr'. -/
def fnJqArrayErrUptoCard : Claim7 := { stood := { row := fnJqArrayErrUptoRow, standIns := [], harness := (true, "fea284f39aa83e3bd3190a5780202794bba983df43663596b4d7b5c4ca383081"), looks := true }, kinds := [], alts := [], laidByText := true, laidKinds := [.data, .data, .data, .sentinel, .sentinel, .sentinel, .data, .data, .sentinel, .sentinel, .sentinel, .sentinel, .sentinel, .sentinel, .sentinel, .sentinel], laidTests := true, laidLooks := .later }
def FnJqArrayErrUptoCardSaid : Prop := Claim7.holds Tryz.pinned (.plain (OpenSpec.upto fnJqArrayErrSpec)) fnJqArrayErrUptoCard

/-- THE SECOND FORM's CARD OF 'laws.FnJqDeleteRoads'. -/
def fnJqDeleteRoadsUptoCard : Claim7 := { stood := { row := fnJqDeleteRoadsUptoRow, standIns := [], harness := (true, "fea284f39aa83e3bd3190a5780202794bba983df43663596b4d7b5c4ca383081"), looks := true }, kinds := [], alts := [], laidByText := true, laidKinds := [.data, .data, .data, .sentinel, .sentinel, .data, .data, .sentinel, .sentinel, .sentinel, .sentinel, .sentinel, .sentinel, .sentinel], laidTests := true, laidLooks := .later }
def FnJqDeleteRoadsUptoCardSaid : Prop := Claim7.holds Tryz.pinned (.plain (OpenSpec.upto fnJqDeleteRoadsSpec)) fnJqDeleteRoadsUptoCard

/-- THE SECOND FORM's CARD OF 'laws.FnJqPathSet'. -/
def fnJqPathSetUptoCard : Claim7 := { stood := { row := fnJqPathSetUptoRow, standIns := [], harness := (true, "fea284f39aa83e3bd3190a5780202794bba983df43663596b4d7b5c4ca383081"), looks := true }, kinds := [], alts := [], laidByText := true, laidKinds := [.data, .data, .data, .sentinel, .sentinel, .data, .data, .sentinel, .sentinel, .sentinel, .sentinel, .sentinel, .sentinel, .sentinel, .sentinel, .sentinel, .sentinel], laidTests := true, laidLooks := .later }
def FnJqPathSetUptoCardSaid : Prop := Claim7.holds Tryz.pinned (.plain (OpenSpec.upto fnJqPathSetSpec)) fnJqPathSetUptoCard
end Rows
end Go.Proofs.YtkdkdhcjpgmjdaaGreatDoor
