/-
  DERIVED. GIVEN WITH THE SEED: THE CARDS: each row of YtnhnkpgbdpbafaaDoorRows.lean that lists a variable, with what it lists TIED to the program's text (the seventh form; the later family's looks); each row that meets fmt, with fmt's text TOLD by the authors' own Lean function (tested against real Go, not proved from fmt's source: count such statements apart). THE CARD IS WHAT COUNTS. Prove the row's statement (the work); the ties are given (YtnhnkpgbdpbafaaDoorTie.lean); close each card by the builder's one call (the guide's Derived/Test/ToyasCard.lean, 'card_holds'). Laid BY PROGRAM, IN A SANDBOX (cutbox-door.mjs). By AI agents, Wed Nov 11 2026. No macro, syntax, notation, axiom, sorry.
-/
import Derived.Test.YtnhnkpgbdpbafaaDoorRows
import GoSem.ClaimSeven
namespace Go.Proofs.YtnhnkpgbdpbafaaDoor
namespace Rows

/-- THE TIED CARD OF 'laws.FnGjLessStrings'. -/
def fnGjLessStringsCard : Claim7 := { stood := { row := fnGjLessStringsRow, standIns := [], harness := (true, "96aba6cb9b8bfe6950a0c883ed91f84592c7f4b641c35fb9eefbd92fe45ccbc0"), looks := true }, kinds := [], alts := [], laidByText := true, laidKinds := [.data, .data, .widerDeep, .widerDeep, .data, .data, .data, .data, .data, .sentinel, .sentinel, .pinned, .pinned], laidTests := true, laidLooks := .later }
def FnGjLessStringsCardSaid : Prop := Claim7.holds Tryd.pinned (.plain (OpenSpec.ofChange fnGjLessStringsSpec)) fnGjLessStringsCard

/-- THE SECOND FORM's CARD OF 'laws.FnGjLessStrings'. -/
def fnGjLessStringsUptoCard : Claim7 := { stood := { row := fnGjLessStringsUptoRow, standIns := [], harness := (true, "96aba6cb9b8bfe6950a0c883ed91f84592c7f4b641c35fb9eefbd92fe45ccbc0"), looks := true }, kinds := [], alts := [], laidByText := true, laidKinds := [.data, .data, .widerDeep, .widerDeep, .data, .data, .data, .data, .data, .sentinel, .sentinel, .pinned, .pinned], laidTests := true, laidLooks := .later }
def FnGjLessStringsUptoCardSaid : Prop := Claim7.holds Tryd.pinned (.plain (OpenSpec.upto fnGjLessStringsSpec)) fnGjLessStringsUptoCard
end Rows
end Go.Proofs.YtnhnkpgbdpbafaaDoor
