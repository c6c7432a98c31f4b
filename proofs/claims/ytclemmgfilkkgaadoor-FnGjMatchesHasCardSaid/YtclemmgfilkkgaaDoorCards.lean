/-
  DERIVED. GIVEN WITH THE SEED: THE CARDS: each row of YtclemmgfilkkgaaDoorRows.lean that lists a variable, with what it lists TIED to the program's text (the seventh form; the later family's looks); each row that meets fmt, with fmt's text TOLD by the authors' own Lean function (tested against real Go, not proved from fmt's source: count such statements apart). THE CARD IS WHAT COUNTS. Prove the row's statement (the work); the ties are given (YtclemmgfilkkgaaDoorTie.lean); close each card by the builder's one call (the guide's Derived/Test/ToyasCard.lean, 'card_holds'). Laid BY PROGRAM, IN A SANDBOX (cutbox-door.mjs). By AI agents, Wed Nov 11 2026. No macro, syntax, notation, axiom, sorry.
-/
import Derived.Test.YtclemmgfilkkgaaDoorRows
import GoSem.ClaimSeven
namespace Go.Proofs.YtclemmgfilkkgaaDoor
namespace Rows

/-- THE TIED CARD OF 'laws.FnGjLessStrings'. -/
def fnGjLessStringsCard : Claim7 := { stood := { row := fnGjLessStringsRow, standIns := [], harness := (true, "eee098f80c9849f55dd8aafbbd630279080b0f36bc7bdbf5892cfa93773f7313"), looks := true }, kinds := [], alts := [], laidByText := true, laidKinds := [.data, .data, .widerDeep, .widerDeep, .data, .data, .data, .data, .data, .sentinel, .sentinel, .pinned, .pinned], laidTests := true, laidLooks := .later }
def FnGjLessStringsCardSaid : Prop := Claim7.holds Tryd.pinned (.plain (OpenSpec.ofChange fnGjLessStringsSpec)) fnGjLessStringsCard

/-- THE TIED CARD OF 'laws.FnGjMatchesHas'. -/
def fnGjMatchesHasCard : Claim7 := { stood := { row := fnGjMatchesHasRow, standIns := [], harness := (true, "eee098f80c9849f55dd8aafbbd630279080b0f36bc7bdbf5892cfa93773f7313"), looks := true }, kinds := [], alts := [], laidByText := true, laidKinds := [.data, .data, .widerDeep, .widerDeep, .data, .data, .data, .data, .data, .data, .sentinel, .sentinel, .pinned, .pinned, .pinned], laidTests := true, laidLooks := .later }
def FnGjMatchesHasCardSaid : Prop := Claim7.holds Tryd.pinned (.plain (OpenSpec.ofChange fnGjMatchesHasSpec)) fnGjMatchesHasCard

/-- THE SECOND FORM's CARD OF 'laws.FnGjLessStrings'. -/
def fnGjLessStringsUptoCard : Claim7 := { stood := { row := fnGjLessStringsUptoRow, standIns := [], harness := (true, "eee098f80c9849f55dd8aafbbd630279080b0f36bc7bdbf5892cfa93773f7313"), looks := true }, kinds := [], alts := [], laidByText := true, laidKinds := [.data, .data, .widerDeep, .widerDeep, .data, .data, .data, .data, .data, .sentinel, .sentinel, .pinned, .pinned], laidTests := true, laidLooks := .later }
def FnGjLessStringsUptoCardSaid : Prop := Claim7.holds Tryd.pinned (.plain (OpenSpec.upto fnGjLessStringsSpec)) fnGjLessStringsUptoCard

/-- THE SECOND FORM's CARD OF 'laws.FnGjMatchesHas'. -/
def fnGjMatchesHasUptoCard : Claim7 := { stood := { row := fnGjMatchesHasUptoRow, standIns := [], harness := (true, "eee098f80c9849f55dd8aafbbd630279080b0f36bc7bdbf5892cfa93773f7313"), looks := true }, kinds := [], alts := [], laidByText := true, laidKinds := [.data, .data, .widerDeep, .widerDeep, .data, .data, .data, .data, .data, .data, .sentinel, .sentinel, .pinned, .pinned, .pinned], laidTests := true, laidLooks := .later }
def FnGjMatchesHasUptoCardSaid : Prop := Claim7.holds Tryd.pinned (.plain (OpenSpec.upto fnGjMatchesHasSpec)) fnGjMatchesHasUptoCard
end Rows
end Go.Proofs.YtclemmgfilkkgaaDoor
