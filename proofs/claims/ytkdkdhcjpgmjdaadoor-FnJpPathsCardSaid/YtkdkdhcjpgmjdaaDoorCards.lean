/-
  DERIVED. GIVEN WITH THE SEED: THE CARDS: each row of YtkdkdhcjpgmjdaaDoorRows.lean that lists a variable, with what it lists TIED to the program's text (the seventh form; the later family's looks); each row that meets fmt, with fmt's text TOLD by the authors' own Lean function (tested against real Go, not proved from fmt's source: count such statements apart). THE CARD IS WHAT COUNTS. Prove the row's statement (the work); the ties are given (YtkdkdhcjpgmjdaaDoorTie.lean); close each card by the builder's one call (the guide's Derived/Test/ToyasCard.lean, 'card_holds'). Laid BY PROGRAM, IN A SANDBOX (cutbox-door.mjs). By AI agents, Wed Nov 11 2026. No macro, syntax, notation, axiom, sorry.
-/
import Derived.Test.YtkdkdhcjpgmjdaaDoorRows
import GoSem.ClaimSeven
namespace Go.Proofs.YtkdkdhcjpgmjdaaDoor
namespace Rows

/-- THE TIED CARD OF 'laws.FnJpPaths'. -/
def fnJpPathsCard : Claim7 := { stood := { row := fnJpPathsRow, standIns := [], harness := (true, "45e86692f74b928bd6b87aac831c1160593c97dce3eabeeb787dea0b6ee559dd"), looks := true }, kinds := [], alts := [], laidByText := true, laidKinds := [.data, .data, .data, .sentinel, .sentinel, .data, .data, .sentinel, .sentinel, .sentinel, .sentinel, .sentinel, .sentinel, .sentinel], laidTests := true, laidLooks := .later }
def FnJpPathsCardSaid : Prop := Claim7.holds Tryd.pinned (.plain (OpenSpec.ofChange fnJpPathsSpec)) fnJpPathsCard

/-- THE TIED CARD OF 'laws.FnJpDeleteRow'. -/
def fnJpDeleteRowCard : Claim7 := { stood := { row := fnJpDeleteRowRow, standIns := [], harness := (true, "45e86692f74b928bd6b87aac831c1160593c97dce3eabeeb787dea0b6ee559dd"), looks := true }, kinds := [], alts := [], laidByText := true, laidKinds := [.data, .data, .data, .sentinel, .sentinel, .data, .data, .sentinel, .sentinel, .sentinel, .sentinel, .sentinel, .sentinel, .sentinel], laidTests := true, laidLooks := .later }
def FnJpDeleteRowCardSaid : Prop := Claim7.holds Tryd.pinned (.plain (OpenSpec.ofChange fnJpDeleteRowSpec)) fnJpDeleteRowCard

/-- THE SECOND FORM's CARD OF 'laws.FnJpPaths'. -/
def fnJpPathsUptoCard : Claim7 := { stood := { row := fnJpPathsUptoRow, standIns := [], harness := (true, "45e86692f74b928bd6b87aac831c1160593c97dce3eabeeb787dea0b6ee559dd"), looks := true }, kinds := [], alts := [], laidByText := true, laidKinds := [.data, .data, .data, .sentinel, .sentinel, .data, .data, .sentinel, .sentinel, .sentinel, .sentinel, .sentinel, .sentinel, .sentinel], laidTests := true, laidLooks := .later }
def FnJpPathsUptoCardSaid : Prop := Claim7.holds Tryd.pinned (.plain (OpenSpec.upto fnJpPathsSpec)) fnJpPathsUptoCard

/-- THE SECOND FORM's CARD OF 'laws.FnJpDeleteRow'. -/
def fnJpDeleteRowUptoCard : Claim7 := { stood := { row := fnJpDeleteRowUptoRow, standIns := [], harness := (true, "45e86692f74b928bd6b87aac831c1160593c97dce3eabeeb787dea0b6ee559dd"), looks := true }, kinds := [], alts := [], laidByText := true, laidKinds := [.data, .data, .data, .sentinel, .sentinel, .data, .data, .sentinel, .sentinel, .sentinel, .sentinel, .sentinel, .sentinel, .sentinel], laidTests := true, laidLooks := .later }
def FnJpDeleteRowUptoCardSaid : Prop := Claim7.holds Tryd.pinned (.plain (OpenSpec.upto fnJpDeleteRowSpec)) fnJpDeleteRowUptoCard
end Rows
end Go.Proofs.YtkdkdhcjpgmjdaaDoor
