/-
  DERIVED. GIVEN WITH THE SEED: THE CARDS: each row of YtmpjkhcddfdboaaDoorRows.lean that lists a variable, with what it lists TIED to the program's text (the seventh form; the later family's looks); each row that meets fmt, with fmt's text TOLD by the authors' own Lean function (tested against real Go, not proved from fmt's source: count such statements apart). THE CARD IS WHAT COUNTS. Prove the row's statement (the work); the ties are given (YtmpjkhcddfdboaaDoorTie.lean); close each card by the builder's one call (the guide's Derived/Test/ToyasCard.lean, 'card_holds'). Laid BY PROGRAM, IN A SANDBOX (cutbox-door.mjs). By AI agents, Wed Nov 11 2026. No macro, syntax, notation, axiom, sorry.
-/
import Derived.Test.YtmpjkhcddfdboaaDoorRows
import GoSem.ClaimSeven
namespace Go.Proofs.YtmpjkhcddfdboaaDoor
namespace Rows

/-- THE TIED CARD OF 'laws.FnMtPlain'. -/
def fnMtPlainCard : Claim7 := { stood := { row := fnMtPlainRow, standIns := [], harness := (true, "674c083a7ca4a466948860b25309306dbedd0c106e4b2fde3f587a89dc1e5e80"), looks := false }, kinds := [], alts := [], laidByText := true, laidKinds := [.data, .pinned], laidTests := true, laidLooks := .later }
def FnMtPlainCardSaid : Prop := Claim7.holds Tryd.pinned (.plain (OpenSpec.ofChange fnMtPlainSpec)) fnMtPlainCard

/-- THE TIED CARD OF 'laws.FnMtSplit'. -/
def fnMtSplitCard : Claim7 := { stood := { row := fnMtSplitRow, standIns := [], harness := (true, "674c083a7ca4a466948860b25309306dbedd0c106e4b2fde3f587a89dc1e5e80"), looks := false }, kinds := [], alts := [], laidByText := true, laidKinds := [.data, .pinned], laidTests := true, laidLooks := .later }
def FnMtSplitCardSaid : Prop := Claim7.holds Tryd.pinned (.plain (OpenSpec.ofChange fnMtSplitSpec)) fnMtSplitCard

/-- THE SECOND FORM's CARD OF 'laws.FnMtPlain'. -/
def fnMtPlainUptoCard : Claim7 := { stood := { row := fnMtPlainUptoRow, standIns := [], harness := (true, "674c083a7ca4a466948860b25309306dbedd0c106e4b2fde3f587a89dc1e5e80"), looks := false }, kinds := [], alts := [], laidByText := true, laidKinds := [.data, .pinned], laidTests := true, laidLooks := .later }
def FnMtPlainUptoCardSaid : Prop := Claim7.holds Tryd.pinned (.plain (OpenSpec.upto fnMtPlainSpec)) fnMtPlainUptoCard

/-- THE SECOND FORM's CARD OF 'laws.FnMtSplit'. -/
def fnMtSplitUptoCard : Claim7 := { stood := { row := fnMtSplitUptoRow, standIns := [], harness := (true, "674c083a7ca4a466948860b25309306dbedd0c106e4b2fde3f587a89dc1e5e80"), looks := false }, kinds := [], alts := [], laidByText := true, laidKinds := [.data, .pinned], laidTests := true, laidLooks := .later }
def FnMtSplitUptoCardSaid : Prop := Claim7.holds Tryd.pinned (.plain (OpenSpec.upto fnMtSplitSpec)) fnMtSplitUptoCard
end Rows
end Go.Proofs.YtmpjkhcddfdboaaDoor
