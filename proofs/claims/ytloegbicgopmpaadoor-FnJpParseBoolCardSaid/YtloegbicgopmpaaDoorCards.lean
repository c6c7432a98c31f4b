/-
  DERIVED. GIVEN WITH THE SEED: THE CARDS: each row of YtloegbicgopmpaaDoorRows.lean that lists a variable, with what it lists TIED to the program's text (the seventh form; the later family's looks); each row that meets fmt, with fmt's text TOLD by the authors' own Lean function (tested against real Go, not proved from fmt's source: count such statements apart). THE CARD IS WHAT COUNTS. Prove the row's statement (the work); the ties are given (YtloegbicgopmpaaDoorTie.lean); close each card by the builder's one call (the guide's Derived/Test/ToyasCard.lean, 'card_holds'). Laid BY PROGRAM, IN A SANDBOX (cutbox-door.mjs). By AI agents, Wed Nov 11 2026. No macro, syntax, notation, axiom, sorry.
-/
import Derived.Test.YtloegbicgopmpaaDoorRows
import GoSem.ClaimSeven
namespace Go.Proofs.YtloegbicgopmpaaDoor
namespace Rows

/-- THE TIED CARD OF 'laws.FnJpParseBool'. -/
def fnJpParseBoolCard : Claim7 := { stood := { row := fnJpParseBoolRow, standIns := [], harness := (true, "b4de6b98a526202324dc49b4e00f54af7773d9fccb69be23e08204e18aefd9dc"), looks := false }, kinds := [], alts := [], laidByText := true, laidKinds := [.sentinel], laidTests := true, laidLooks := .later }
def FnJpParseBoolCardSaid : Prop := Claim7.holds Tryd.pinned (.plain (OpenSpec.ofChange fnJpParseBoolSpec)) fnJpParseBoolCard

/-- THE SECOND FORM's CARD OF 'laws.FnJpParseBool'. -/
def fnJpParseBoolUptoCard : Claim7 := { stood := { row := fnJpParseBoolUptoRow, standIns := [], harness := (true, "b4de6b98a526202324dc49b4e00f54af7773d9fccb69be23e08204e18aefd9dc"), looks := false }, kinds := [], alts := [], laidByText := true, laidKinds := [.sentinel], laidTests := true, laidLooks := .later }
def FnJpParseBoolUptoCardSaid : Prop := Claim7.holds Tryd.pinned (.plain (OpenSpec.upto fnJpParseBoolSpec)) fnJpParseBoolUptoCard
end Rows
end Go.Proofs.YtloegbicgopmpaaDoor
