/-
  NARROWER THAN 'FOR EVERY INPUT', by the rows' own cells (each row's printed sentence says how): FnJpParseBool: laid.
  DERIVED. THE GIVEN ROWS OF THIS SEAT. 1 by the template 'for every input the law returns true; each argument reads behind the call as it read before'; 0 by the template 'total and deterministic' (their statements: YtloegbicgopmpaaDoorTotals.lean).
  GIVEN WITH THE SEED: the statements are not yours to turn. If you find one false, say at which input.
  Laid BY PROGRAM, IN A SANDBOX (cutbox-rows.mjs): the forced cells as the released guide's own fill.sh prints them over the translation ca172f3b91a9fbd2… (all of the seat's roots in one cut). By AI agents, Wed Nov 11 2026. No macro, syntax, notation, axiom, sorry.
-/
import Derived.Test.YtloegbicgopmpaaDoorChecked
import GoSem.Claim
import GoSem.ClaimJoined
import GoSem.ClaimMapViews
import Derived.JoinedTies
import Derived.KernelRfl
namespace Go.Proofs.YtloegbicgopmpaaDoor
/- THE CELL 'sum', in the pinned program and in every row, IS THE sha256 OF THE DUMP (.gsa) THAT YtloegbicgopmpaaDoorProg.lean LOADS. Nothing in Lean hashes anything: it is a label: what it is worth is what the hold of that sum in a sandbox is worth. -/
noncomputable def Tryd.pinned : Pinned := { name := "ytloegbicgopmpaadoor", sum := "ca172f3b91a9fbd2d773d714b8cc2263869b83b5651afcf02258b20c0b555533", checked := Tryd.checked }
namespace Rows
def none {H : Type} : Left H := { results := [], args := [] }

/- WHAT THE LISTED PACKAGE-LEVEL VARIABLES READ AS WHEN THE CALL BEGINS. Each datum BY PROGRAM (the guide's laid-datum.mjs) off the statement by which the dump's own 'gosem.cut.vars' lays the variable. In a bare row this is a premise. The card (YtloegbicgopmpaaDoorCards.lean) ties it to the program's text. -/
def laid_pub_tetrapla_pub_jsonparser_MalformedValueError {H : Type} : DataW H := .iface "*errors.errorString" (.ptr (.agg [.lit (.string [86, 97, 108, 117, 101, 32, 108, 111, 111, 107, 115, 32, 108, 105, 107, 101, 32, 78, 117, 109, 98, 101, 114, 47, 66, 111, 111, 108, 101, 97, 110, 47, 78, 111, 110, 101, 44, 32, 98, 117, 116, 32, 99, 97, 110, 39, 116, 32, 102, 105, 110, 100, 32, 105, 116, 115, 32, 101, 110, 100, 58, 32, 39, 44, 39, 32, 111, 114, 32, 39, 125, 39, 32, 115, 121, 109, 98, 111, 108])]))

/-- 'laws.FnJpParseBool': WHATEVER THE INPUT: true; the input reads as it did. -/
def fnJpParseBoolSpec : ChangeSpec := { name := "fnJpParseBool", fn := fun _ => fun
  | [d] => { results := [.lit (.bool true)], args := [d] }
  | _ => none }
def fnJpParseBoolRow : OpenClaim := { program := "ytloegbicgopmpaadoor", sum := "ca172f3b91a9fbd2d773d714b8cc2263869b83b5651afcf02258b20c0b555533", func := "pub-tetrapla/laws.FnJpParseBool", spec := "fnJpParseBool", named := ["pub-tetrapla/pub/jsonparser.MalformedValueError"], apart := false, laid := [("pub-tetrapla/pub/jsonparser.MalformedValueError", laid_pub_tetrapla_pub_jsonparser_MalformedValueError)] }
def FnJpParseBoolSaid : Prop := fnJpParseBoolRow.holds Tryd.pinned (OpenSpec.ofChange fnJpParseBoolSpec)

/-- ITS FALSE NEIGHBOUR: 'it returns false'. Refute it at one input. -/
def fnJpParseBoolWrong : ChangeSpec := { name := "fnJpParseBool", fn := fun _ => fun
  | [d] => { results := [.lit (.bool false)], args := [d] }
  | _ => none }
def FnJpParseBoolWrongFalsely : Prop := fnJpParseBoolRow.holds Tryd.pinned (OpenSpec.ofChange fnJpParseBoolWrong)

/- THE SECOND FORM. 'bulk': how many values and letters a reading holds, each counted each time it is reached (what is shared counts as often as it is met; a slice's spare places count too). A statement '..UptoSaid' is the law's where the arguments, and the package variables that the reading takes, are together of bulk at most 1048576: NARROWER than '..Said'. Prove '..Said' where nothing that the law and all that it calls make is longer than what came in: it says more and counts as full. Else prove '..UptoSaid'. A law counts once. -/
mutual
def uptoBulk {H : Type} : DataW H → Nat
  | .lit (.string bytes) => bytes.length + 1
  | .lit _ => 1
  | .nil => 1
  | .ptr d => uptoBulk d + 1
  | .slice elems spare => uptoBulkAll elems + uptoBulkAll spare + 1
  | .agg parts => uptoBulkAll parts + 1
  | .iface _ d => uptoBulk d + 1
  | .map entries => uptoBulkEntries entries + 1
  | .held _ => 1
def uptoBulkAll {H : Type} : List (DataW H) → Nat
  | [] => 0
  | d :: r => uptoBulk d + uptoBulkAll r
def uptoBulkEntries {H : Type} : List (Lit × DataW H) → Nat
  | [] => 0
  | x :: r => uptoBulkEntry x + uptoBulkEntries r
def uptoBulkEntry {H : Type} : Lit × DataW H → Nat
  | (.string bytes, d) => bytes.length + uptoBulk d + 1
  | (_, d) => uptoBulk d + 1
 end
def uptoSmall : (H : Type) → List (DataW H) → Bool := fun _ ds => decide (uptoBulkAll ds ≤ 1048576)
def OpenSpec.upto (s : _root_.Go.ChangeSpec) : _root_.Go.OpenSpec := { _root_.Go.OpenSpec.ofChange s with cond := some uptoSmall }

/-- 'laws.FnJpParseBool', WHERE WHAT IT READS IS OF BULK AT MOST 1048576: true; the input reads as it did. -/
def fnJpParseBoolUptoRow : OpenClaim := { program := "ytloegbicgopmpaadoor", sum := "ca172f3b91a9fbd2d773d714b8cc2263869b83b5651afcf02258b20c0b555533", func := "pub-tetrapla/laws.FnJpParseBool", spec := "fnJpParseBool", named := ["pub-tetrapla/pub/jsonparser.MalformedValueError"], apart := false, laid := [("pub-tetrapla/pub/jsonparser.MalformedValueError", laid_pub_tetrapla_pub_jsonparser_MalformedValueError)], narrowed := true }
def FnJpParseBoolUptoSaid : Prop := fnJpParseBoolUptoRow.holds Tryd.pinned (OpenSpec.upto fnJpParseBoolSpec)

end Rows
end Go.Proofs.YtloegbicgopmpaaDoor
