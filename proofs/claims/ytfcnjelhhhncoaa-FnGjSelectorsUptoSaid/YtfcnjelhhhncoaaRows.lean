/-
  NARROWER THAN 'FOR EVERY INPUT', by the rows' own cells (each row's printed sentence says how): FnPaMatchesTurned: loops.
  DERIVED. THE GIVEN ROWS OF THIS SEAT. 2 by the template 'for every input the law returns true; each argument reads behind the call as it read before'; 0 by the template 'total and deterministic' (their statements: YtfcnjelhhhncoaaTotals.lean).
  GIVEN WITH THE SEED: the statements are not yours to turn. If you find one false, say at which input.
  Laid BY PROGRAM, IN A SANDBOX (cutbox-rows.mjs): the forced cells as the released guide's own fill.sh prints them over the translation 3368ab8bee5d0f2d… (all of the seat's roots in one cut). By AI agents, Wed Nov 11 2026. No macro, syntax, notation, axiom, sorry.
-/
import Derived.Test.YtfcnjelhhhncoaaChecked
import GoSem.Claim
import GoSem.ClaimJoined
import GoSem.ClaimMapViews
import Derived.JoinedTies
import Derived.KernelRfl
namespace Go.Proofs.Ytfcnjelhhhncoaa
/- THE CELL 'sum', in the pinned program and in every row, IS THE sha256 OF THE DUMP (.gsa) THAT YtfcnjelhhhncoaaProg.lean LOADS. Nothing in Lean hashes anything: it is a label: what it is worth is what the hold of that sum in a sandbox is worth. -/
noncomputable def Try.pinned : Pinned := { name := "ytfcnjelhhhncoaa", sum := "3368ab8bee5d0f2ded132f0310971599f7d4b99ac2a0180c0942982cb08c31f0", checked := Try.checked }
namespace Rows
def none {H : Type} : Left H := { results := [], args := [] }

/-- 'laws.FnGjSelectors': WHATEVER THE INPUT: true; the input reads as it did. -/
def fnGjSelectorsSpec : ChangeSpec := { name := "fnGjSelectors", fn := fun _ => fun
  | [d1, d2, d3, d4] => { results := [.lit (.bool true)], args := [d1, d2, d3, d4] }
  | _ => none }
def fnGjSelectorsRow : OpenClaim := { program := "ytfcnjelhhhncoaa", sum := "3368ab8bee5d0f2ded132f0310971599f7d4b99ac2a0180c0942982cb08c31f0", func := "pub-tetrapla/laws.FnGjSelectors", spec := "fnGjSelectors", unfollowed := true, recurses := true, apart := false }
def FnGjSelectorsSaid : Prop := fnGjSelectorsRow.holds Try.pinned (OpenSpec.ofChange fnGjSelectorsSpec)

/-- ITS FALSE NEIGHBOUR: 'it returns false'. Refute it at one input. -/
def fnGjSelectorsWrong : ChangeSpec := { name := "fnGjSelectors", fn := fun _ => fun
  | [d1, d2, d3, d4] => { results := [.lit (.bool false)], args := [d1, d2, d3, d4] }
  | _ => none }
def FnGjSelectorsWrongFalsely : Prop := fnGjSelectorsRow.holds Try.pinned (OpenSpec.ofChange fnGjSelectorsWrong)

/-- 'laws.FnPaMatchesTurned': WHATEVER THE INPUT: true; the input reads as it did. -/
def fnPaMatchesTurnedSpec : ChangeSpec := { name := "fnPaMatchesTurned", fn := fun _ => fun
  | [d1, d2] => { results := [.lit (.bool true)], args := [d1, d2] }
  | _ => none }
def fnPaMatchesTurnedRow : OpenClaim := { program := "ytfcnjelhhhncoaa", sum := "3368ab8bee5d0f2ded132f0310971599f7d4b99ac2a0180c0942982cb08c31f0", func := "pub-tetrapla/laws.FnPaMatchesTurned", spec := "fnPaMatchesTurned", recurses := true, loops := true, apart := false }
def FnPaMatchesTurnedSaid : Prop := fnPaMatchesTurnedRow.holds Try.pinned (OpenSpec.ofChange fnPaMatchesTurnedSpec)

/-- ITS FALSE NEIGHBOUR: 'it returns false'. Refute it at one input. -/
def fnPaMatchesTurnedWrong : ChangeSpec := { name := "fnPaMatchesTurned", fn := fun _ => fun
  | [d1, d2] => { results := [.lit (.bool false)], args := [d1, d2] }
  | _ => none }
def FnPaMatchesTurnedWrongFalsely : Prop := fnPaMatchesTurnedRow.holds Try.pinned (OpenSpec.ofChange fnPaMatchesTurnedWrong)

/- THE SECOND FORM. 'bulk': how many values and letters a reading holds, each counted each time it is reached (what is shared counts as often as it is met; a slice's spare places count too). A statement '..UptoSaid' is the law's where the arguments, and the package variables that the reading takes, are together of bulk at most 1048576: NARROWER than '..Said'. Prove '..Said' where nothing that the law and all that it calls make is longer than what came in: it says more and counts as full. Else prove '..UptoSaid'. A law counts once. -/
mutual
def uptoBulk {H : Type} : DataW H → Nat
  | .lit (.string bytes) => bytes.length + 1
  | .lit _ => 1
  | .nil => 1
  | .ptr d => uptoBulk d + 1
  | .slice elems spare => uptoBulkAll elems + uptoBulkAll spare + 1
  | .agg parts => uptoBulkAll parts + 1
  | .iface _ d => uptoBulk d + 1
  | .map entries => uptoBulkEntries entries + 1
  | .held _ => 1
def uptoBulkAll {H : Type} : List (DataW H) → Nat
  | [] => 0
  | d :: r => uptoBulk d + uptoBulkAll r
def uptoBulkEntries {H : Type} : List (Lit × DataW H) → Nat
  | [] => 0
  | x :: r => uptoBulkEntry x + uptoBulkEntries r
def uptoBulkEntry {H : Type} : Lit × DataW H → Nat
  | (.string bytes, d) => bytes.length + uptoBulk d + 1
  | (_, d) => uptoBulk d + 1
 end
def uptoSmall : (H : Type) → List (DataW H) → Bool := fun _ ds => decide (uptoBulkAll ds ≤ 1048576)
def OpenSpec.upto (s : _root_.Go.ChangeSpec) : _root_.Go.OpenSpec := { _root_.Go.OpenSpec.ofChange s with cond := some uptoSmall }

/-- 'laws.FnGjSelectors', WHERE WHAT IT READS IS OF BULK AT MOST 1048576: true; the input reads as it did. -/
def fnGjSelectorsUptoRow : OpenClaim := { program := "ytfcnjelhhhncoaa", sum := "3368ab8bee5d0f2ded132f0310971599f7d4b99ac2a0180c0942982cb08c31f0", func := "pub-tetrapla/laws.FnGjSelectors", spec := "fnGjSelectors", unfollowed := true, recurses := true, apart := false, narrowed := true }
def FnGjSelectorsUptoSaid : Prop := fnGjSelectorsUptoRow.holds Try.pinned (OpenSpec.upto fnGjSelectorsSpec)

/-- 'laws.FnPaMatchesTurned', WHERE WHAT IT READS IS OF BULK AT MOST 1048576: true; the input reads as it did. -/
def fnPaMatchesTurnedUptoRow : OpenClaim := { program := "ytfcnjelhhhncoaa", sum := "3368ab8bee5d0f2ded132f0310971599f7d4b99ac2a0180c0942982cb08c31f0", func := "pub-tetrapla/laws.FnPaMatchesTurned", spec := "fnPaMatchesTurned", recurses := true, loops := true, apart := false, narrowed := true }
def FnPaMatchesTurnedUptoSaid : Prop := fnPaMatchesTurnedUptoRow.holds Try.pinned (OpenSpec.upto fnPaMatchesTurnedSpec)

end Rows
end Go.Proofs.Ytfcnjelhhhncoaa
