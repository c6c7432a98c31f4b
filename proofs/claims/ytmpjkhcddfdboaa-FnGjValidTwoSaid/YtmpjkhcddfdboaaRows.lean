/-
  No cell of these rows narrows 'for every input' (looked for: loops, veiled, ifaces, maps, wideKeys, modest, calm, conditions, laid).
  DERIVED. THE GIVEN ROWS OF THIS SEAT. 2 by the template 'for every input the law returns true; each argument reads behind the call as it read before'; 0 by the template 'total and deterministic' (their statements: YtmpjkhcddfdboaaTotals.lean).
  GIVEN WITH THE SEED: the statements are not yours to turn. If you find one false, say at which input.
  Laid BY PROGRAM, IN A SANDBOX (cutbox-rows.mjs): the forced cells as the released guide's own fill.sh prints them over the translation 1e737334458ae7e9… (all of the seat's roots in one cut). By AI agents, Wed Nov 11 2026. No macro, syntax, notation, axiom, sorry.
-/
import Derived.Test.YtmpjkhcddfdboaaChecked
import GoSem.Claim
import GoSem.ClaimJoined
import GoSem.ClaimMapViews
import Derived.JoinedTies
import Derived.KernelRfl
namespace Go.Proofs.Ytmpjkhcddfdboaa
/- THE CELL 'sum', in the pinned program and in every row, IS THE sha256 OF THE DUMP (.gsa) THAT YtmpjkhcddfdboaaProg.lean LOADS. Nothing in Lean hashes anything: it is a label: what it is worth is what the hold of that sum in a sandbox is worth. -/
noncomputable def Try.pinned : Pinned := { name := "ytmpjkhcddfdboaa", sum := "1e737334458ae7e9bb6529bc7b1bced7b40deac49bb6da5ce1103f4894899537", checked := Try.checked }
namespace Rows
def none {H : Type} : Left H := { results := [], args := [] }

/-- 'laws.FnGjValid': WHATEVER THE INPUT: true; the input reads as it did. -/
def fnGjValidSpec : ChangeSpec := { name := "fnGjValid", fn := fun _ => fun
  | [d] => { results := [.lit (.bool true)], args := [d] }
  | _ => none }
def fnGjValidRow : OpenClaim := { program := "ytmpjkhcddfdboaa", sum := "1e737334458ae7e9bb6529bc7b1bced7b40deac49bb6da5ce1103f4894899537", func := "pub-tetrapla/laws.FnGjValid", spec := "fnGjValid", recurses := true, apart := false }
def FnGjValidSaid : Prop := fnGjValidRow.holds Try.pinned (OpenSpec.ofChange fnGjValidSpec)

/-- ITS FALSE NEIGHBOUR: 'it returns false'. Refute it at one input. -/
def fnGjValidWrong : ChangeSpec := { name := "fnGjValid", fn := fun _ => fun
  | [d] => { results := [.lit (.bool false)], args := [d] }
  | _ => none }
def FnGjValidWrongFalsely : Prop := fnGjValidRow.holds Try.pinned (OpenSpec.ofChange fnGjValidWrong)

/-- 'laws.FnGjValidTwo': WHATEVER THE INPUT: true; the input reads as it did. -/
def fnGjValidTwoSpec : ChangeSpec := { name := "fnGjValidTwo", fn := fun _ => fun
  | [d1, d2] => { results := [.lit (.bool true)], args := [d1, d2] }
  | _ => none }
def fnGjValidTwoRow : OpenClaim := { program := "ytmpjkhcddfdboaa", sum := "1e737334458ae7e9bb6529bc7b1bced7b40deac49bb6da5ce1103f4894899537", func := "pub-tetrapla/laws.FnGjValidTwo", spec := "fnGjValidTwo", recurses := true, apart := false }
def FnGjValidTwoSaid : Prop := fnGjValidTwoRow.holds Try.pinned (OpenSpec.ofChange fnGjValidTwoSpec)

/-- ITS FALSE NEIGHBOUR: 'it returns false'. Refute it at one input. -/
def fnGjValidTwoWrong : ChangeSpec := { name := "fnGjValidTwo", fn := fun _ => fun
  | [d1, d2] => { results := [.lit (.bool false)], args := [d1, d2] }
  | _ => none }
def FnGjValidTwoWrongFalsely : Prop := fnGjValidTwoRow.holds Try.pinned (OpenSpec.ofChange fnGjValidTwoWrong)

/- THE SECOND FORM. 'bulk': how many values and letters a reading holds, each counted each time it is reached (what is shared counts as often as it is met; a slice's spare places count too). A statement '..UptoSaid' is the law's where the arguments, and the package variables that the reading takes, are together of bulk at most 1048576: NARROWER than '..Said'. Prove '..Said' where nothing that the law and all that it calls make is longer than what came in: it says more and counts as full. Else prove '..UptoSaid'. A law counts once. -/
mutual
def uptoBulk {H : Type} : DataW H → Nat
  | .lit (.string bytes) => bytes.length + 1
  | .lit _ => 1
  | .nil => 1
  | .ptr d => uptoBulk d + 1
  | .slice elems spare => uptoBulkAll elems + uptoBulkAll spare + 1
  | .agg parts => uptoBulkAll parts + 1
  | .iface _ d => uptoBulk d + 1
  | .map entries => uptoBulkEntries entries + 1
  | .held _ => 1
def uptoBulkAll {H : Type} : List (DataW H) → Nat
  | [] => 0
  | d :: r => uptoBulk d + uptoBulkAll r
def uptoBulkEntries {H : Type} : List (Lit × DataW H) → Nat
  | [] => 0
  | x :: r => uptoBulkEntry x + uptoBulkEntries r
def uptoBulkEntry {H : Type} : Lit × DataW H → Nat
  | (.string bytes, d) => bytes.length + uptoBulk d + 1
  | (_, d) => uptoBulk d + 1
 end
def uptoSmall : (H : Type) → List (DataW H) → Bool := fun _ ds => decide (uptoBulkAll ds ≤ 1048576)
def OpenSpec.upto (s : _root_.Go.ChangeSpec) : _root_.Go.OpenSpec := { _root_.Go.OpenSpec.ofChange s with cond := some uptoSmall }

/-- 'laws.FnGjValid', WHERE WHAT IT READS IS OF BULK AT MOST 1048576: true; the input reads as it did. -/
def fnGjValidUptoRow : OpenClaim := { program := "ytmpjkhcddfdboaa", sum := "1e737334458ae7e9bb6529bc7b1bced7b40deac49bb6da5ce1103f4894899537", func := "pub-tetrapla/laws.FnGjValid", spec := "fnGjValid", recurses := true, apart := false, narrowed := true }
def FnGjValidUptoSaid : Prop := fnGjValidUptoRow.holds Try.pinned (OpenSpec.upto fnGjValidSpec)

/-- 'laws.FnGjValidTwo', WHERE WHAT IT READS IS OF BULK AT MOST 1048576: true; the input reads as it did. -/
def fnGjValidTwoUptoRow : OpenClaim := { program := "ytmpjkhcddfdboaa", sum := "1e737334458ae7e9bb6529bc7b1bced7b40deac49bb6da5ce1103f4894899537", func := "pub-tetrapla/laws.FnGjValidTwo", spec := "fnGjValidTwo", recurses := true, apart := false, narrowed := true }
def FnGjValidTwoUptoSaid : Prop := fnGjValidTwoUptoRow.holds Try.pinned (OpenSpec.upto fnGjValidTwoSpec)

end Rows
end Go.Proofs.Ytmpjkhcddfdboaa
