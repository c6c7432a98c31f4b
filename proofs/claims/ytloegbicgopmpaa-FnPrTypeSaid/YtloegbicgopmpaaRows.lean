/-
  No cell of these rows narrows 'for every input' (looked for: loops, veiled, ifaces, maps, wideKeys, modest, calm, conditions, laid).
  DERIVED. THE GIVEN ROWS OF THIS SEAT. 7 by the template 'for every input the law returns true; each argument reads behind the call as it read before'; 0 by the template 'total and deterministic' (their statements: YtloegbicgopmpaaTotals.lean).
  GIVEN WITH THE SEED: the statements are not yours to turn. If you find one false, say at which input.
  Laid BY PROGRAM, IN A SANDBOX (cutbox-rows.mjs): the forced cells as the released guide's own fill.sh prints them over the translation 3e90a6eb3de2e422… (all of the seat's roots in one cut). By AI agents, Wed Nov 11 2026. No macro, syntax, notation, axiom, sorry.
-/
import Derived.Test.YtloegbicgopmpaaChecked
import GoSem.Claim
import GoSem.ClaimJoined
import GoSem.ClaimMapViews
import Derived.JoinedTies
import Derived.KernelRfl
namespace Go.Proofs.Ytloegbicgopmpaa
/- THE CELL 'sum', in the pinned program and in every row, IS THE sha256 OF THE DUMP (.gsa) THAT YtloegbicgopmpaaProg.lean LOADS. Nothing in Lean hashes anything: it is a label: what it is worth is what the hold of that sum in a sandbox is worth. -/
noncomputable def Try.pinned : Pinned := { name := "ytloegbicgopmpaa", sum := "3e90a6eb3de2e422816d66ca1b97428a4316311aad84ea60ede14f7bc74746a0", checked := Try.checked }
namespace Rows
def none {H : Type} : Left H := { results := [], args := [] }

/-- 'laws.FnGjResultIsOf': WHATEVER THE INPUT: true; the input reads as it did. -/
def fnGjResultIsOfSpec : ChangeSpec := { name := "fnGjResultIsOf", fn := fun _ => fun
  | [d] => { results := [.lit (.bool true)], args := [d] }
  | _ => none }
def fnGjResultIsOfRow : OpenClaim := { program := "ytloegbicgopmpaa", sum := "3e90a6eb3de2e422816d66ca1b97428a4316311aad84ea60ede14f7bc74746a0", func := "pub-tetrapla/laws.FnGjResultIsOf", spec := "fnGjResultIsOf", apart := false }
def FnGjResultIsOfSaid : Prop := fnGjResultIsOfRow.holds Try.pinned (OpenSpec.ofChange fnGjResultIsOfSpec)

/-- ITS FALSE NEIGHBOUR: 'it returns false'. Refute it at one input. -/
def fnGjResultIsOfWrong : ChangeSpec := { name := "fnGjResultIsOf", fn := fun _ => fun
  | [d] => { results := [.lit (.bool false)], args := [d] }
  | _ => none }
def FnGjResultIsOfWrongFalsely : Prop := fnGjResultIsOfRow.holds Try.pinned (OpenSpec.ofChange fnGjResultIsOfWrong)

/-- 'laws.FnSjOptimistic': WHATEVER THE INPUT: true; the input reads as it did. -/
def fnSjOptimisticSpec : ChangeSpec := { name := "fnSjOptimistic", fn := fun _ => fun
  | [d1, d2, d3] => { results := [.lit (.bool true)], args := [d1, d2, d3] }
  | _ => none }
def fnSjOptimisticRow : OpenClaim := { program := "ytloegbicgopmpaa", sum := "3e90a6eb3de2e422816d66ca1b97428a4316311aad84ea60ede14f7bc74746a0", func := "pub-tetrapla/laws.FnSjOptimistic", spec := "fnSjOptimistic", apart := false }
def FnSjOptimisticSaid : Prop := fnSjOptimisticRow.holds Try.pinned (OpenSpec.ofChange fnSjOptimisticSpec)

/-- ITS FALSE NEIGHBOUR: 'it returns false'. Refute it at one input. -/
def fnSjOptimisticWrong : ChangeSpec := { name := "fnSjOptimistic", fn := fun _ => fun
  | [d1, d2, d3] => { results := [.lit (.bool false)], args := [d1, d2, d3] }
  | _ => none }
def FnSjOptimisticWrongFalsely : Prop := fnSjOptimisticRow.holds Try.pinned (OpenSpec.ofChange fnSjOptimisticWrong)

/-- 'laws.FnPrType': WHATEVER THE INPUT: true; the input reads as it did. -/
def fnPrTypeSpec : ChangeSpec := { name := "fnPrType", fn := fun _ => fun
  | [d] => { results := [.lit (.bool true)], args := [d] }
  | _ => none }
def fnPrTypeRow : OpenClaim := { program := "ytloegbicgopmpaa", sum := "3e90a6eb3de2e422816d66ca1b97428a4316311aad84ea60ede14f7bc74746a0", func := "pub-tetrapla/laws.FnPrType", spec := "fnPrType", recurses := true, apart := false }
def FnPrTypeSaid : Prop := fnPrTypeRow.holds Try.pinned (OpenSpec.ofChange fnPrTypeSpec)

/-- ITS FALSE NEIGHBOUR: 'it returns false'. Refute it at one input. -/
def fnPrTypeWrong : ChangeSpec := { name := "fnPrType", fn := fun _ => fun
  | [d] => { results := [.lit (.bool false)], args := [d] }
  | _ => none }
def FnPrTypeWrongFalsely : Prop := fnPrTypeRow.holds Try.pinned (OpenSpec.ofChange fnPrTypeWrong)

/-- 'laws.FnJqEscape': WHATEVER THE INPUT: true; the input reads as it did. -/
def fnJqEscapeSpec : ChangeSpec := { name := "fnJqEscape", fn := fun _ => fun
  | [d] => { results := [.lit (.bool true)], args := [d] }
  | _ => none }
def fnJqEscapeRow : OpenClaim := { program := "ytloegbicgopmpaa", sum := "3e90a6eb3de2e422816d66ca1b97428a4316311aad84ea60ede14f7bc74746a0", func := "pub-tetrapla/laws.FnJqEscape", spec := "fnJqEscape", apart := false }
def FnJqEscapeSaid : Prop := fnJqEscapeRow.holds Try.pinned (OpenSpec.ofChange fnJqEscapeSpec)

/-- ITS FALSE NEIGHBOUR: 'it returns false'. Refute it at one input. -/
def fnJqEscapeWrong : ChangeSpec := { name := "fnJqEscape", fn := fun _ => fun
  | [d] => { results := [.lit (.bool false)], args := [d] }
  | _ => none }
def FnJqEscapeWrongFalsely : Prop := fnJqEscapeRow.holds Try.pinned (OpenSpec.ofChange fnJqEscapeWrong)

/-- 'laws.FnGjSigned': WHATEVER THE INPUT: true; the input reads as it did. -/
def fnGjSignedSpec : ChangeSpec := { name := "fnGjSigned", fn := fun _ => fun
  | [d] => { results := [.lit (.bool true)], args := [d] }
  | _ => none }
def fnGjSignedRow : OpenClaim := { program := "ytloegbicgopmpaa", sum := "3e90a6eb3de2e422816d66ca1b97428a4316311aad84ea60ede14f7bc74746a0", func := "pub-tetrapla/laws.FnGjSigned", spec := "fnGjSigned", apart := false }
def FnGjSignedSaid : Prop := fnGjSignedRow.holds Try.pinned (OpenSpec.ofChange fnGjSignedSpec)

/-- ITS FALSE NEIGHBOUR: 'it returns false'. Refute it at one input. -/
def fnGjSignedWrong : ChangeSpec := { name := "fnGjSigned", fn := fun _ => fun
  | [d] => { results := [.lit (.bool false)], args := [d] }
  | _ => none }
def FnGjSignedWrongFalsely : Prop := fnGjSignedRow.holds Try.pinned (OpenSpec.ofChange fnGjSignedWrong)

/-- 'laws.FnGjResultLessOf': WHATEVER THE INPUT: true; the input reads as it did. -/
def fnGjResultLessOfSpec : ChangeSpec := { name := "fnGjResultLessOf", fn := fun _ => fun
  | [d1, d2] => { results := [.lit (.bool true)], args := [d1, d2] }
  | _ => none }
def fnGjResultLessOfRow : OpenClaim := { program := "ytloegbicgopmpaa", sum := "3e90a6eb3de2e422816d66ca1b97428a4316311aad84ea60ede14f7bc74746a0", func := "pub-tetrapla/laws.FnGjResultLessOf", spec := "fnGjResultLessOf", apart := false }
def FnGjResultLessOfSaid : Prop := fnGjResultLessOfRow.holds Try.pinned (OpenSpec.ofChange fnGjResultLessOfSpec)

/-- ITS FALSE NEIGHBOUR: 'it returns false'. Refute it at one input. -/
def fnGjResultLessOfWrong : ChangeSpec := { name := "fnGjResultLessOf", fn := fun _ => fun
  | [d1, d2] => { results := [.lit (.bool false)], args := [d1, d2] }
  | _ => none }
def FnGjResultLessOfWrongFalsely : Prop := fnGjResultLessOfRow.holds Try.pinned (OpenSpec.ofChange fnGjResultLessOfWrong)

/-- 'laws.FnGjSelectors': WHATEVER THE INPUT: true; the input reads as it did. -/
def fnGjSelectorsSpec : ChangeSpec := { name := "fnGjSelectors", fn := fun _ => fun
  | [d1, d2, d3, d4] => { results := [.lit (.bool true)], args := [d1, d2, d3, d4] }
  | _ => none }
def fnGjSelectorsRow : OpenClaim := { program := "ytloegbicgopmpaa", sum := "3e90a6eb3de2e422816d66ca1b97428a4316311aad84ea60ede14f7bc74746a0", func := "pub-tetrapla/laws.FnGjSelectors", spec := "fnGjSelectors", unfollowed := true, recurses := true, apart := false }
def FnGjSelectorsSaid : Prop := fnGjSelectorsRow.holds Try.pinned (OpenSpec.ofChange fnGjSelectorsSpec)

/-- ITS FALSE NEIGHBOUR: 'it returns false'. Refute it at one input. -/
def fnGjSelectorsWrong : ChangeSpec := { name := "fnGjSelectors", fn := fun _ => fun
  | [d1, d2, d3, d4] => { results := [.lit (.bool false)], args := [d1, d2, d3, d4] }
  | _ => none }
def FnGjSelectorsWrongFalsely : Prop := fnGjSelectorsRow.holds Try.pinned (OpenSpec.ofChange fnGjSelectorsWrong)

/- THE SECOND FORM. 'bulk': how many values and letters a reading holds, each counted each time it is reached (what is shared counts as often as it is met; a slice's spare places count too). A statement '..UptoSaid' is the law's where the arguments, and the package variables that the reading takes, are together of bulk at most 1048576: NARROWER than '..Said'. Prove '..Said' where nothing that the law and all that it calls make is longer than what came in: it says more and counts as full. Else prove '..UptoSaid'. A law counts once. -/
mutual
def uptoBulk {H : Type} : DataW H → Nat
  | .lit (.string bytes) => bytes.length + 1
  | .lit _ => 1
  | .nil => 1
  | .ptr d => uptoBulk d + 1
  | .slice elems spare => uptoBulkAll elems + uptoBulkAll spare + 1
  | .agg parts => uptoBulkAll parts + 1
  | .iface _ d => uptoBulk d + 1
  | .map entries => uptoBulkEntries entries + 1
  | .held _ => 1
def uptoBulkAll {H : Type} : List (DataW H) → Nat
  | [] => 0
  | d :: r => uptoBulk d + uptoBulkAll r
def uptoBulkEntries {H : Type} : List (Lit × DataW H) → Nat
  | [] => 0
  | x :: r => uptoBulkEntry x + uptoBulkEntries r
def uptoBulkEntry {H : Type} : Lit × DataW H → Nat
  | (.string bytes, d) => bytes.length + uptoBulk d + 1
  | (_, d) => uptoBulk d + 1
 end
def uptoSmall : (H : Type) → List (DataW H) → Bool := fun _ ds => decide (uptoBulkAll ds ≤ 1048576)
def OpenSpec.upto (s : _root_.Go.ChangeSpec) : _root_.Go.OpenSpec := { _root_.Go.OpenSpec.ofChange s with cond := some uptoSmall }

/-- 'laws.FnGjResultIsOf', WHERE WHAT IT READS IS OF BULK AT MOST 1048576: true; the input reads as it did. -/
def fnGjResultIsOfUptoRow : OpenClaim := { program := "ytloegbicgopmpaa", sum := "3e90a6eb3de2e422816d66ca1b97428a4316311aad84ea60ede14f7bc74746a0", func := "pub-tetrapla/laws.FnGjResultIsOf", spec := "fnGjResultIsOf", apart := false, narrowed := true }
def FnGjResultIsOfUptoSaid : Prop := fnGjResultIsOfUptoRow.holds Try.pinned (OpenSpec.upto fnGjResultIsOfSpec)

/-- 'laws.FnSjOptimistic', WHERE WHAT IT READS IS OF BULK AT MOST 1048576: true; the input reads as it did. -/
def fnSjOptimisticUptoRow : OpenClaim := { program := "ytloegbicgopmpaa", sum := "3e90a6eb3de2e422816d66ca1b97428a4316311aad84ea60ede14f7bc74746a0", func := "pub-tetrapla/laws.FnSjOptimistic", spec := "fnSjOptimistic", apart := false, narrowed := true }
def FnSjOptimisticUptoSaid : Prop := fnSjOptimisticUptoRow.holds Try.pinned (OpenSpec.upto fnSjOptimisticSpec)

/-- 'laws.FnPrType', WHERE WHAT IT READS IS OF BULK AT MOST 1048576: true; the input reads as it did. -/
def fnPrTypeUptoRow : OpenClaim := { program := "ytloegbicgopmpaa", sum := "3e90a6eb3de2e422816d66ca1b97428a4316311aad84ea60ede14f7bc74746a0", func := "pub-tetrapla/laws.FnPrType", spec := "fnPrType", recurses := true, apart := false, narrowed := true }
def FnPrTypeUptoSaid : Prop := fnPrTypeUptoRow.holds Try.pinned (OpenSpec.upto fnPrTypeSpec)

/-- 'laws.FnJqEscape', WHERE WHAT IT READS IS OF BULK AT MOST 1048576: true; the input reads as it did. -/
def fnJqEscapeUptoRow : OpenClaim := { program := "ytloegbicgopmpaa", sum := "3e90a6eb3de2e422816d66ca1b97428a4316311aad84ea60ede14f7bc74746a0", func := "pub-tetrapla/laws.FnJqEscape", spec := "fnJqEscape", apart := false, narrowed := true }
def FnJqEscapeUptoSaid : Prop := fnJqEscapeUptoRow.holds Try.pinned (OpenSpec.upto fnJqEscapeSpec)

/-- 'laws.FnGjSigned', WHERE WHAT IT READS IS OF BULK AT MOST 1048576: true; the input reads as it did. -/
def fnGjSignedUptoRow : OpenClaim := { program := "ytloegbicgopmpaa", sum := "3e90a6eb3de2e422816d66ca1b97428a4316311aad84ea60ede14f7bc74746a0", func := "pub-tetrapla/laws.FnGjSigned", spec := "fnGjSigned", apart := false, narrowed := true }
def FnGjSignedUptoSaid : Prop := fnGjSignedUptoRow.holds Try.pinned (OpenSpec.upto fnGjSignedSpec)

/-- 'laws.FnGjResultLessOf', WHERE WHAT IT READS IS OF BULK AT MOST 1048576: true; the input reads as it did. -/
def fnGjResultLessOfUptoRow : OpenClaim := { program := "ytloegbicgopmpaa", sum := "3e90a6eb3de2e422816d66ca1b97428a4316311aad84ea60ede14f7bc74746a0", func := "pub-tetrapla/laws.FnGjResultLessOf", spec := "fnGjResultLessOf", apart := false, narrowed := true }
def FnGjResultLessOfUptoSaid : Prop := fnGjResultLessOfUptoRow.holds Try.pinned (OpenSpec.upto fnGjResultLessOfSpec)

/-- 'laws.FnGjSelectors', WHERE WHAT IT READS IS OF BULK AT MOST 1048576: true; the input reads as it did. -/
def fnGjSelectorsUptoRow : OpenClaim := { program := "ytloegbicgopmpaa", sum := "3e90a6eb3de2e422816d66ca1b97428a4316311aad84ea60ede14f7bc74746a0", func := "pub-tetrapla/laws.FnGjSelectors", spec := "fnGjSelectors", unfollowed := true, recurses := true, apart := false, narrowed := true }
def FnGjSelectorsUptoSaid : Prop := fnGjSelectorsUptoRow.holds Try.pinned (OpenSpec.upto fnGjSelectorsSpec)

end Rows
end Go.Proofs.Ytloegbicgopmpaa
