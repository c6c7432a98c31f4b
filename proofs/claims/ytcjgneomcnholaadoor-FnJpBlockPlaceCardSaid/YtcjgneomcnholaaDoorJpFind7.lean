/- FnJpBlockPlace: the law, its premises in the row's order. -/
import Derived.Test.YtcjgneomcnholaaDoorJpFind6
import Derived.Test.YtcjgneomcnholaaDoorJpRowS
namespace Go.Proofs.YtcjgneomcnholaaDoor.Jp
open Go.RowKit L
set_option linter.unusedVariables false
theorem lawBlockR (s : ByteArray) (A : Option Addr) (n c : Nat) (ks : List ByteArray) (tail : ByteArray) (w : World) (hs0 : s.size ≤ 140737488351232) (hR : Row w (fun _ => True) 1 A n c (keysV ks)) (hks : ∀ k ∈ ks, k.size ≤ 9223372036854775807) (ht0 : tail.size ≤ 140737488351232) (hW : Dc w) :
    Calls Tryd.prog 3 #[.string s, .slice A n c, .string tail] w fun e w' => e = .returned (.bool true) ∧ Below w.heap.size w w' := lawBlock s tail ks _ A n c w hs0 ht0 hR hks hW
end Go.Proofs.YtcjgneomcnholaaDoor.Jp
