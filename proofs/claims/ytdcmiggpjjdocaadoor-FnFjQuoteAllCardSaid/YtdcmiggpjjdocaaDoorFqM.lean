/- MarshalTo of a raw string. -/
import Derived.Test.YtdcmiggpjjdocaaDoorFqA
namespace Go.Proofs.YtdcmiggpjjdocaaDoor.L
open Go.RowKit
set_option linter.unusedVariables false
set_option linter.unusedSimpArgs false

set_option maxRecDepth 100000 in
set_option maxHeartbeats 4000000 in
theorem marshW (g : Nat) (s : ByteArray) (w : World) (hs : s.size ≤ 1000000) (hg0 : g < w.heap.size) (c3 : w.cell? ⟨g, 3, none⟩ = some (.string s)) (c4 : w.cell? ⟨g, 4, none⟩ = some (.int .i64 7)) :
    Calls Tryd.prog 11 #[.pointer (some ⟨g, 0, none⟩), .slice none 0 0] w (GrPost (strOfNums [34] ++ s ++ strOfNums [34]) w) := by
  have C3 := Lib.hid c3
  clear c3
  go_enter Tryd.func11, Tryd.ntmps11
  go_wp2_with (first
    | (at_builtin; (refine app_rd _ rfl (.tmp 14) (.tmp 15) rfl w.heap.size _ ByteArray.empty (strOfNums [34]) _ 1 1 rfl rfl (by rw [strOfNums_size]; rfl) (Own.nil _ _) (rd_lit _ 5 [34] (by simp)) (by rw [strOfNums_size]; simp) (by simp) ?_); intro v1 w1 hO1 hg1 hat1; rw [ByteArray.empty_append] at hO1; replace hO1 := Lib.hid hO1; have hz1 : w.heap.size ≤ w1.heap.size := (by have := hg1.size; simp at this; omega); have b1 : Below w.heap.size w w1 := (below_alloc (Below.refl _ w) _).grown hg1 (by simp) (fun j hj => absurd (show (none : Option Nat) = some j from hj) (by simp)); have c3 := (b1.cell (p := ⟨g, 3, none⟩) hg0).trans C3.out; replace b1 := Lib.hid b1; clear hat1 hg1)
    | (at_builtin; (refine app_str _ rfl (.tmp 17) (.tmp 21) rfl w.heap.size _ (strOfNums [34]) s rfl rfl hO1.out (by rw [strOfNums_size]; simp; omega) hz1 ?_); intro v2 w2 hO2 hg2 hat2; replace hO2 := Lib.hid hO2; have hz2 : w.heap.size ≤ w2.heap.size := (by have := hg2.size; omega); replace hg2 := Lib.hid hg2; clear hat2)
    | (at_builtin; (refine app_rd _ rfl (.tmp 23) (.tmp 24) rfl w.heap.size _ (strOfNums [34] ++ s) (strOfNums [34]) _ 1 1 rfl rfl (by rw [strOfNums_size]; rfl) (hO2.out.alloc _) (rd_lit _ 5 [34] (by simp)) (by rw [strOfNums_size, ByteArray.size_append, strOfNums_size]; simp; omega) (by simp; omega) ?_); intro v3 w3 hO3 hg3 hat3; replace hO3 := Lib.hid hO3; replace hg3 := Lib.hid hg3; clear hat3))
  go_ret
  refine ⟨_, rfl, hO3.out, ?_⟩
  have b2 : Below w.heap.size w w2 := b1.out.grown hg2.out hz1 (fun j hj => (hO1.out.block j hj).1)
  exact (below_alloc b2 _).grown hg3.out (by simp; omega) (fun j hj => (hO2.out.block j hj).1)
end Go.Proofs.YtdcmiggpjjdocaaDoor.L
