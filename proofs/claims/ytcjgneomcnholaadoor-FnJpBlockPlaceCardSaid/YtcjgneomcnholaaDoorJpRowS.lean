/- An argument that is a slice of texts, opened and shut. -/
import Derived.Test.YtcjgneomcnholaaDoorJpFind2
import Derived.SliceStrings
import Derived.Carry
import Derived.ProofKit
import Derived.SizedLaws
import Derived.WideShapes
import Derived.ChangeShapes
namespace Go.Proofs.YtcjgneomcnholaaDoor.Jp
open Go.RowKit L Go.ChangeShapes Go.WideShapes
set_option linter.unusedVariables false
set_option linter.unusedSimpArgs false
theorem laid_out : laidOutB Tryd.prog = true := by kernel_rfl
theorem cells_str : Tryd.prog.cellsOf 9 = 1 := by kernel_rfl
theorem rec_keys : Tryd.prog.readableRec 22 = true := by kernel_rfl
theorem row_keys : 22 < Tryd.prog.types.size := of_decide_eq_true (by kernel_rfl)
set_option maxRecDepth 100000 in
theorem openKeys {H : Type} {enc : TypeId × Value → H} {W : World} {b0 : Nat} {v : Value} {d : DataW H} {p : List MemPlace} (hv : Value.okWide Tryd.prog W .any b0 22 v)
    (h : DataW.Trod enc Tryd.prog W 0 (fun _ => true) true 22 v d p) (hlt : ∀ x ∈ p, x.block < W.heap.size) :
    ∃ (A : Option Addr) (n c : Nat) (ks : List ByteArray), v = .slice A n c ∧ Row W (fun _ => True) 1 A n c (keysV ks) ∧ (∀ k ∈ ks, k.size ≤ 9223372036854775807) ∧
      ∀ W' : World, Below W.heap.size W W' → DataW.Trod enc Tryd.prog W' 0 (fun b => decide (b < W.heap.size)) true 22 v d p := by
  have hsh : ∀ W' : World, Below W.heap.size W W' → DataW.Trod enc Tryd.prog W' 0 (fun b => decide (b < W.heap.size)) true 22 v d p := fun W' hb =>
    Below.trod laid_out rec_keys row_keys h hb hlt
  obtain ⟨A, n, c, rfl⟩ := okWide_slice Tryd.underlying22 hv
  obtain ⟨fuel, hf⟩ := h
  rcases open_strings Tryd.underlying22 Tryd.underlying9 cells_str hf with ⟨hcs, hx⟩ | ⟨a, len, cap, ss, hcs, _, hl, hm, hz, hx, hcell, hws⟩
  · simp [Value.cells] at hcs
    obtain ⟨rfl, rfl, rfl⟩ := hcs
    exact ⟨none, 0, 0, [], rfl, Row.nil _ _ _, (fun k hk => by cases hk), hsh⟩
  · simp [Value.cells] at hcs
    obtain ⟨rfl, rfl, rfl⟩ := hcs
    simp only [if_true] at hz
    refine ⟨some a, n, c, ss.take n, rfl, ⟨by simp [keysV]; omega, hl, hm, fun hn => ⟨a, rfl, trivial, ?_, fun j u hu => ?_⟩⟩, fun k hk => ?_, hsh⟩
    · have := World.block_lt_of_cell? W _ (hcell 0 (by omega))
      rwa [add_block] at this
    · simp only [keysV, List.getElem?_map, Option.map_eq_some_iff] at hu
      obtain ⟨x, hx1, rfl⟩ := hu
      rw [List.getElem?_take] at hx1
      split at hx1
      · rename_i hj
        rw [hcell j (by omega)]
        simp [List.getD_eq_getElem?_getD, hx1]
      · cases hx1
    · have := hws k (List.mem_of_mem_take hk)
      simp only [maxLen] at this
      exact this
end Go.Proofs.YtcjgneomcnholaaDoor.Jp
