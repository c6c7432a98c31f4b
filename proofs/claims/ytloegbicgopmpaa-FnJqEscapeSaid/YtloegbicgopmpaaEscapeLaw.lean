/- FnJqEscape: the law's walk. -/
import Derived.Test.YtloegbicgopmpaaEscape
namespace Go.Proofs.Ytloegbicgopmpaa.L
open Go.RowKit
set_option linter.unusedVariables false
set_option linter.unusedSimpArgs false

theorem jqEscape (s : ByteArray) (w : World) (hs : s.size ≤ 16384) : Calls Try.prog 16 #[.string s] w fun e w' => e = .returned (.string (esc s)) ∧ Below w.heap.size w w' := by
  go_enter Try.func16, Try.ntmps16
  go_wp2_with (first
    | (go_at_call 35; refine (escape s _ hs).mono ?_; rintro e w1 ⟨v, rfl, hO, hB⟩
       obtain ⟨r', HR', hO⟩ : ∃ r', Hid (r' = esc s) ∧ Own w1 w.heap.size v r' := ⟨_, Lib.hid rfl, hO⟩
       obtain ⟨A', c', rfl, hcc', hr'⟩ := hO.rd
       have hcv := hr'.string (c := c') Try.underlying29 Try.underlying5 Try.underlying9
       clear hr' hcc'))
  go_ret
  have hR := HR'.out
  exact ⟨by rw [hR]; rfl, hB⟩

theorem lawE (s : ByteArray) (w : World) (hs : s.size ≤ 140737488351232) : Calls Try.prog 6 #[.string s] w fun e w' => e = .returned (.bool true) ∧ Below w.heap.size w w' := by
  by_cases h1 : 2147483647 < s.size
  · go_enter Try.func6, Try.ntmps6
    go_wp2
    go_ret
    exact ⟨rfl, Below.refl _ _⟩
  · by_cases h2 : 16384 < s.size
    · go_enter Try.func6, Try.ntmps6
      go_wp2
      go_ret
      exact ⟨rfl, Below.refl _ _⟩
    · go_enter Try.func6, Try.ntmps6
      go_wp2_with (first
        | (go_at_call 16; refine (jqEscape s _ (by omega)).mono ?_; rintro e w1 ⟨rfl, hB1⟩)
        | (go_at_call 17; refine (quote s _ (by omega)).mono ?_; rintro e w2 ⟨rfl, hB2⟩))
      go_ret
      exact ⟨by simp, below_step hB1 hB2⟩
end Go.Proofs.Ytloegbicgopmpaa.L
