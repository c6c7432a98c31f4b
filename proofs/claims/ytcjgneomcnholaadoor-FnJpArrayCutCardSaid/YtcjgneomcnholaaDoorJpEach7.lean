/- The walk of jpHad. -/
import Derived.Test.YtcjgneomcnholaaDoorJpEach6
import Derived.Test.YtcjgneomcnholaaDoorJpEachP
import Derived.Deep.DeepCutAuto
import Derived.Deep.CutBlock
namespace Go.Proofs.YtcjgneomcnholaaDoor.Jp
open Go.RowKit L
set_option linter.unusedVariables false
set_option linter.unusedSimpArgs false

theorem Told.at4 {S : ByteArray} {ds : List Pl} {xs : List Value} (h : Told S ds xs) : ∀ {k : Nat} {q : Pl}, ds[k]? = some q → ∃ x : Int, xs[k * 4 + 0]? = some (.string ⟨#[]⟩) ∧ xs[k * 4 + 1]? = some (.string (rawAt S q.kind q.b q.e)) ∧ xs[k * 4 + 2]? = some (.int .i64 (jk q.kind : Int)) ∧ xs[k * 4 + 3]? = some (.int .i64 x) := by
  induction h with
  | nil => intro k q h; cases h
  | snoc h ih =>
    rename_i ds xs q0 x
    intro k q hk
    have hl := h.len
    by_cases hlt : k < ds.length
    · rw [List.getElem?_append_left hlt] at hk
      obtain ⟨y, h0, h1, h2, h3⟩ := ih hk
      refine ⟨y, ?_⟩
      rw [List.getElem?_append_left (by omega), List.getElem?_append_left (by omega), List.getElem?_append_left (by omega), List.getElem?_append_left (by omega)]
      exact ⟨h0, h1, h2, h3⟩
    · have hk2 : k = ds.length := by
        have := (List.getElem?_eq_some_iff.1 hk).1
        simp at this; omega
      subst hk2
      rw [List.getElem?_append_right (Nat.le_refl _), Nat.sub_self] at hk
      simp only [List.getElem?_cons_zero, Option.some.injEq] at hk
      subst hk
      refine ⟨x, ?_⟩
      rw [List.getElem?_append_right (by omega), List.getElem?_append_right (by omega), List.getElem?_append_right (by omega), List.getElem?_append_right (by omega), hl, Nat.add_sub_cancel_left, Nat.add_sub_cancel_left, Nat.add_sub_cancel_left, Nat.add_sub_cancel_left]
      exact ⟨rfl, rfl, rfl, rfl⟩
end Go.Proofs.YtcjgneomcnholaaDoor.Jp
