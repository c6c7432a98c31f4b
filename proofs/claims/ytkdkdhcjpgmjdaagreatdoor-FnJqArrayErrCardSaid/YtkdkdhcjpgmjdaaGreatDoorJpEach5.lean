/- An array's inside; its first byte is no closing bracket. -/
import Derived.Test.YtkdkdhcjpgmjdaaGreatDoorJpCutP
namespace Go.Proofs.YtkdkdhcjpgmjdaaGreatDoor.Jp
open L
set_option linter.unusedVariables false
set_option linter.unusedSimpArgs false
/-- An array's inside. -/
theorem arr_in2 {s : ByteArray} {n i j : Nat} {p : Pl} (hi : i ≤ s.size) (h : valN s (n + 1) i = some (j, p)) (hk : p.kind = 5) :
    bt s i = 91 ∧ i < s.size ∧ ((p.kids = [] ∧ bt s (L.skip isBlank s (i + 1)) = 93 ∧ L.skip isBlank s (i + 1) + 1 = j) ∨ (bt s (L.skip isBlank s (i + 1)) ≠ 93 ∧ EChain s n j (i + 1) p.kids)) := by
  unfold valN at h
  split at h
  · simp only [Option.map_eq_some_iff, Prod.mk.injEq] at h
    obtain ⟨⟨a, b⟩, h1, rfl, rfl⟩ := h
    cases hk
  · split at h
    · rename_i hb
      have h0 := lt_of_bt (s := s) (i := i) (by omega)
      simp only [Option.map_eq_some_iff, Prod.mk.injEq] at h
      obtain ⟨⟨a, b⟩, h1, rfl, rfl⟩ := h
      refine ⟨hb, h0, ?_⟩
      unfold elemsAt at h1
      split at h1
      · rename_i hc
        simp only [Option.some.injEq, Prod.mk.injEq] at h1
        obtain ⟨rfl, rfl⟩ := h1
        exact .inl ⟨rfl, hc, rfl⟩
      · rename_i hc93
        obtain ⟨qs, e, hq⟩ := echain_of (off := i + 1) (by omega) h1
        rw [List.nil_append] at e
        subst e
        exact .inr ⟨hc93, hq⟩
    · split at h
      · simp only [Option.map_eq_some_iff, Prod.mk.injEq] at h
        obtain ⟨a, h1, rfl, rfl⟩ := h
        cases hk
      · split at h
        · simp only [Option.map_eq_some_iff, Prod.mk.injEq] at h
          obtain ⟨a, h1, rfl, rfl⟩ := h
          cases hk
        · split at h
          · simp only [Option.some.injEq, Prod.mk.injEq] at h
            obtain ⟨rfl, rfl⟩ := h
            cases hk
          · split at h
            · simp only [Option.some.injEq, Prod.mk.injEq] at h
              obtain ⟨rfl, rfl⟩ := h
              cases hk
            · split at h
              · simp only [Option.some.injEq, Prod.mk.injEq] at h
                obtain ⟨rfl, rfl⟩ := h
                cases hk
              · cases h
end Go.Proofs.YtkdkdhcjpgmjdaaGreatDoor.Jp
