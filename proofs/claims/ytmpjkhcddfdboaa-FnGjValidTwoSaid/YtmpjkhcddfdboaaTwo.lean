/- Two JSON texts one behind the other. No program in sight. -/
import Derived.Test.YtmpjkhcddfdboaaJson2
namespace Go.Proofs.Ytmpjkhcddfdboaa.L
set_option linter.unusedVariables false
theorem one_size (c : UInt8) : (ByteArray.mk #[c]).size = 1 := rfl
theorem bt_one (c : UInt8) : bt ⟨#[c]⟩ 0 = c.toNat := rfl
theorem ext_app (a b : ByteArray) (c : UInt8) (h : isDigit c.toNat = false ∧ (c.toNat : Int) ≠ 46 ∧ (c.toNat : Int) ≠ 101 ∧ (c.toNat : Int) ≠ 69) : Ext a (a ++ ⟨#[c]⟩ ++ b) ∧ bt (a ++ ⟨#[c]⟩ ++ b) a.size = c.toNat := by
  have hz : (a ++ (⟨#[c]⟩ : ByteArray)).size = a.size + 1 := by rw [ByteArray.size_append, one_size]
  have hc : bt (a ++ ⟨#[c]⟩ ++ b) a.size = c.toNat := by
    rw [bt_app_left _ _ _ (by omega) (by rw [hz]; omega), bt_app_right _ _ _ (by omega), show ((a.size : Int) - a.size) = 0 by omega, bt_one]
  exact ⟨⟨by rw [ByteArray.size_append, hz]; omega, fun i hi => by
    rw [bt_app_left _ _ _ (by omega) (by rw [hz]; omega), bt_app_left _ _ _ (by omega) (by omega)], by rw [hc]; exact h.1, by rw [hc]; exact h.2.1, by rw [hc]; exact h.2.2.1, by rw [hc]; exact h.2.2.2⟩, hc⟩
/-- A text's first value, if it has one. -/
theorem places_val {s : ByteArray} {p : Pl} (h : places s = some p) : ∃ j, valN s (s.size + 1) (skip isBlank s 0) = some (j, p) ∧ skip isBlank s 0 < s.size ∧ skip isBlank s j = s.size ∧ j ≤ s.size := by
  unfold places at h
  split at h
  · cases h
  · rename_i j q hq
    split at h
    · rename_i he
      injection h with h
      subst h
      have h0 := skip_top isBlank s (i := 0) (by omega)
      have := valN_fwd s _ _ _ _ h0 hq
      exact ⟨j, hq, by omega, he, this.2⟩
    · cases h
theorem places_ext {s t : ByteArray} (E : Ext s t) {p : Pl} (h : places s = some p) : ∃ j, valN t (t.size + 1) (skip isBlank t 0) = some (j, p) ∧ skip isBlank s j = s.size ∧ j ≤ s.size := by
  obtain ⟨j, h1, h2, h3, h4⟩ := places_val h
  refine ⟨j, ?_, h3, h4⟩
  rw [blank_ext E _ (Nat.le_refl _) h2]
  exact valN_ext E (by have := E.le; omega) (by omega) h1
theorem blanks_app {s t : ByteArray} (hle : s.size ≤ t.size) (heq : ∀ i : Nat, i < s.size → bt t i = bt s i) : ∀ (k j : Nat), s.size - j ≤ k → j ≤ s.size → skip isBlank s j = s.size → skip isBlank t j = skip isBlank t s.size
  | 0, j, hk, hj, h => by
    obtain rfl : j = s.size := by omega
    rfl
  | k + 1, j, hk, hj, h => by
    by_cases hl : j < s.size
    · by_cases hc : isBlank (bt s j) = true
      · rw [skip_yes hl hc] at h
        rw [skip_yes (by omega) (by rw [heq j hl]; exact hc)]
        exact blanks_app hle heq k (j + 1) (by omega) (by omega) h
      · rw [skip_no (fun h => hc h.2)] at h
        omega
    · obtain rfl : j = s.size := by omega
      rfl
/-- Blanks ahead of a text's tail. -/
theorem blanks_shift {b t : ByteArray} {d : Nat} (hz : t.size = d + b.size) (heq : ∀ i : Nat, i < b.size → bt t (d + i : Nat) = bt b i) : ∀ (k i : Nat), b.size - i ≤ k → i ≤ b.size → skip isBlank t (d + i) = d + skip isBlank b i
  | 0, i, hk, hi => by
    obtain rfl : i = b.size := by omega
    rw [skip_no (s := t) (by omega), skip_no (s := b) (by omega)]
  | k + 1, i, hk, hi => by
    by_cases hl : i < b.size
    · by_cases hc : isBlank (bt b i) = true
      · rw [skip_yes hl hc, skip_yes (by omega) (by rw [heq i hl]; exact hc)]
        exact blanks_shift hz heq k (i + 1) (by omega) (by omega)
      · rw [skip_no (s := b) (fun h => hc h.2), skip_no (s := t) (fun h => by rw [heq i hl] at h; exact hc h.2)]
    · obtain rfl : i = b.size := by omega
      rw [skip_no (s := t) (by omega), skip_no (s := b) (by omega)]
theorem two_none {a b : ByteArray} {p q : Pl} (ha : places a = some p) (hb : places b = some q) (c : UInt8) (hc : c = 32 ∨ c = 44) : places (a ++ ⟨#[c]⟩ ++ b) = none := by
  obtain ⟨E, hat⟩ := ext_app a b c (by rcases hc with rfl | rfl <;> decide)
  have hz : (a ++ ⟨#[c]⟩ ++ b).size = a.size + 1 + b.size := by rw [ByteArray.size_append, ByteArray.size_append, one_size]
  have heq : ∀ i : Nat, i < b.size → bt (a ++ ⟨#[c]⟩ ++ b) (a.size + 1 + i : Nat) = bt b i := fun i hi => by
    have h1 : (a ++ (⟨#[c]⟩ : ByteArray)).size = a.size + 1 := by rw [ByteArray.size_append, one_size]
    rw [bt_app_right _ _ _ (by rw [h1]; omega), h1]
    congr 1
    omega
  generalize a ++ ⟨#[c]⟩ ++ b = t at *
  obtain ⟨j, h1, h2, h3⟩ := places_ext E ha
  obtain ⟨_, _, hb2, _, _⟩ := places_val hb
  have hne : skip isBlank t j ≠ t.size := by
    rw [blanks_app E.le E.eq _ j (Nat.le_refl _) h3 h2]
    rcases hc with rfl | rfl
    · rw [skip_yes (by omega) (by rw [hat]; rfl), show a.size + 1 = a.size + 1 + 0 from rfl, blanks_shift hz heq _ 0 (Nat.le_refl _) (by omega)]
      omega
    · rw [skip_no (fun h => by rw [hat] at h; exact absurd h.2 (by decide))]
      omega
  unfold places valAt
  rw [h1]
  simp only
  rw [if_neg hne]
end Go.Proofs.Ytmpjkhcddfdboaa.L
