/- A JSON text that stands ahead of something else; fuel. No program in sight. -/
import Derived.Test.YtmpjkhcddfdboaaJson
namespace Go.Proofs.Ytmpjkhcddfdboaa.L
set_option linter.unusedVariables false

/-- t begins with s; what stands behind s there continues no number. -/
structure Ext (s t : ByteArray) : Prop where
  le : s.size ≤ t.size
  eq : ∀ i : Nat, i < s.size → bt t i = bt s i
  dg : isDigit (bt t s.size) = false
  n1 : bt t s.size ≠ 46
  n2 : bt t s.size ≠ 101
  n3 : bt t s.size ≠ 69
theorem Ext.refl (s : ByteArray) : Ext s s := by
  have h := bt_out s s.size (by omega)
  exact ⟨Nat.le_refl _, fun _ _ => rfl, by rw [h]; rfl, by rw [h]; decide, by rw [h]; decide, by rw [h]; decide⟩

section
variable {s t : ByteArray} (E : Ext s t)
include E
theorem Ext.of (i : Nat) (h : bt s i ≠ 0) : bt t i = bt s i := E.eq i (lt_of_bt h)
theorem esc_ext {i j : Nat} (h : escAt s i = some j) : escAt t i = some j := by
  unfold escAt at h ⊢
  split at h
  · rename_i hc
    rw [E.of i (by omega), if_pos hc]
    exact h
  · rename_i hc
    split at h
    · rename_i hu
      split at h
      · rename_i hh
        have h4 := hex_ne hh.2.2.2
        rw [E.eq i (by omega), if_neg hc, if_pos hu, E.eq (i + 1) (by omega), E.eq (i + 2) (by omega), E.eq (i + 3) (by omega), E.eq (i + 4) (by omega), if_pos hh]
        exact h
      · cases h
    · cases h
theorem str_ext : ∀ {k k' i j : Nat}, k ≤ k' → strN s k i = some j → strN t k' i = some j
  | 0, _, _, _, _, h => by cases h
  | k + 1, 0, _, _, hk, _ => absurd hk (by omega)
  | k + 1, k' + 1, i, j, hk, h => by
    unfold strN at h ⊢
    split at h
    · rename_i hi
      rw [if_pos (Nat.lt_of_lt_of_le hi E.le), E.eq i hi]
      split at h
      · rename_i hc; rw [if_pos hc]; exact h
      · rename_i hc
        rw [if_neg hc]
        split at h
        · cases h
        · rename_i hl
          rw [if_neg hl]
          split at h
          · rename_i h92
            rw [if_pos h92]
            split at h
            · rename_i l hl2
              rw [esc_ext E hl2]
              exact str_ext (by omega) h
            · cases h
          · rename_i h92
            rw [if_neg h92]
            exact str_ext (by omega) h
    · cases h
theorem strAt_ext {i j : Nat} (h : strAt s i = some j) : strAt t i = some j := str_ext E (by have := E.le; omega) h
theorem skip_ext (p : Int → Bool) (hp : p (bt t s.size) = false) : ∀ (k i : Nat), i ≤ s.size → s.size - i ≤ k → skip p t i = skip p s i
  | 0, i, hi, hk => by
    obtain rfl : i = s.size := by omega
    rw [skip_no (s := s) (by omega), skip_no (s := t) (fun h => by rw [hp] at h; simp at h)]
  | k + 1, i, hi, hk => by
    by_cases hl : i < s.size
    · by_cases hc : p (bt s i) = true
      · rw [skip_yes hl hc, skip_yes (Nat.lt_of_lt_of_le hl E.le) (by rw [E.eq i hl]; exact hc)]
        exact skip_ext p hp k (i + 1) (by omega) (by omega)
      · rw [skip_no (s := s) (fun h => hc h.2), skip_no (s := t) (fun h => by rw [E.eq i hl] at h; exact hc h.2)]
    · obtain rfl : i = s.size := by omega
      rw [skip_no (s := s) (by omega), skip_no (s := t) (fun h => by rw [hp] at h; simp at h)]
/-- Over blanks to something that is none. -/
theorem blank_ext {i : Nat} : ∀ (k : Nat), s.size - i ≤ k → skip isBlank s i < s.size → skip isBlank t i = skip isBlank s i := by
  intro k
  induction k generalizing i with
  | zero => intro hk h; have := skip_le isBlank s i; omega
  | succ k ih =>
    intro hk h
    by_cases hl : i < s.size
    · by_cases hc : isBlank (bt s i) = true
      · rw [skip_yes hl hc] at h ⊢
        rw [skip_yes (Nat.lt_of_lt_of_le hl E.le) (by rw [E.eq i hl]; exact hc)]
        exact ih (by omega) h
      · rw [skip_no (s := s) (fun h => hc h.2), skip_no (s := t) (fun h => by rw [E.eq i hl] at h; exact hc h.2)]
    · have := skip_le isBlank s i; omega
theorem blank_at {i : Nat} {c : Int} (hc : c ≠ 0) (h : bt s (skip isBlank s i) = c) : skip isBlank t i = skip isBlank s i ∧ bt t (skip isBlank s i) = c := by
  have hl := lt_of_bt (s := s) (i := skip isBlank s i) (by rw [h]; exact hc)
  exact ⟨blank_ext E _ (Nat.le_refl _) hl, (E.eq _ hl).trans h⟩
theorem digits_ext {i j : Nat} (hi : i ≤ s.size) (h : digitsAt s i = some j) : digitsAt t i = some j := by
  unfold digitsAt at h ⊢
  rw [skip_ext E isDigit E.dg _ i hi (Nat.le_refl _)]
  exact h
theorem int_ext {i j : Nat} (hi : i ≤ s.size) (h : numInt s i = some j) : numInt t i = some j := by
  unfold numInt at h ⊢
  split at h
  · rename_i hc
    rw [E.of i (by omega), if_pos hc]; exact h
  · rename_i hc
    have hne : ¬ bt t i = 48 := by
      rcases Nat.lt_or_ge i s.size with hl | hl
      · rw [E.eq i hl]; exact hc
      · obtain rfl : i = s.size := by omega
        intro h48
        have := E.dg
        rw [h48] at this
        revert this; decide
    rw [if_neg hne]
    exact digits_ext E hi h
theorem frac_ext {i j : Nat} (hi : i ≤ s.size) (h : numFrac s i = some j) : numFrac t i = some j := by
  unfold numFrac at h ⊢
  split at h
  · rename_i hc
    have hl := lt_of_bt (s := s) (i := i) (by omega)
    rw [E.eq i hl, if_pos hc]
    exact digits_ext E (by omega) h
  · rename_i hc
    have hne : ¬ bt t i = 46 := by
      rcases Nat.lt_or_ge i s.size with hl | hl
      · rw [E.eq i hl]; exact hc
      · obtain rfl : i = s.size := by omega
        exact E.n1
    rw [if_neg hne]; exact h
theorem exp_ext {i j : Nat} (hi : i ≤ s.size) (h : numExp s i = some j) : numExp t i = some j := by
  unfold numExp at h ⊢
  split at h
  · rename_i hc
    have hl := lt_of_bt (s := s) (i := i) (by omega)
    rw [E.eq i hl, if_pos hc]
    have h1 := numSign_step (s := s) (i := i + 1) (by omega)
    have hs : numSign t (i + 1) = numSign s (i + 1) := by
      unfold numSign
      rcases Nat.lt_or_ge (i + 1) s.size with hl2 | hl2
      · rw [E.eq (i + 1) hl2]
      · -- the text ends: no digits
        exfalso
        unfold numSign at h
        rw [bt_out s _ (by omega), if_neg (by decide)] at h
        unfold digitsAt at h
        rw [skip_no (by omega)] at h
        simp at h
    rw [hs]
    exact digits_ext E h1.2 h
  · rename_i hc
    have hne : ¬ (bt t i = 101 ∨ bt t i = 69) := by
      rcases Nat.lt_or_ge i s.size with hl | hl
      · rw [E.eq i hl]; exact hc
      · obtain rfl : i = s.size := by omega
        rintro (h' | h')
        · exact E.n2 h'
        · exact E.n3 h'
    rw [if_neg hne]; exact h
theorem num_ext {i j : Nat} (hi : i < s.size) (h : numAt s i = some j) : numAt t i = some j := by
  unfold numAt at h ⊢
  rw [E.eq i hi]
  simp only [Option.bind_eq_some_iff] at h ⊢
  obtain ⟨a, h1, b, h2, h3⟩ := h
  have h0 : (if bt s i = 45 then i + 1 else i) ≤ s.size := by split <;> omega
  have g1 := numInt_step h0 h1
  have g2 := numFrac_step g1.2 h2
  exact ⟨a, int_ext E h0 h1, b, frac_ext E g1.2 h2, exp_ext E g2.2 h3⟩
theorem ext_extract {i j : Nat} (hj : j ≤ s.size) : t.extract i j = s.extract i j := by
  have hle := E.le
  refine eq_of_bt (by rw [size_ext, size_ext]; omega) fun k hk => ?_
  rw [bt_ext t i j k (by omega) (by omega), bt_ext s i j k (by omega) (by rw [size_ext] at hk ⊢; omega)]
  rw [size_ext] at hk
  have := E.eq (i + k) (by omega)
  rw [show ((i : Int) + (k : Int)) = ((i + k : Nat) : Int) by omega]
  exact this
theorem word_ext {i : Nat} {x : ByteArray} (h : wordAt s i x = true) : wordAt t i x = true := by
  unfold wordAt at h ⊢
  simp only [Bool.and_eq_true, decide_eq_true_eq] at h ⊢
  exact ⟨Nat.le_trans h.1 E.le, by rw [ext_extract E h.1]; exact h.2⟩
theorem elemsN_ext {f g : Nat → Option (Nat × Pl)} (hfg : ∀ i r, i ≤ s.size → f i = some r → g i = some r) (hf : Fwd s f) : ∀ {k k' i : Nat} {acc : List Pl} {r : Nat × List Pl}, k ≤ k' → i ≤ s.size → elemsN f s k i acc = some r → elemsN g t k' i acc = some r
  | 0, _, _, _, _, _, _, h => by cases h
  | k + 1, 0, _, _, _, hk, _, _ => absurd hk (by omega)
  | k + 1, k' + 1, i, acc, r, hk, hi, h => by
    unfold elemsN at h ⊢
    split at h
    · cases h
    · rename_i l p hl
      rw [hfg i _ hi hl]
      have h1 := hf i l p hi hl
      split at h
      · rename_i hc
        obtain ⟨e1, e2⟩ := blank_at E (by decide) hc
        simp only [e1, e2, if_true]
        exact h
      · rename_i hc
        split at h
        · rename_i hc2
          obtain ⟨e1, e2⟩ := blank_at E (by decide) hc2
          have h4 := lt_of_bt (s := s) (i := skip isBlank s l) (by omega)
          simp only [e1, e2]
          rw [if_neg (by decide), if_pos trivial]
          have h6 := skip_top isBlank s (i := skip isBlank s l + 1) (by omega)
          -- a value begins behind the comma
          have hlt : skip isBlank s (skip isBlank s l + 1) < s.size := by
            rcases Nat.lt_or_ge (skip isBlank s (skip isBlank s l + 1)) s.size with hx | hx
            · exact hx
            · exfalso
              have := elemsN_step hf h6 h
              omega
          rw [blank_ext E _ (Nat.le_refl _) hlt]
          exact elemsN_ext hfg hf (by omega) h6 h
        · cases h
theorem elemsAt_ext {f g : Nat → Option (Nat × Pl)} (hfg : ∀ i r, i ≤ s.size → f i = some r → g i = some r) (hf : Fwd s f) {i : Nat} {r : Nat × List Pl} (hi : i < s.size) (h : elemsAt f s i = some r) : elemsAt g t i = some r := by
  unfold elemsAt at h ⊢
  split at h
  · rename_i hc
    obtain ⟨e1, e2⟩ := blank_at E (by decide) hc
    rw [e1, e2, if_pos rfl]
    exact h
  · rename_i hc
    have h6 := skip_top isBlank s (i := i + 1) (by omega)
    have h7 := elemsN_step hf h6 h
    rw [blank_ext E _ (Nat.le_refl _) (show skip isBlank s (i + 1) < s.size by omega), E.eq _ (by omega), if_neg hc]
    exact elemsN_ext E hfg hf (by have := E.le; omega) h6 h
theorem membsN_ext {f g : Nat → Option (Nat × Pl)} (hfg : ∀ i r, i ≤ s.size → f i = some r → g i = some r) (hf : Fwd s f) : ∀ {k k' i : Nat} {ns : List (Nat × Nat)} {ks : List Pl} {r : Nat × List (Nat × Nat) × List Pl}, k ≤ k' → i ≤ s.size → membsN f s k i ns ks = some r → membsN g t k' i ns ks = some r
  | 0, _, _, _, _, _, _, _, h => by cases h
  | k + 1, 0, _, _, _, _, hk, _, _ => absurd hk (by omega)
  | k + 1, k' + 1, i, ns, ks, r, hk, hi, h => by
    unfold membsN at h ⊢
    split at h
    · rename_i h34
      rw [E.of i (by omega), if_pos h34]
      split at h
      · cases h
      · rename_i m hm
        rw [strAt_ext E hm]
        have h1 := strAt_step hm
        split at h
        · rename_i h58
          obtain ⟨e1, e2⟩ := blank_at E (by decide) h58
          have h4 := lt_of_bt (s := s) (i := skip isBlank s m) (by omega)
          have h6 := skip_top isBlank s (i := skip isBlank s m + 1) (by omega)
          simp only [e1, e2]
          rw [if_pos trivial]
          split at h
          · cases h
          · rename_i l p hl
            have g1 := hf _ l p h6 hl
            rw [blank_ext E _ (Nat.le_refl _) (show skip isBlank s (skip isBlank s m + 1) < s.size by omega), hfg _ _ h6 hl]
            split at h
            · rename_i hc
              obtain ⟨e3, e4⟩ := blank_at E (by decide) hc
              simp only [e3, e4, if_true]
              exact h
            · rename_i hc
              split at h
              · rename_i hc2
                obtain ⟨e3, e4⟩ := blank_at E (by decide) hc2
                have g4 := lt_of_bt (s := s) (i := skip isBlank s l) (by omega)
                have g6 := skip_top isBlank s (i := skip isBlank s l + 1) (by omega)
                have g7 := membsN_step hf g6 h
                simp only [e3, e4]
                rw [if_neg (by decide), if_pos trivial, blank_ext E _ (Nat.le_refl _) (show skip isBlank s (skip isBlank s l + 1) < s.size by omega)]
                exact membsN_ext hfg hf (by omega) g6 h
              · cases h
        · cases h
    · cases h
theorem membsAt_ext {f g : Nat → Option (Nat × Pl)} (hfg : ∀ i r, i ≤ s.size → f i = some r → g i = some r) (hf : Fwd s f) {i : Nat} {r : Nat × List (Nat × Nat) × List Pl} (hi : i < s.size) (h : membsAt f s i = some r) : membsAt g t i = some r := by
  unfold membsAt at h ⊢
  split at h
  · rename_i hc
    obtain ⟨e1, e2⟩ := blank_at E (by decide) hc
    rw [e1, e2, if_pos rfl]
    exact h
  · rename_i hc
    have h6 := skip_top isBlank s (i := i + 1) (by omega)
    have h7 := membsN_step hf h6 h
    rw [blank_ext E _ (Nat.le_refl _) (show skip isBlank s (i + 1) < s.size by omega), E.eq _ (by omega), if_neg hc]
    exact membsN_ext E hfg hf (by have := E.le; omega) h6 h
theorem valN_ext : ∀ {n n' i : Nat} {r : Nat × Pl}, n ≤ n' → i ≤ s.size → valN s n i = some r → valN t n' i = some r
  | 0, _, _, _, _, _, h => by cases h
  | n + 1, 0, _, _, hn, _, _ => absurd hn (by omega)
  | n + 1, n' + 1, i, r, hn, hi, h => by
    have hl : i < s.size := by
      have := valN_fwd s (n + 1) i r.1 r.2 hi h
      omega
    have ih : ∀ i r, i ≤ s.size → valN s n i = some r → valN t n' i = some r := fun i r hi h => valN_ext (by omega) hi h
    unfold valN at h ⊢
    rw [E.eq i hl]
    split at h
    · rename_i hc
      rw [if_pos hc]
      simp only [Option.map_eq_some_iff] at h ⊢
      obtain ⟨a, h1, h2⟩ := h
      exact ⟨a, membsAt_ext E ih (valN_fwd s n) hl h1, h2⟩
    · rename_i hc1
      rw [if_neg hc1]
      split at h
      · rename_i hc
        rw [if_pos hc]
        simp only [Option.map_eq_some_iff] at h ⊢
        obtain ⟨a, h1, h2⟩ := h
        exact ⟨a, elemsAt_ext E ih (valN_fwd s n) hl h1, h2⟩
      · rename_i hc2
        rw [if_neg hc2]
        split at h
        · rename_i hc
          rw [if_pos hc]
          simp only [Option.map_eq_some_iff] at h ⊢
          obtain ⟨a, h1, h2⟩ := h
          exact ⟨a, strAt_ext E h1, h2⟩
        · rename_i hc3
          rw [if_neg hc3]
          split at h
          · rename_i hc
            rw [if_pos hc]
            simp only [Option.map_eq_some_iff] at h ⊢
            obtain ⟨a, h1, h2⟩ := h
            exact ⟨a, num_ext E hl h1, h2⟩
          · rename_i hc4
            rw [if_neg hc4]
            split at h
            · rename_i hw
              rw [word_ext E hw, if_pos rfl]; exact h
            · rename_i hw1
              split at h
              · rename_i hw
                have hn : ¬ wordAt t i nullT = true := fun h' => by
                  unfold wordAt at h' hw
                  simp only [Bool.and_eq_true, decide_eq_true_eq] at h' hw
                  have e := E.eq i hl
                  have a1 := bt_ext t i (i + nullT.size) 0 (by omega) (by rw [h'.2]; decide)
                  have a2 := bt_ext s i (i + falseT.size) 0 (by omega) (by rw [hw.2]; decide)
                  rw [h'.2] at a1
                  rw [hw.2] at a2
                  simp only [Int.add_zero] at a1 a2
                  rw [e, ← a2] at a1
                  revert a1; decide
                rw [if_neg hn, word_ext E hw, if_pos rfl]; exact h
              · rename_i hw2
                split at h
                · rename_i hw
                  have hne : ∀ x : ByteArray, 0 < x.size → bt x 0 ≠ 116 → ¬ wordAt t i x = true := fun x hx0 hx h' => by
                    unfold wordAt at h' hw
                    simp only [Bool.and_eq_true, decide_eq_true_eq] at h' hw
                    have e := E.eq i hl
                    have a1 := bt_ext t i (i + x.size) 0 (by omega) (by rw [h'.2]; omega)
                    have a2 := bt_ext s i (i + trueT.size) 0 (by omega) (by rw [hw.2]; decide)
                    rw [h'.2] at a1
                    rw [hw.2] at a2
                    simp only [Int.add_zero] at a1 a2
                    rw [e, ← a2] at a1
                    exact hx (a1.trans (by decide))
                  rw [if_neg (hne nullT (by decide) (by decide)), if_neg (hne falseT (by decide) (by decide)), word_ext E hw, if_pos rfl]; exact h
                · cases h
end
end Go.Proofs.Ytmpjkhcddfdboaa.L
