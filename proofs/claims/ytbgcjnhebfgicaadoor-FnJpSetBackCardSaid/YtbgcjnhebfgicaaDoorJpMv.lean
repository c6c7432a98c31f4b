/- A JSON text that stands ahead of something else; fuel. No program in sight. A value's text at another place, in plain Lean: no program in sight. A value's text at another place: elements, members, values. In plain Lean: no program in sight. A text with another in a value's place: what is read there. In plain Lean: no program in sight. -/
import Derived.Test.YtbgcjnhebfgicaaDoorJson
import Derived.Test.YtbgcjnhebfgicaaDoorJpKeyP
import Derived.Test.YtbgcjnhebfgicaaDoorJpFindP
import Derived.Test.YtbgcjnhebfgicaaDoorJsX
namespace Go.Proofs.YtbgcjnhebfgicaaDoor.L
section
set_option linter.unusedVariables false

/-- t begins with s; what stands behind s there continues no number. -/
structure Ext (s t : ByteArray) : Prop where
  le : s.size ≤ t.size
  eq : ∀ i : Nat, i < s.size → bt t i = bt s i
  dg : isDigit (bt t s.size) = false
  n1 : bt t s.size ≠ 46
  n2 : bt t s.size ≠ 101
  n3 : bt t s.size ≠ 69
theorem Ext.refl (s : ByteArray) : Ext s s := by
  have h := bt_out s s.size (by omega)
  exact ⟨Nat.le_refl _, fun _ _ => rfl, by rw [h]; rfl, by rw [h]; decide, by rw [h]; decide, by rw [h]; decide⟩

section
variable {s t : ByteArray} (E : Ext s t)
include E
theorem Ext.of (i : Nat) (h : bt s i ≠ 0) : bt t i = bt s i := E.eq i (lt_of_bt h)
theorem esc_ext {i j : Nat} (h : escAt s i = some j) : escAt t i = some j := by
  unfold escAt at h ⊢
  split at h
  · rename_i hc
    rw [E.of i (by omega), if_pos hc]
    exact h
  · rename_i hc
    split at h
    · rename_i hu
      split at h
      · rename_i hh
        have h4 := hex_ne hh.2.2.2
        rw [E.eq i (by omega), if_neg hc, if_pos hu, E.eq (i + 1) (by omega), E.eq (i + 2) (by omega), E.eq (i + 3) (by omega), E.eq (i + 4) (by omega), if_pos hh]
        exact h
      · cases h
    · cases h
theorem str_ext : ∀ {k k' i j : Nat}, k ≤ k' → strN s k i = some j → strN t k' i = some j
  | 0, _, _, _, _, h => by cases h
  | k + 1, 0, _, _, hk, _ => absurd hk (by omega)
  | k + 1, k' + 1, i, j, hk, h => by
    unfold strN at h ⊢
    split at h
    · rename_i hi
      rw [if_pos (Nat.lt_of_lt_of_le hi E.le), E.eq i hi]
      split at h
      · rename_i hc; rw [if_pos hc]; exact h
      · rename_i hc
        rw [if_neg hc]
        split at h
        · cases h
        · rename_i hl
          rw [if_neg hl]
          split at h
          · rename_i h92
            rw [if_pos h92]
            split at h
            · rename_i l hl2
              rw [esc_ext E hl2]
              exact str_ext (by omega) h
            · cases h
          · rename_i h92
            rw [if_neg h92]
            exact str_ext (by omega) h
    · cases h
theorem strAt_ext {i j : Nat} (h : strAt s i = some j) : strAt t i = some j := str_ext E (by have := E.le; omega) h
theorem skip_ext (p : Int → Bool) (hp : p (bt t s.size) = false) : ∀ (k i : Nat), i ≤ s.size → s.size - i ≤ k → skip p t i = skip p s i
  | 0, i, hi, hk => by
    obtain rfl : i = s.size := by omega
    rw [skip_no (s := s) (by omega), skip_no (s := t) (fun h => by rw [hp] at h; simp at h)]
  | k + 1, i, hi, hk => by
    by_cases hl : i < s.size
    · by_cases hc : p (bt s i) = true
      · rw [skip_yes hl hc, skip_yes (Nat.lt_of_lt_of_le hl E.le) (by rw [E.eq i hl]; exact hc)]
        exact skip_ext p hp k (i + 1) (by omega) (by omega)
      · rw [skip_no (s := s) (fun h => hc h.2), skip_no (s := t) (fun h => by rw [E.eq i hl] at h; exact hc h.2)]
    · obtain rfl : i = s.size := by omega
      rw [skip_no (s := s) (by omega), skip_no (s := t) (fun h => by rw [hp] at h; simp at h)]
/-- Over blanks to something that is none. -/
theorem blank_ext {i : Nat} : ∀ (k : Nat), s.size - i ≤ k → skip isBlank s i < s.size → skip isBlank t i = skip isBlank s i := by
  intro k
  induction k generalizing i with
  | zero => intro hk h; have := skip_le isBlank s i; omega
  | succ k ih =>
    intro hk h
    by_cases hl : i < s.size
    · by_cases hc : isBlank (bt s i) = true
      · rw [skip_yes hl hc] at h ⊢
        rw [skip_yes (Nat.lt_of_lt_of_le hl E.le) (by rw [E.eq i hl]; exact hc)]
        exact ih (by omega) h
      · rw [skip_no (s := s) (fun h => hc h.2), skip_no (s := t) (fun h => by rw [E.eq i hl] at h; exact hc h.2)]
    · have := skip_le isBlank s i; omega
theorem blank_at {i : Nat} {c : Int} (hc : c ≠ 0) (h : bt s (skip isBlank s i) = c) : skip isBlank t i = skip isBlank s i ∧ bt t (skip isBlank s i) = c := by
  have hl := lt_of_bt (s := s) (i := skip isBlank s i) (by rw [h]; exact hc)
  exact ⟨blank_ext E _ (Nat.le_refl _) hl, (E.eq _ hl).trans h⟩
theorem digits_ext {i j : Nat} (hi : i ≤ s.size) (h : digitsAt s i = some j) : digitsAt t i = some j := by
  unfold digitsAt at h ⊢
  rw [skip_ext E isDigit E.dg _ i hi (Nat.le_refl _)]
  exact h
theorem int_ext {i j : Nat} (hi : i ≤ s.size) (h : numInt s i = some j) : numInt t i = some j := by
  unfold numInt at h ⊢
  split at h
  · rename_i hc
    rw [E.of i (by omega), if_pos hc]; exact h
  · rename_i hc
    have hne : ¬ bt t i = 48 := by
      rcases Nat.lt_or_ge i s.size with hl | hl
      · rw [E.eq i hl]; exact hc
      · obtain rfl : i = s.size := by omega
        intro h48
        have := E.dg
        rw [h48] at this
        revert this; decide
    rw [if_neg hne]
    exact digits_ext E hi h
theorem frac_ext {i j : Nat} (hi : i ≤ s.size) (h : numFrac s i = some j) : numFrac t i = some j := by
  unfold numFrac at h ⊢
  split at h
  · rename_i hc
    have hl := lt_of_bt (s := s) (i := i) (by omega)
    rw [E.eq i hl, if_pos hc]
    exact digits_ext E (by omega) h
  · rename_i hc
    have hne : ¬ bt t i = 46 := by
      rcases Nat.lt_or_ge i s.size with hl | hl
      · rw [E.eq i hl]; exact hc
      · obtain rfl : i = s.size := by omega
        exact E.n1
    rw [if_neg hne]; exact h
theorem exp_ext {i j : Nat} (hi : i ≤ s.size) (h : numExp s i = some j) : numExp t i = some j := by
  unfold numExp at h ⊢
  split at h
  · rename_i hc
    have hl := lt_of_bt (s := s) (i := i) (by omega)
    rw [E.eq i hl, if_pos hc]
    have h1 := numSign_step (s := s) (i := i + 1) (by omega)
    have hs : numSign t (i + 1) = numSign s (i + 1) := by
      unfold numSign
      rcases Nat.lt_or_ge (i + 1) s.size with hl2 | hl2
      · rw [E.eq (i + 1) hl2]
      · -- the text ends: no digits
        exfalso
        unfold numSign at h
        rw [bt_out s _ (by omega), if_neg (by decide)] at h
        unfold digitsAt at h
        rw [skip_no (by omega)] at h
        simp at h
    rw [hs]
    exact digits_ext E h1.2 h
  · rename_i hc
    have hne : ¬ (bt t i = 101 ∨ bt t i = 69) := by
      rcases Nat.lt_or_ge i s.size with hl | hl
      · rw [E.eq i hl]; exact hc
      · obtain rfl : i = s.size := by omega
        rintro (h' | h')
        · exact E.n2 h'
        · exact E.n3 h'
    rw [if_neg hne]; exact h
theorem num_ext {i j : Nat} (hi : i < s.size) (h : numAt s i = some j) : numAt t i = some j := by
  unfold numAt at h ⊢
  rw [E.eq i hi]
  simp only [Option.bind_eq_some_iff] at h ⊢
  obtain ⟨a, h1, b, h2, h3⟩ := h
  have h0 : (if bt s i = 45 then i + 1 else i) ≤ s.size := by split <;> omega
  have g1 := numInt_step h0 h1
  have g2 := numFrac_step g1.2 h2
  exact ⟨a, int_ext E h0 h1, b, frac_ext E g1.2 h2, exp_ext E g2.2 h3⟩
theorem ext_extract {i j : Nat} (hj : j ≤ s.size) : t.extract i j = s.extract i j := by
  have hle := E.le
  refine eq_of_bt (by rw [size_ext, size_ext]; omega) fun k hk => ?_
  rw [bt_ext t i j k (by omega) (by omega), bt_ext s i j k (by omega) (by rw [size_ext] at hk ⊢; omega)]
  rw [size_ext] at hk
  have := E.eq (i + k) (by omega)
  rw [show ((i : Int) + (k : Int)) = ((i + k : Nat) : Int) by omega]
  exact this
theorem word_ext {i : Nat} {x : ByteArray} (h : wordAt s i x = true) : wordAt t i x = true := by
  unfold wordAt at h ⊢
  simp only [Bool.and_eq_true, decide_eq_true_eq] at h ⊢
  exact ⟨Nat.le_trans h.1 E.le, by rw [ext_extract E h.1]; exact h.2⟩
theorem elemsN_ext {f g : Nat → Option (Nat × Pl)} (hfg : ∀ i r, i ≤ s.size → f i = some r → g i = some r) (hf : Fwd s f) : ∀ {k k' i : Nat} {acc : List Pl} {r : Nat × List Pl}, k ≤ k' → i ≤ s.size → elemsN f s k i acc = some r → elemsN g t k' i acc = some r
  | 0, _, _, _, _, _, _, h => by cases h
  | k + 1, 0, _, _, _, hk, _, _ => absurd hk (by omega)
  | k + 1, k' + 1, i, acc, r, hk, hi, h => by
    unfold elemsN at h ⊢
    split at h
    · cases h
    · rename_i l p hl
      rw [hfg i _ hi hl]
      have h1 := hf i l p hi hl
      split at h
      · rename_i hc
        obtain ⟨e1, e2⟩ := blank_at E (by decide) hc
        simp only [e1, e2, if_true]
        exact h
      · rename_i hc
        split at h
        · rename_i hc2
          obtain ⟨e1, e2⟩ := blank_at E (by decide) hc2
          have h4 := lt_of_bt (s := s) (i := skip isBlank s l) (by omega)
          simp only [e1, e2]
          rw [if_neg (by decide), if_pos trivial]
          have h6 := skip_top isBlank s (i := skip isBlank s l + 1) (by omega)
          -- a value begins behind the comma
          have hlt : skip isBlank s (skip isBlank s l + 1) < s.size := by
            rcases Nat.lt_or_ge (skip isBlank s (skip isBlank s l + 1)) s.size with hx | hx
            · exact hx
            · exfalso
              have := elemsN_step hf h6 h
              omega
          rw [blank_ext E _ (Nat.le_refl _) hlt]
          exact elemsN_ext hfg hf (by omega) h6 h
        · cases h
theorem elemsAt_ext {f g : Nat → Option (Nat × Pl)} (hfg : ∀ i r, i ≤ s.size → f i = some r → g i = some r) (hf : Fwd s f) {i : Nat} {r : Nat × List Pl} (hi : i < s.size) (h : elemsAt f s i = some r) : elemsAt g t i = some r := by
  unfold elemsAt at h ⊢
  split at h
  · rename_i hc
    obtain ⟨e1, e2⟩ := blank_at E (by decide) hc
    rw [e1, e2, if_pos rfl]
    exact h
  · rename_i hc
    have h6 := skip_top isBlank s (i := i + 1) (by omega)
    have h7 := elemsN_step hf h6 h
    rw [blank_ext E _ (Nat.le_refl _) (show skip isBlank s (i + 1) < s.size by omega), E.eq _ (by omega), if_neg hc]
    exact elemsN_ext E hfg hf (by have := E.le; omega) h6 h
theorem membsN_ext {f g : Nat → Option (Nat × Pl)} (hfg : ∀ i r, i ≤ s.size → f i = some r → g i = some r) (hf : Fwd s f) : ∀ {k k' i : Nat} {ns : List (Nat × Nat)} {ks : List Pl} {r : Nat × List (Nat × Nat) × List Pl}, k ≤ k' → i ≤ s.size → membsN f s k i ns ks = some r → membsN g t k' i ns ks = some r
  | 0, _, _, _, _, _, _, _, h => by cases h
  | k + 1, 0, _, _, _, _, hk, _, _ => absurd hk (by omega)
  | k + 1, k' + 1, i, ns, ks, r, hk, hi, h => by
    unfold membsN at h ⊢
    split at h
    · rename_i h34
      rw [E.of i (by omega), if_pos h34]
      split at h
      · cases h
      · rename_i m hm
        rw [strAt_ext E hm]
        have h1 := strAt_step hm
        split at h
        · rename_i h58
          obtain ⟨e1, e2⟩ := blank_at E (by decide) h58
          have h4 := lt_of_bt (s := s) (i := skip isBlank s m) (by omega)
          have h6 := skip_top isBlank s (i := skip isBlank s m + 1) (by omega)
          simp only [e1, e2]
          rw [if_pos trivial]
          split at h
          · cases h
          · rename_i l p hl
            have g1 := hf _ l p h6 hl
            rw [blank_ext E _ (Nat.le_refl _) (show skip isBlank s (skip isBlank s m + 1) < s.size by omega), hfg _ _ h6 hl]
            split at h
            · rename_i hc
              obtain ⟨e3, e4⟩ := blank_at E (by decide) hc
              simp only [e3, e4, if_true]
              exact h
            · rename_i hc
              split at h
              · rename_i hc2
                obtain ⟨e3, e4⟩ := blank_at E (by decide) hc2
                have g4 := lt_of_bt (s := s) (i := skip isBlank s l) (by omega)
                have g6 := skip_top isBlank s (i := skip isBlank s l + 1) (by omega)
                have g7 := membsN_step hf g6 h
                simp only [e3, e4]
                rw [if_neg (by decide), if_pos trivial, blank_ext E _ (Nat.le_refl _) (show skip isBlank s (skip isBlank s l + 1) < s.size by omega)]
                exact membsN_ext hfg hf (by omega) g6 h
              · cases h
        · cases h
    · cases h
theorem membsAt_ext {f g : Nat → Option (Nat × Pl)} (hfg : ∀ i r, i ≤ s.size → f i = some r → g i = some r) (hf : Fwd s f) {i : Nat} {r : Nat × List (Nat × Nat) × List Pl} (hi : i < s.size) (h : membsAt f s i = some r) : membsAt g t i = some r := by
  unfold membsAt at h ⊢
  split at h
  · rename_i hc
    obtain ⟨e1, e2⟩ := blank_at E (by decide) hc
    rw [e1, e2, if_pos rfl]
    exact h
  · rename_i hc
    have h6 := skip_top isBlank s (i := i + 1) (by omega)
    have h7 := membsN_step hf h6 h
    rw [blank_ext E _ (Nat.le_refl _) (show skip isBlank s (i + 1) < s.size by omega), E.eq _ (by omega), if_neg hc]
    exact membsN_ext E hfg hf (by have := E.le; omega) h6 h
theorem valN_ext : ∀ {n n' i : Nat} {r : Nat × Pl}, n ≤ n' → i ≤ s.size → valN s n i = some r → valN t n' i = some r
  | 0, _, _, _, _, _, h => by cases h
  | n + 1, 0, _, _, hn, _, _ => absurd hn (by omega)
  | n + 1, n' + 1, i, r, hn, hi, h => by
    have hl : i < s.size := by
      have := valN_fwd s (n + 1) i r.1 r.2 hi h
      omega
    have ih : ∀ i r, i ≤ s.size → valN s n i = some r → valN t n' i = some r := fun i r hi h => valN_ext (by omega) hi h
    unfold valN at h ⊢
    rw [E.eq i hl]
    split at h
    · rename_i hc
      rw [if_pos hc]
      simp only [Option.map_eq_some_iff] at h ⊢
      obtain ⟨a, h1, h2⟩ := h
      exact ⟨a, membsAt_ext E ih (valN_fwd s n) hl h1, h2⟩
    · rename_i hc1
      rw [if_neg hc1]
      split at h
      · rename_i hc
        rw [if_pos hc]
        simp only [Option.map_eq_some_iff] at h ⊢
        obtain ⟨a, h1, h2⟩ := h
        exact ⟨a, elemsAt_ext E ih (valN_fwd s n) hl h1, h2⟩
      · rename_i hc2
        rw [if_neg hc2]
        split at h
        · rename_i hc
          rw [if_pos hc]
          simp only [Option.map_eq_some_iff] at h ⊢
          obtain ⟨a, h1, h2⟩ := h
          exact ⟨a, strAt_ext E h1, h2⟩
        · rename_i hc3
          rw [if_neg hc3]
          split at h
          · rename_i hc
            rw [if_pos hc]
            simp only [Option.map_eq_some_iff] at h ⊢
            obtain ⟨a, h1, h2⟩ := h
            exact ⟨a, num_ext E hl h1, h2⟩
          · rename_i hc4
            rw [if_neg hc4]
            split at h
            · rename_i hw
              rw [word_ext E hw, if_pos rfl]; exact h
            · rename_i hw1
              split at h
              · rename_i hw
                have hn : ¬ wordAt t i nullT = true := fun h' => by
                  unfold wordAt at h' hw
                  simp only [Bool.and_eq_true, decide_eq_true_eq] at h' hw
                  have e := E.eq i hl
                  have a1 := bt_ext t i (i + nullT.size) 0 (by omega) (by rw [h'.2]; decide)
                  have a2 := bt_ext s i (i + falseT.size) 0 (by omega) (by rw [hw.2]; decide)
                  rw [h'.2] at a1
                  rw [hw.2] at a2
                  simp only [Int.add_zero] at a1 a2
                  rw [e, ← a2] at a1
                  revert a1; decide
                rw [if_neg hn, word_ext E hw, if_pos rfl]; exact h
              · rename_i hw2
                split at h
                · rename_i hw
                  have hne : ∀ x : ByteArray, 0 < x.size → bt x 0 ≠ 116 → ¬ wordAt t i x = true := fun x hx0 hx h' => by
                    unfold wordAt at h' hw
                    simp only [Bool.and_eq_true, decide_eq_true_eq] at h' hw
                    have e := E.eq i hl
                    have a1 := bt_ext t i (i + x.size) 0 (by omega) (by rw [h'.2]; omega)
                    have a2 := bt_ext s i (i + trueT.size) 0 (by omega) (by rw [hw.2]; decide)
                    rw [h'.2] at a1
                    rw [hw.2] at a2
                    simp only [Int.add_zero] at a1 a2
                    rw [e, ← a2] at a1
                    exact hx (a1.trans (by decide))
                  rw [if_neg (hne nullT (by decide) (by decide)), if_neg (hne falseT (by decide) (by decide)), word_ext E hw, if_pos rfl]; exact h
                · cases h
end
end
end Go.Proofs.YtbgcjnhebfgicaaDoor.L
namespace Go.Proofs.YtbgcjnhebfgicaaDoor.Jp
section
open L
set_option linter.unusedVariables false
set_option linter.unusedSimpArgs false
set_option linter.unusedSectionVars false

/-- Bytes a + k of t are bytes b + k of s, for k below h. -/
structure Mov (s t : ByteArray) (a b h : Nat) : Prop where
  ta : a + h ≤ t.size
  sb : b + h ≤ s.size
  eq : ∀ k : Nat, k < h → bt t ((a + k : Nat) : Int) = bt s ((b + k : Nat) : Int)
theorem digits_go {s : ByteArray} {i j : Nat} (hs : digitsAt s i = some j) : i < j := by
  unfold digitsAt at hs
  split at hs
  · rename_i hgt
    simp only [Option.some.injEq] at hs
    omega
  · cases hs
theorem int_go {s : ByteArray} {i j : Nat} (hs : numInt s i = some j) : i < j := by
  unfold numInt at hs
  split at hs
  · simp only [Option.some.injEq] at hs; omega
  · exact digits_go hs
theorem frac_go {s : ByteArray} {i j : Nat} (hs : numFrac s i = some j) : i ≤ j := by
  unfold numFrac at hs
  split at hs
  · have := digits_go hs; omega
  · simp only [Option.some.injEq] at hs; omega
theorem exp_go {s : ByteArray} {i j : Nat} (hs : numExp s i = some j) : i ≤ j := by
  unfold numExp at hs
  split at hs
  · have h1 := digits_go hs
    unfold numSign at h1
    split at h1 <;> omega
  · simp only [Option.some.injEq] at hs; omega
theorem esc_go {s : ByteArray} {i j : Nat} (hs : escAt s i = some j) : i < j := by
  unfold escAt at hs
  split at hs
  · simp only [Option.some.injEq] at hs; omega
  · split at hs
    · split at hs
      · simp only [Option.some.injEq] at hs; omega
      · cases hs
    · cases hs
theorem strN_go {s : ByteArray} : ∀ {k i j : Nat}, strN s k i = some j → i < j ∧ j ≤ s.size
  | 0, _, _, h => by cases h
  | k + 1, i, j, h => by
    unfold strN at h
    split at h
    · rename_i hi
      split at h
      · simp only [Option.some.injEq] at h; omega
      · split at h
        · cases h
        · split at h
          · split at h
            · rename_i l hl
              have h1 := esc_go hl
              have h2 := strN_go h
              omega
            · cases h
          · have h2 := strN_go h
            omega
    · cases h
section
variable {s t : ByteArray} {a b h : Nat} (M : Mov s t a b h)
include M
theorem skip_mov (p : Int → Bool) : ∀ (n i j : Nat), j - i ≤ n → L.skip p s (b + i) = b + j → j < h → L.skip p t (a + i) = a + j
  | n, i, j, hn, hs, hj => by
    have hle := L.skip_le p s (b + i)
    have hta := M.ta
    have hsb := M.sb
    have hij : i ≤ j := by omega
    have e := M.eq i (by omega)
    by_cases hp : p (bt s ((b + i : Nat) : Int)) = true
    · have h1 := L.skip_yes (p := p) (s := s) (i := b + i) (by omega) hp
      rw [hs] at h1
      have h2 := L.skip_le p s (b + i + 1)
      rw [L.skip_yes (p := p) (s := t) (i := a + i) (by omega) (by rw [e]; exact hp)]
      cases n with
      | zero => omega
      | succ n => exact skip_mov p n (i + 1) j (by omega) (by rw [← Nat.add_assoc]; exact h1.symm) hj
    · have h1 := L.skip_no (p := p) (s := s) (i := b + i) (fun hh => hp hh.2)
      rw [L.skip_no (p := p) (s := t) (i := a + i) (fun hh => hp (by rw [← e]; exact hh.2))]
      omega
theorem digits_mov {i j : Nat} (hj : j < h) (hs : digitsAt s (b + i) = some (b + j)) : digitsAt t (a + i) = some (a + j) := by
  unfold digitsAt at hs ⊢
  split at hs
  · rename_i hgt
    simp only [Option.some.injEq] at hs
    have hm := skip_mov M isDigit (j - i) i j (Nat.le_refl _) hs hj
    rw [hm, if_pos (by omega)]
  · cases hs
theorem int_mov {i j : Nat} (hi : i < h) (hj : j < h) (hs : numInt s (b + i) = some (b + j)) : numInt t (a + i) = some (a + j) := by
  have e := M.eq i hi
  unfold numInt at hs ⊢
  rw [e]
  split at hs
  · rename_i hc
    simp only [Option.some.injEq] at hs
    rw [if_pos hc]
    congr 1
    omega
  · rename_i hc
    rw [if_neg hc]
    exact digits_mov M hj hs
theorem frac_mov {i j : Nat} (hi : i < h) (hj : j < h) (hs : numFrac s (b + i) = some (b + j)) : numFrac t (a + i) = some (a + j) := by
  have e := M.eq i hi
  unfold numFrac at hs ⊢
  rw [e]
  split at hs
  · rename_i hc
    rw [if_pos hc]
    rw [Nat.add_assoc] at hs ⊢
    exact digits_mov M hj hs
  · rename_i hc
    simp only [Option.some.injEq] at hs
    rw [if_neg hc]
    congr 1
    omega
theorem sign_mov {i : Nat} (hi : i < h) : ∃ d, numSign s (b + i) = b + (i + d) ∧ numSign t (a + i) = a + (i + d) := by
  have e := M.eq i hi
  unfold numSign
  rw [e]
  split
  · exact ⟨1, by omega, by omega⟩
  · exact ⟨0, by omega, by omega⟩
theorem exp_mov {i j : Nat} (hi : i < h) (hj : j < h) (hs : numExp s (b + i) = some (b + j)) : numExp t (a + i) = some (a + j) := by
  have e := M.eq i hi
  unfold numExp at hs ⊢
  rw [e]
  split at hs
  · rename_i hc
    rw [if_pos hc]
    rw [Nat.add_assoc] at hs ⊢
    have hlt : i + 1 < h := by
      have h1 := digits_go hs
      unfold numSign at h1
      split at h1 <;> omega
    obtain ⟨d, h1, h2⟩ := sign_mov M hlt
    rw [h1] at hs
    rw [h2]
    exact digits_mov M hj hs
  · rename_i hc
    simp only [Option.some.injEq] at hs
    rw [if_neg hc]
    congr 1
    omega
theorem esc_mov {i j : Nat} (hi : i < h) (hj : j ≤ h) (hs : escAt s (b + i) = some (b + j)) : escAt t (a + i) = some (a + j) := by
  have e := M.eq i hi
  unfold escAt at hs ⊢
  split at hs
  · rename_i hc
    simp only [Option.some.injEq] at hs
    rw [e, if_pos hc]
    congr 1
    omega
  · rename_i hc
    split at hs
    · rename_i hu
      split at hs
      · rename_i hh
        simp only [Option.some.injEq] at hs
        have g : ∀ d : Nat, d ≤ 4 → bt t ((a + i + d : Nat) : Int) = bt s ((b + i + d : Nat) : Int) := fun d hd => by
          have := M.eq (i + d) (by omega)
          rwa [← Nat.add_assoc, ← Nat.add_assoc] at this
        rw [e, if_neg hc, if_pos hu, g 1 (by omega), g 2 (by omega), g 3 (by omega), g 4 (by omega), if_pos hh]
        congr 1
        omega
      · cases hs
    · cases hs
theorem num_mov {i j : Nat} (hj : j < h) (hs : numAt s (b + i) = some (b + j)) : numAt t (a + i) = some (a + j) := by
  unfold numAt at hs
  obtain ⟨j1, h1, hs⟩ := Option.bind_eq_some_iff.1 hs
  obtain ⟨j2, h2, h3⟩ := Option.bind_eq_some_iff.1 hs
  have g1 := int_go h1
  have g2 := frac_go h2
  have g3 := exp_go h3
  have hi : i < h := by split at g1 <;> omega
  have e := M.eq i hi
  obtain ⟨x1, rfl⟩ : ∃ x, j1 = b + x := ⟨j1 - b, by split at g1 <;> omega⟩
  obtain ⟨x2, rfl⟩ : ∃ x, j2 = b + x := ⟨j2 - b, by omega⟩
  have k2 := frac_mov M (by omega) (by omega) h2
  have k3 := exp_mov M (by omega) (by omega) h3
  have k1 : numInt t (if bt t ((a + i : Nat) : Int) = 45 then a + i + 1 else a + i) = some (a + x1) := by
    rw [e]
    split
    · rename_i hc
      rw [if_pos hc, Nat.add_assoc] at h1
      rw [Nat.add_assoc]
      exact int_mov M (by rw [if_pos hc] at g1; omega) (by omega) h1
    · rename_i hc
      rw [if_neg hc] at h1
      exact int_mov M hi (by omega) h1
  unfold numAt
  rw [k1, Option.bind_some, k2, Option.bind_some, k3]
theorem str_mov : ∀ {k k' i j : Nat}, strN s k (b + i) = some (b + j) → j ≤ h → j ≤ i + k' → strN t k' (a + i) = some (a + j)
  | 0, _, _, _, hs, _, _ => by cases hs
  | k + 1, 0, i, j, hs, hj, hk => by have := strN_go hs; omega
  | k + 1, k' + 1, i, j, hs, hj, hk => by
    have hgo := strN_go hs
    have e := M.eq i (by omega)
    have hta := M.ta
    unfold strN at hs ⊢
    split at hs
    · rename_i hi
      rw [if_pos (by omega), e]
      split at hs
      · rename_i hc
        simp only [Option.some.injEq] at hs
        rw [if_pos hc]
        congr 1
        omega
      · rename_i hc
        rw [if_neg hc]
        split at hs
        · cases hs
        · rename_i hl
          rw [if_neg hl]
          split at hs
          · rename_i h92
            rw [if_pos h92]
            split at hs
            · rename_i l hl2
              have g1 := esc_go hl2
              have g2 := strN_go hs
              obtain ⟨x, rfl⟩ : ∃ x, l = b + x := ⟨l - b, by omega⟩
              rw [Nat.add_assoc] at hl2
              rw [Nat.add_assoc, esc_mov M (by omega) (by omega) hl2]
              exact str_mov hs hj (by omega)
            · cases hs
          · rename_i h92
            rw [if_neg h92]
            rw [Nat.add_assoc] at hs ⊢
            exact str_mov hs hj (by omega)
    · cases hs
theorem strAt_mov {i j : Nat} (hj : j ≤ h) (hs : strAt s (b + i) = some (b + j)) : strAt t (a + i) = some (a + j) := by
  have hta := M.ta
  unfold strAt at hs ⊢
  rw [Nat.add_assoc] at hs ⊢
  exact str_mov M hs hj (by omega)
theorem ext_mov {i j : Nat} (hj : j ≤ h) : t.extract (a + i) (a + j) = s.extract (b + i) (b + j) := by
  have hta := M.ta
  have hsb := M.sb
  refine eq_of_bt (by rw [size_ext, size_ext]; omega) fun k hk => ?_
  rw [size_ext] at hk
  rw [bt_ext _ _ _ _ (by omega) (by rw [size_ext]; omega), bt_ext _ _ _ _ (by omega) (by rw [size_ext]; omega)]
  have := M.eq (i + k) (by omega)
  rwa [← Nat.add_assoc, ← Nat.add_assoc] at this
theorem word_mov {i : Nat} {x : ByteArray} (hj : i + x.size ≤ h) (hs : wordAt s (b + i) x = true) : wordAt t (a + i) x = true := by
  have hta := M.ta
  unfold wordAt at hs ⊢
  simp only [Bool.and_eq_true, decide_eq_true_eq] at hs ⊢
  refine ⟨by omega, ?_⟩
  rw [Nat.add_assoc, ext_mov M hj, ← Nat.add_assoc]
  exact hs.2
/-- A word that is not at the one place is not at the other. -/
theorem word_mov' {i : Nat} {x : ByteArray} (hj : i + x.size ≤ h) (hs : wordAt s (b + i) x = false) : wordAt t (a + i) x = false := by
  have hsb := M.sb
  cases hw : wordAt t (a + i) x with
  | false => rfl
  | true =>
    unfold wordAt at hs hw
    simp only [Bool.and_eq_true, decide_eq_true_eq] at hw
    rw [decide_eq_true (by omega), Bool.true_and, decide_eq_false_iff_not] at hs
    exact absurd (by rw [Nat.add_assoc, ← ext_mov M hj, ← Nat.add_assoc]; exact hw.2) hs
end
end
end Go.Proofs.YtbgcjnhebfgicaaDoor.Jp
namespace Go.Proofs.YtbgcjnhebfgicaaDoor.Jp
section
open L
set_option linter.unusedVariables false
set_option linter.unusedSimpArgs false
set_option linter.unusedSectionVars false

theorem val_lt {s : ByteArray} {n i : Nat} {r : Nat × Pl} (h : valN s n i = some r) : i < s.size := by
  rcases Nat.lt_or_ge i s.size with hlt | hge
  · exact hlt
  · exfalso
    have h0 : bt s ((i : Nat) : Int) = 0 := bt_out s _ (by omega)
    cases n with
    | zero => cases h
    | succ n =>
      unfold valN at h
      rw [h0] at h
      have w1 : ∀ x : ByteArray, 0 < x.size → wordAt s i x = false := fun x hx => by
        unfold wordAt
        rw [decide_eq_false (by omega), Bool.false_and]
      rw [if_neg (by decide), if_neg (by decide), if_neg (by decide), if_neg (by decide), w1 _ (by decide), w1 _ (by decide), w1 _ (by decide), if_neg (by decide), if_neg (by decide), if_neg (by decide)] at h
      cases h
theorem val_go {s : ByteArray} {n i j : Nat} {p : Pl} (h : valN s n i = some (j, p)) : i < j ∧ j ≤ s.size := by
  have h1 := val_lt h
  have h2 := vok _ _ _ _ (by omega) h
  exact ⟨h2.1, h2.2.1⟩
theorem elems_go {f : Nat → Option (Nat × Pl)} {s : ByteArray} (hf : ∀ i j p, f i = some (j, p) → i < j) : ∀ {k i j : Nat} {acc ps : List Pl}, elemsN f s k i acc = some (j, ps) → i < j
  | 0, _, _, _, _, h => by cases h
  | k + 1, i, j, acc, ps, h => by
    unfold elemsN at h
    split at h
    · cases h
    · rename_i l p hl
      have h1 := hf _ _ _ hl
      have h2 := L.skip_le isBlank s l
      split at h
      · simp only [Option.some.injEq, Prod.mk.injEq] at h; omega
      · split at h
        · have h3 := elems_go hf h
          have h4 := L.skip_le isBlank s (L.skip isBlank s l + 1)
          omega
        · cases h
theorem membs_go {f : Nat → Option (Nat × Pl)} {s : ByteArray} (hf : ∀ i j p, f i = some (j, p) → i < j) : ∀ {k i j : Nat} {ns : List (Nat × Nat)} {ks : List Pl} {r : List (Nat × Nat) × List Pl}, membsN f s k i ns ks = some (j, r) → i < j
  | 0, _, _, _, _, _, h => by cases h
  | k + 1, i, j, ns, ks, r, h => by
    unfold membsN at h
    split at h
    · split at h
      · cases h
      · rename_i m hm
        have h0 := strN_go hm
        have h1 := L.skip_le isBlank s m
        split at h
        · split at h
          · cases h
          · rename_i l p hl
            have h2 := hf _ _ _ hl
            have h3 := L.skip_le isBlank s (L.skip isBlank s m + 1)
            have h4 := L.skip_le isBlank s l
            split at h
            · simp only [Option.some.injEq, Prod.mk.injEq] at h; omega
            · split at h
              · have h5 := membs_go hf h
                have h6 := L.skip_le isBlank s (L.skip isBlank s l + 1)
                omega
              · cases h
        · cases h
    · cases h
section
variable {s t : ByteArray} {a b h : Nat} (M : Mov s t a b h)
include M
theorem skip_mov' (p : Int → Bool) {i j : Nat} (hs : L.skip p s (b + i) = b + j) (hj : j < h) : L.skip p t (a + i) = a + j := skip_mov M p (j - i) i j (Nat.le_refl _) hs hj
theorem elems_mov {f g : Nat → Option (Nat × Pl)} (hf : ∀ i j p, f i = some (j, p) → i < j) (hfg : ∀ i j p, f (b + i) = some (b + j, p) → j < h → ∃ p', g (a + i) = some (a + j, p')) :
    ∀ {k k' i j : Nat} {acc ps acc' : List Pl}, elemsN f s k (b + i) acc = some (b + j, ps) → j ≤ h → j ≤ i + k' → ∃ ps', elemsN g t k' (a + i) acc' = some (a + j, ps')
  | 0, _, _, _, _, _, _, hs, _, _ => by cases hs
  | k + 1, 0, i, j, acc, ps, acc', hs, hj, hk => by have := elems_go hf hs; omega
  | k + 1, k' + 1, i, j, acc, ps, acc', hs, hj, hk => by
    unfold elemsN at hs ⊢
    split at hs
    · cases hs
    · rename_i l p hl
      have h1 := hf _ _ _ hl
      have h2 := L.skip_le isBlank s l
      obtain ⟨x, rfl⟩ : ∃ x, l = b + x := ⟨l - b, by omega⟩
      obtain ⟨y, hy⟩ : ∃ y, L.skip isBlank s (b + x) = b + y := ⟨L.skip isBlank s (b + x) - b, by omega⟩
      rw [hy] at hs h2
      split at hs
      · rename_i hc
        simp only [Option.some.injEq, Prod.mk.injEq] at hs
        obtain ⟨p', hp'⟩ := hfg i x p hl (by omega)
        have hm := skip_mov' M isBlank hy (by omega)
        have e := M.eq y (by omega)
        rw [hp']
        simp only
        rw [hm, e, if_pos hc]
        exact ⟨_, by rw [show a + y + 1 = a + j by omega]⟩
      · rename_i hc
        split at hs
        · rename_i hc2
          have h3 := elems_go hf hs
          have h4 := L.skip_le isBlank s (b + y + 1)
          obtain ⟨z, hz⟩ : ∃ z, L.skip isBlank s (b + y + 1) = b + z := ⟨L.skip isBlank s (b + y + 1) - b, by omega⟩
          rw [hz] at hs h3 h4
          obtain ⟨p', hp'⟩ := hfg i x p hl (by omega)
          have hm := skip_mov' M isBlank hy (by omega)
          have e := M.eq y (by omega)
          have hm2 := skip_mov' M isBlank (i := y + 1) (j := z) (by rw [← Nat.add_assoc]; exact hz) (by omega)
          rw [hp']
          simp only
          rw [hm, e, if_neg hc, if_pos hc2, Nat.add_assoc, hm2]
          exact elems_mov hf hfg hs hj (by omega)
        · cases hs
theorem elemsAt_mov {f g : Nat → Option (Nat × Pl)} (hf : ∀ i j p, f i = some (j, p) → i < j) (hfg : ∀ i j p, f (b + i) = some (b + j, p) → j < h → ∃ p', g (a + i) = some (a + j, p')) {i j : Nat} {ps : List Pl} (hs : elemsAt f s (b + i) = some (b + j, ps)) (hj : j ≤ h) :
    ∃ ps', elemsAt g t (a + i) = some (a + j, ps') := by
  have hta := M.ta
  have h4 := L.skip_le isBlank s (b + i + 1)
  obtain ⟨z, hz⟩ : ∃ z, L.skip isBlank s (b + i + 1) = b + z := ⟨L.skip isBlank s (b + i + 1) - b, by omega⟩
  unfold elemsAt at hs ⊢
  rw [hz] at hs h4
  have hzh : z < h := by
    split at hs
    · simp only [Option.some.injEq, Prod.mk.injEq] at hs; omega
    · have := elems_go hf hs; omega
  have hm2 := skip_mov' M isBlank (i := i + 1) (j := z) (by rw [← Nat.add_assoc]; exact hz) hzh
  have e := M.eq z hzh
  rw [Nat.add_assoc, hm2, e]
  split at hs
  · rename_i hc
    simp only [Option.some.injEq, Prod.mk.injEq] at hs
    rw [if_pos hc]
    exact ⟨_, by rw [show a + z + 1 = a + j by omega]⟩
  · rename_i hc
    rw [if_neg hc]
    exact elems_mov M hf hfg hs hj (by omega)
theorem membs_mov {f g : Nat → Option (Nat × Pl)} (hf : ∀ i j p, f i = some (j, p) → i < j) (hfg : ∀ i j p, f (b + i) = some (b + j, p) → j < h → ∃ p', g (a + i) = some (a + j, p')) :
    ∀ {k k' i j : Nat} {ns ns' : List (Nat × Nat)} {ks ks' : List Pl} {r : List (Nat × Nat) × List Pl}, membsN f s k (b + i) ns ks = some (b + j, r) → j ≤ h → j ≤ i + k' → ∃ r', membsN g t k' (a + i) ns' ks' = some (a + j, r')
  | 0, _, _, _, _, _, _, _, _, hs, _, _ => by cases hs
  | k + 1, 0, i, j, ns, ns', ks, ks', r, hs, hj, hk => by have := membs_go hf hs; omega
  | k + 1, k' + 1, i, j, ns, ns', ks, ks', r, hs, hj, hk => by
    have hij := membs_go hf hs
    have e0 := M.eq i (by omega)
    unfold membsN at hs ⊢
    split at hs
    · rename_i h34
      rw [e0, if_pos h34]
      split at hs
      · cases hs
      · rename_i m hm
        have g0 := strN_go hm
        obtain ⟨u, rfl⟩ : ∃ u, m = b + u := ⟨m - b, by omega⟩
        have h1 := L.skip_le isBlank s (b + u)
        obtain ⟨v, hv⟩ : ∃ v, L.skip isBlank s (b + u) = b + v := ⟨L.skip isBlank s (b + u) - b, by omega⟩
        rw [hv] at hs h1
        split at hs
        · rename_i h58
          have h3 := L.skip_le isBlank s (b + v + 1)
          obtain ⟨q, hq⟩ : ∃ q, L.skip isBlank s (b + v + 1) = b + q := ⟨L.skip isBlank s (b + v + 1) - b, by omega⟩
          rw [hq] at hs h3
          split at hs
          · cases hs
          · rename_i l p hl
            have h2 := hf _ _ _ hl
            obtain ⟨x, rfl⟩ : ∃ x, l = b + x := ⟨l - b, by omega⟩
            have h4 := L.skip_le isBlank s (b + x)
            obtain ⟨y, hy⟩ : ∃ y, L.skip isBlank s (b + x) = b + y := ⟨L.skip isBlank s (b + x) - b, by omega⟩
            rw [hy] at hs h4
            have hyh : y < h := by
              split at hs
              · simp only [Option.some.injEq, Prod.mk.injEq] at hs; omega
              · split at hs
                · have h5 := membs_go hf hs
                  have h6 := L.skip_le isBlank s (b + y + 1)
                  omega
                · cases hs
            have k1 := strAt_mov M (by omega) hm
            have k2 := skip_mov' M isBlank hv (by omega)
            have k3 := M.eq v (by omega)
            have k4 := skip_mov' M isBlank (i := v + 1) (j := q) (by rw [← Nat.add_assoc]; exact hq) (by omega)
            obtain ⟨p', k5⟩ := hfg q x p hl (by omega)
            have k6 := skip_mov' M isBlank hy hyh
            have k7 := M.eq y hyh
            rw [k1]
            simp only
            rw [k2, k3, if_pos h58, Nat.add_assoc a v 1, k4, k5]
            simp only
            rw [k6, k7]
            split at hs
            · rename_i hc
              simp only [Option.some.injEq, Prod.mk.injEq] at hs
              rw [if_pos hc]
              exact ⟨_, by rw [show a + y + 1 = a + j by omega]⟩
            · rename_i hc
              rw [if_neg hc]
              split at hs
              · rename_i hc2
                have h5 := membs_go hf hs
                have h6 := L.skip_le isBlank s (b + y + 1)
                obtain ⟨z, hz⟩ : ∃ z, L.skip isBlank s (b + y + 1) = b + z := ⟨L.skip isBlank s (b + y + 1) - b, by omega⟩
                rw [hz] at hs h5 h6
                have hm2 := skip_mov' M isBlank (i := y + 1) (j := z) (by rw [← Nat.add_assoc]; exact hz) (by omega)
                rw [if_pos hc2, Nat.add_assoc a y 1, hm2]
                exact membs_mov hf hfg hs hj (by omega)
              · cases hs
        · cases hs
    · cases hs
theorem membsAt_mov {f g : Nat → Option (Nat × Pl)} (hf : ∀ i j p, f i = some (j, p) → i < j) (hfg : ∀ i j p, f (b + i) = some (b + j, p) → j < h → ∃ p', g (a + i) = some (a + j, p')) {i j : Nat} {r : List (Nat × Nat) × List Pl} (hs : membsAt f s (b + i) = some (b + j, r)) (hj : j ≤ h) :
    ∃ r', membsAt g t (a + i) = some (a + j, r') := by
  have hta := M.ta
  have h4 := L.skip_le isBlank s (b + i + 1)
  obtain ⟨z, hz⟩ : ∃ z, L.skip isBlank s (b + i + 1) = b + z := ⟨L.skip isBlank s (b + i + 1) - b, by omega⟩
  unfold membsAt at hs ⊢
  rw [hz] at hs h4
  have hzh : z < h := by
    split at hs
    · simp only [Option.some.injEq, Prod.mk.injEq] at hs; omega
    · have := membs_go hf hs; omega
  have hm2 := skip_mov' M isBlank (i := i + 1) (j := z) (by rw [← Nat.add_assoc]; exact hz) hzh
  have e := M.eq z hzh
  rw [Nat.add_assoc, hm2, e]
  split at hs
  · rename_i hc
    simp only [Option.some.injEq, Prod.mk.injEq] at hs
    rw [if_pos hc]
    exact ⟨_, by rw [show a + z + 1 = a + j by omega]⟩
  · rename_i hc
    rw [if_neg hc]
    exact membs_mov M hf hfg hs hj (by omega)
/-- A value that is read at the one place is read at the other. -/
theorem val_mov : ∀ {n i j : Nat} {p : Pl}, valN s n (b + i) = some (b + j, p) → j < h → ∃ p', valN t n (a + i) = some (a + j, p')
  | 0, _, _, _, hs, _ => by cases hs
  | n + 1, i, j, p, hs, hj => by
    have hgo := val_go hs
    have e := M.eq i (by omega)
    have hf : ∀ i j p, valN s n i = some (j, p) → i < j := fun i j p hh => (val_go hh).1
    have hfg : ∀ i j p, valN s n (b + i) = some (b + j, p) → j < h → ∃ p', valN t n (a + i) = some (a + j, p') := fun i j p h1 h2 => val_mov h1 h2
    unfold valN at hs ⊢
    rw [e]
    split at hs
    · rename_i hc
      rw [if_pos hc]
      obtain ⟨⟨x, r⟩, h1, h2⟩ := Option.map_eq_some_iff.1 hs
      simp only [Prod.mk.injEq] at h2
      obtain ⟨rfl, -⟩ := h2
      obtain ⟨r', hr⟩ := membsAt_mov M hf hfg h1 (by omega)
      rw [hr]
      exact ⟨_, rfl⟩
    · rename_i hc
      rw [if_neg hc]
      split at hs
      · rename_i hc2
        rw [if_pos hc2]
        obtain ⟨⟨x, r⟩, h1, h2⟩ := Option.map_eq_some_iff.1 hs
        simp only [Prod.mk.injEq] at h2
        obtain ⟨rfl, -⟩ := h2
        obtain ⟨r', hr⟩ := elemsAt_mov M hf hfg h1 (by omega)
        rw [hr]
        exact ⟨_, rfl⟩
      · rename_i hc2
        rw [if_neg hc2]
        split at hs
        · rename_i hc3
          rw [if_pos hc3]
          obtain ⟨x, h1, h2⟩ := Option.map_eq_some_iff.1 hs
          simp only [Prod.mk.injEq] at h2
          obtain ⟨rfl, -⟩ := h2
          rw [strAt_mov M (by omega) h1]
          exact ⟨_, rfl⟩
        · rename_i hc3
          rw [if_neg hc3]
          split at hs
          · rename_i hc4
            rw [if_pos hc4]
            obtain ⟨x, h1, h2⟩ := Option.map_eq_some_iff.1 hs
            simp only [Prod.mk.injEq] at h2
            obtain ⟨rfl, -⟩ := h2
            rw [num_mov M hj h1]
            exact ⟨_, rfl⟩
          · rename_i hc4
            rw [if_neg hc4]
            split at hs
            · rename_i hw
              simp only [Option.some.injEq, Prod.mk.injEq] at hs
              have z4 : nullT.size = 4 := rfl
              rw [if_pos (word_mov M (by omega) hw)]
              exact ⟨_, by rw [show a + i + 4 = a + j by omega]⟩
            · rename_i hw
              have z4 : nullT.size = 4 := rfl
              have z5 : falseT.size = 5 := rfl
              have z6 : trueT.size = 4 := rfl
              split at hs
              · rename_i hw2
                simp only [Option.some.injEq, Prod.mk.injEq] at hs
                rw [word_mov' M (i := i) (x := nullT) (by omega) (by simpa using hw), if_neg (by decide), if_pos (word_mov M (by omega) hw2)]
                exact ⟨_, by rw [show a + i + 5 = a + j by omega]⟩
              · rename_i hw2
                split at hs
                · rename_i hw3
                  simp only [Option.some.injEq, Prod.mk.injEq] at hs
                  rw [word_mov' M (i := i) (x := nullT) (by omega) (by simpa using hw), if_neg (by decide), word_mov' M (i := i) (x := falseT) (by omega) (by simpa using hw2), if_neg (by decide), if_pos (word_mov M (by omega) hw3)]
                  exact ⟨_, by rw [show a + i + 4 = a + j by omega]⟩
                · cases hs
end
/-- An array from its elements. -/
theorem elems_of {s : ByteArray} {n E : Nat} : ∀ {qs : List Pl} {off k : Nat} {acc : List Pl}, EChain s n E off qs → qs.length ≤ k → elemsN (valN s n) s k (L.skip isBlank s off) acc = some (E, acc ++ qs)
  | [], _, _, _, hc, _ => by cases hc
  | q :: qs, _, 0, _, _, hk => by simp only [List.length_cons] at hk; omega
  | [q], off, k + 1, acc, hc, hk => by
    obtain ⟨hr, h93, hE⟩ := hc
    unfold elemsN
    rw [hr.2.2.1]
    simp only
    rw [if_pos h93, hE]
  | q :: r :: qs, off, k + 1, acc, hc, hk => by
    obtain ⟨hr, h44, hE⟩ := hc
    unfold elemsN
    rw [hr.2.2.1]
    simp only
    rw [if_neg (by rw [h44]; decide), if_pos h44, elems_of hE (by simp only [List.length_cons] at hk ⊢; omega)]
    simp
/-- An object from its members. -/
theorem membs_of {s : ByteArray} {n E : Nat} : ∀ {ns : List (Nat × Nat)} {qs : List Pl} {off k : Nat} {na : List (Nat × Nat)} {acc : List Pl}, MChain s n E off ns qs → ns.length ≤ k → membsN (valN s n) s k (L.skip isBlank s off) na acc = some (E, na ++ ns, acc ++ qs)
  | [], qs, _, _, _, _, hc, _ => by cases hc
  | x :: ns, qs, _, 0, _, _, _, hk => by simp only [List.length_cons] at hk; omega
  | [x], qs, off, k + 1, na, acc, hc, hk => by
    match qs, hc with
    | [q], hc =>
      obtain ⟨hm, h125, hE⟩ := hc
      obtain ⟨m1, m2, m3, m4, m5, m6, m7, m8⟩ := hm
      unfold membsN
      rw [m2, if_pos m3, m4]
      simp only
      rw [if_pos m7, m8.2.2.1]
      simp only
      rw [if_pos h125, hE]
  | x :: y :: ns, qs, off, k + 1, na, acc, hc, hk => by
    match qs, hc with
    | q :: r :: qs, hc =>
      obtain ⟨hm, h44, hE⟩ := hc
      obtain ⟨m1, m2, m3, m4, m5, m6, m7, m8⟩ := hm
      unfold membsN
      rw [m2, if_pos m3, m4]
      simp only
      rw [if_pos m7, m8.2.2.1]
      simp only
      rw [if_neg (by rw [h44]; decide), if_pos h44, membs_of hE (by simp only [List.length_cons] at hk ⊢; omega)]
      simp
end
end Go.Proofs.YtbgcjnhebfgicaaDoor.Jp
namespace Go.Proofs.YtbgcjnhebfgicaaDoor.Jp
section
open L
set_option linter.unusedVariables false
set_option linter.unusedSimpArgs false
set_option linter.unusedSectionVars false

/-- A value's first byte. -/
theorem val_byte {s : ByteArray} {n i : Nat} {r : Nat × Pl} (h : valN s n i = some r) : bt s i = 123 ∨ bt s i = 91 ∨ bt s i = 34 ∨ bt s i = 45 ∨ (48 ≤ bt s i ∧ bt s i ≤ 57) ∨ bt s i = 110 ∨ bt s i = 102 ∨ bt s i = 116 := by
  cases n with
  | zero => cases h
  | succ n =>
    have w : ∀ (x : ByteArray) (c : Int), 0 < x.size → bt x 0 = c → wordAt s i x = true → bt s i = c := fun x c h0 hc hw => by
      have := word_bt hw 0 h0
      rw [Nat.add_zero] at this
      rw [this]
      exact hc
    unfold valN at h
    split at h
    · omega
    · split at h
      · omega
      · split at h
        · omega
        · split at h
          · omega
          · split at h
            · rename_i hw
              have := w _ 110 (by decide) (by decide) hw
              omega
            · split at h
              · rename_i hw
                have := w _ 102 (by decide) (by decide) hw
                omega
              · split at h
                · rename_i hw
                  have := w _ 116 (by decide) (by decide) hw
                  omega
                · cases h
theorem val_nb {s : ByteArray} {n i : Nat} {r : Nat × Pl} (h : valN s n i = some r) : isBlank (bt s i) = false := by
  have := val_byte h
  cases hb : isBlank (bt s i) with
  | false => rfl
  | true =>
    simp only [isBlank, Bool.or_eq_true, beq_iff_eq] at hb
    omega
theorem skip_of {p : Int → Bool} {s : ByteArray} : ∀ {n i y : Nat}, y - i ≤ n → i ≤ y → y ≤ s.size → (∀ k : Nat, i ≤ k → k < y → p (bt s k) = true) → ¬ (y < s.size ∧ p (bt s y) = true) → L.skip p s i = y
  | n, i, y, hn, hi, hy, hr, hno => by
    by_cases h : i = y
    · subst h; exact skip_no hno
    · cases n with
      | zero => omega
      | succ n =>
        rw [skip_yes (by omega) (hr i (Nat.le_refl _) (by omega))]
        exact skip_of (n := n) (by omega) (by omega) hy (fun k h1 h2 => hr k (by omega) h2) hno
/-- The same blanks ahead of a value's first byte. -/
theorem skip_to {s t : ByteArray} {o y n : Nat} {r : Nat × Pl} (hM : ∀ k : Nat, o ≤ k → k < y → bt t k = bt s k) (hs : L.skip isBlank s o = y) (hv : valN t n y = some r) : L.skip isBlank t o = y := by
  have hle := skip_le isBlank s o
  have hlt := val_lt hv
  refine skip_of (Nat.le_refl _) (by omega) (by omega) (fun k h1 h2 => ?_) (fun hh => ?_)
  · rw [hM k h1 h2]
    exact skip_run (Nat.le_refl _) k h1 (by omega)
  · rw [val_nb hv] at hh
    simp at hh

/-! ### fuel -/
theorem echain_sz {s : ByteArray} {n E : Nat} : ∀ {qs : List Pl} {off : Nat}, EChain s n E off qs → off + qs.length ≤ E ∧ E ≤ s.size
  | [], _, h => by cases h
  | [q], off, h => by
    obtain ⟨hr, h93, hE⟩ := h
    have h1 := skip_le isBlank s off
    have h2 := skip_le isBlank s q.e
    have h3 := lt_of_bt (s := s) (i := L.skip isBlank s q.e) (by omega)
    obtain ⟨b1, b2, b3, b4, b5, b6, b7⟩ := hr
    simp only [List.length_cons, List.length_nil]
    omega
  | q :: r :: qs, off, h => by
    obtain ⟨hr, h44, hE⟩ := h
    have h1 := skip_le isBlank s off
    have h2 := skip_le isBlank s q.e
    have ih := echain_sz hE
    obtain ⟨b1, b2, b3, b4, b5, b6, b7⟩ := hr
    simp only [List.length_cons] at ih ⊢
    omega
theorem mchain_sz {s : ByteArray} {n E : Nat} : ∀ {ns : List (Nat × Nat)} {qs : List Pl} {off : Nat}, MChain s n E off ns qs → off + ns.length ≤ E
  | [], qs, _, h => by cases qs <;> cases h
  | [x], [q], off, h => by
    have hp := h.1.pos
    have h2 := skip_le isBlank s q.e
    have h3 := h.2.2
    simp only [List.length_cons, List.length_nil]
    omega
  | x :: y :: ns, q :: r :: qs, off, h => by
    have hp := h.1.pos
    have h2 := skip_le isBlank s q.e
    have ih := mchain_sz h.2.2
    simp only [List.length_cons] at ih ⊢
    omega
  | [x], [], _, h => by cases h
  | [x], _ :: _ :: _, _, h => by cases h
  | _ :: _ :: _, [], _, h => by cases h
  | _ :: _ :: _, [q], _, h => by cases h
theorem echain_fuel {s : ByteArray} {n m E lo : Nat} (hk : ∀ q o, lo ≤ o → Rdv s n o q → q.e < E → Rdv s m o q) : ∀ {qs : List Pl} {off : Nat}, lo ≤ off → EChain s n E off qs → EChain s m E off qs
  | [], _, _, h => by cases h
  | [q], off, ho, h => by
    obtain ⟨hr, h93, hE⟩ := h
    have h2 := skip_le isBlank s q.e
    exact ⟨hk q off ho hr (by omega), h93, hE⟩
  | q :: r :: qs, off, ho, h => by
    obtain ⟨hr, h44, hE⟩ := h
    have h1 := skip_le isBlank s off
    have h2 := skip_le isBlank s q.e
    have ih := echain_sz hE
    have hr' := hr
    obtain ⟨b1, b2, b3, b4, b5, b6, b7⟩ := hr'
    exact ⟨hk q off ho hr (by omega), h44, echain_fuel hk (by omega) hE⟩
theorem mchain_fuel {s : ByteArray} {n m E lo : Nat} (hk : ∀ q o, lo ≤ o → Rdv s n o q → q.e < E → Rdv s m o q) : ∀ {ns : List (Nat × Nat)} {qs : List Pl} {off : Nat}, lo ≤ off → MChain s n E off ns qs → MChain s m E off ns qs
  | [], qs, _, _, h => by cases qs <;> cases h
  | [x], [q], off, ho, h => by
    have hp := h.1.pos
    obtain ⟨⟨m1, m2, m3, m4, m5, m6, m7, m8⟩, h125, hE⟩ := h
    have h2 := skip_le isBlank s q.e
    exact ⟨⟨m1, m2, m3, m4, m5, m6, m7, hk q _ (by omega) m8 (by omega)⟩, h125, hE⟩
  | x :: y :: ns, q :: r :: qs, off, ho, h => by
    have hp := h.1.pos
    obtain ⟨⟨m1, m2, m3, m4, m5, m6, m7, m8⟩, h44, hE⟩ := h
    have h2 := skip_le isBlank s q.e
    have ih := mchain_sz hE
    exact ⟨⟨m1, m2, m3, m4, m5, m6, m7, hk q _ (by omega) m8 (by omega)⟩, h44, mchain_fuel hk (by omega) hE⟩
  | [x], [], _, _, h => by cases h
  | [x], _ :: _ :: _, _, _, h => by cases h
  | _ :: _ :: _, [], _, _, h => by cases h
  | _ :: _ :: _, [q], _, _, h => by cases h
/-- A value is read with as much fuel as it has bytes. -/
theorem val_fuel {s : ByteArray} : ∀ {n m i j : Nat} {p : Pl}, valN s n i = some (j, p) → j - i ≤ m → valN s m i = some (j, p)
  | 0, _, _, _, _, h, _ => by cases h
  | n + 1, 0, i, j, p, h, hm => by have := val_go h; omega
  | n + 1, m + 1, i, j, p, h, hm => by
    have hgo := val_go h
    have hk : ∀ q o, i + 1 ≤ o → Rdv s n o q → q.e < j → Rdv s m o q := fun q o ho hr hq => by
      have h1 := skip_le isBlank s o
      obtain ⟨b1, b2, b3, b4⟩ := hr
      exact ⟨b1, b2, val_fuel b3 (by omega), b4⟩
    unfold valN at h ⊢
    split at h
    · rename_i hc
      rw [if_pos hc]
      obtain ⟨⟨x, r⟩, h1, h2⟩ := Option.map_eq_some_iff.1 h
      simp only [Prod.mk.injEq] at h2
      obtain ⟨rfl, rfl⟩ := h2
      refine Option.map_eq_some_iff.2 ⟨(x, r), ?_, rfl⟩
      unfold membsAt at h1 ⊢
      split at h1
      · rename_i hc2
        rw [if_pos hc2]; exact h1
      · rename_i hc2
        rw [if_neg hc2]
        obtain ⟨ns, ks, hr, hch⟩ := mchain_of (off := i + 1) (by omega) h1
        have hz := mchain_sz hch
        rw [membs_of (mchain_fuel hk (Nat.le_refl _) hch) (by omega), hr]
    · rename_i hc
      rw [if_neg hc]
      split at h
      · rename_i hc2
        rw [if_pos hc2]
        obtain ⟨⟨x, r⟩, h1, h2⟩ := Option.map_eq_some_iff.1 h
        simp only [Prod.mk.injEq] at h2
        obtain ⟨rfl, rfl⟩ := h2
        refine Option.map_eq_some_iff.2 ⟨(x, r), ?_, rfl⟩
        unfold elemsAt at h1 ⊢
        split at h1
        · rename_i hc3
          rw [if_pos hc3]; exact h1
        · rename_i hc3
          rw [if_neg hc3]
          obtain ⟨ks, hr, hch⟩ := echain_of (off := i + 1) (by omega) h1
          have hz := echain_sz hch
          rw [elems_of (echain_fuel hk (Nat.le_refl _) hch) (by omega), hr]
      · rename_i hc2
        rw [if_neg hc2]
        exact h
theorem val_full {s : ByteArray} {n i j : Nat} {p : Pl} (h : valN s n i = some (j, p)) : valN s s.size i = some (j, p) := val_fuel h (by have := val_go h; omega)
theorem val_arr {s : ByteArray} {n i E : Nat} {qs : List Pl} (h91 : bt s i = 91) (hc : EChain s n E (i + 1) qs) : valN s (n + 1) i = some (E, .mk 5 i E [] qs) := by
  have hz := echain_sz hc
  have hd : bt s (L.skip isBlank s (i + 1)) ≠ 93 := by
    match qs, hc with
    | q :: qs, hc =>
      have := val_byte hc.head.2.2.1
      omega
  unfold valN
  rw [if_neg (by omega), if_pos h91]
  refine Option.map_eq_some_iff.2 ⟨(E, qs), ?_, rfl⟩
  unfold elemsAt
  rw [if_neg hd, elems_of hc (by omega), List.nil_append]
theorem val_obj {s : ByteArray} {n i E : Nat} {ns : List (Nat × Nat)} {qs : List Pl} (h123 : bt s i = 123) (hc : MChain s n E (i + 1) ns qs) : valN s (n + 1) i = some (E, .mk 6 i E ns qs) := by
  have hz := mchain_sz hc
  have hE := hc.end_.2.2
  have hd : bt s (L.skip isBlank s (i + 1)) ≠ 125 := by
    obtain ⟨x, ns', q, qs', -, -, hm⟩ := hc.cons
    rw [hm.2.1, hm.2.2.1]
    decide
  unfold valN
  rw [if_pos h123]
  refine Option.map_eq_some_iff.2 ⟨(E, ns, qs), ?_, rfl⟩
  unfold membsAt
  rw [if_neg hd, membs_of hc (by omega), List.nil_append, List.nil_append]

/-! ### chains at another place -/
section
variable {s t : ByteArray} {a b h : Nat} (M : Mov s t a b h)
include M
theorem bt_mv {i i' : Nat} (hi : i + a = i' + b) (hb : b ≤ i) (hj : i < b + h) : bt t i' = bt s i := by
  have e := M.eq (i - b) (by omega)
  rwa [show a + (i - b) = i' by omega, show b + (i - b) = i by omega] at e
theorem skip_mv {i i' : Nat} (hi : i + a = i' + b) (hb : b ≤ i) (hj : L.skip isBlank s i < b + h) : L.skip isBlank t i' + b = L.skip isBlank s i + a := by
  have h1 := skip_le isBlank s i
  obtain ⟨k, rfl⟩ : ∃ k, i = b + k := ⟨i - b, by omega⟩
  obtain rfl : i' = a + k := by omega
  obtain ⟨y, hy⟩ : ∃ y, L.skip isBlank s (b + k) = b + y := ⟨L.skip isBlank s (b + k) - b, by omega⟩
  have := skip_mov' M isBlank hy (by omega)
  omega
theorem rdv_mov {n o o' : Nat} {q : Pl} (ho : o + a = o' + b) (hb : b ≤ o) (hq : Rdv s n o q) (he : q.e < b + h) : ∃ q', Rdv t t.size o' q' ∧ q'.e + b = q.e + a := by
  obtain ⟨k, rfl⟩ : ∃ k, o = b + k := ⟨o - b, by omega⟩
  obtain rfl : o' = a + k := by omega
  obtain ⟨h1, h2, h3, h4, h5, h6, h7⟩ := hq
  have hsl := skip_le isBlank s (b + k)
  obtain ⟨y, hy⟩ : ∃ y, L.skip isBlank s (b + k) = b + y := ⟨L.skip isBlank s (b + k) - b, by omega⟩
  obtain ⟨j, hj⟩ : ∃ j, q.e = b + j := ⟨q.e - b, by omega⟩
  rw [hy] at h3 h4
  rw [hj] at h3
  obtain ⟨p', hp⟩ := val_mov M h3 (by omega)
  have hm := skip_mov' M isBlank hy (by omega)
  have hta := M.ta
  have hg := val_go hp
  obtain ⟨hr, hE⟩ := rdv_of (s := t) (n := t.size) (off := a + k) (j := a + j) (q := p') (by omega) (by rw [hm]; omega) (by rw [hm]; exact val_full hp)
  exact ⟨p', hr, by omega⟩
theorem memb_mov {n o o' : Nat} {x : Nat × Nat} {q : Pl} (ho : o + a = o' + b) (hb : b ≤ o) (hm : Memb s n o x q) (he : q.e < b + h) : ∃ x' q', Memb t t.size o' x' q' ∧ nameOf t x' = nameOf s x ∧ q'.e + b = q.e + a := by
  have hp := hm.pos
  have hta := M.ta
  obtain ⟨m1, m2, m3, m4, m5, m6, m7, m8⟩ := hm
  obtain ⟨x1, x2⟩ := x
  simp only at hp m2 m3 m4 m5 m6 m7 m8
  obtain ⟨X1, rfl⟩ : ∃ k, x1 = b + k := ⟨x1 - b, by omega⟩
  obtain ⟨X2, rfl⟩ : ∃ k, x2 = b + k := ⟨x2 - b, by omega⟩
  obtain ⟨q', hq', hqe⟩ := rdv_mov M (o := L.skip isBlank s (b + X2) + 1) (o' := L.skip isBlank s (b + X2) + 1 + a - b) (by omega) (by omega) m8 he
  have hs1 := skip_mv M ho hb (by omega)
  have hs2 := skip_mv M (i := b + X2) (i' := a + X2) (by omega) (by omega) (by omega)
  have hb2 := bt_mv M (i := L.skip isBlank s (b + X2)) (i' := L.skip isBlank t (a + X2)) (by omega) (by omega) (by omega)
  rw [show L.skip isBlank s (b + X2) + 1 + a - b = L.skip isBlank t (a + X2) + 1 by omega] at hq'
  refine ⟨(a + X1, a + X2), q', ⟨by omega, by simp only; omega, ?_, strAt_mov M (by omega) m4, by simp only; omega, by simp only; omega, by simp only; rw [hb2]; exact m7, hq'⟩, ?_, hqe⟩
  · simp only
    rw [bt_mv M (i := b + X1) (by omega) (by omega) (by omega)]
    exact m3
  · unfold nameOf
    simp only
    have e := ext_mov M (i := X1 + 1) (j := X2 - 1) (by omega)
    rw [show a + (X1 + 1) = a + X1 + 1 by omega, show a + (X2 - 1) = a + X2 - 1 by omega, show b + (X1 + 1) = b + X1 + 1 by omega, show b + (X2 - 1) = b + X2 - 1 by omega] at e
    rw [e]
theorem echain_mov {n : Nat} : ∀ {qs : List Pl} {o o' E E' : Nat}, o + a = o' + b → b ≤ o → EChain s n E o qs → E ≤ b + h → E + a = E' + b → ∃ qs', EChain t t.size E' o' qs'
  | [], _, _, _, _, _, _, hc, _, _ => by cases hc
  | [q], o, o', E, E', ho, hb, hc, hE, hE' => by
    obtain ⟨hr, h93, he⟩ := hc
    have h1 := skip_le isBlank s o
    have h2 := skip_le isBlank s q.e
    obtain ⟨q', hq', hqe⟩ := rdv_mov M ho hb hr (by omega)
    obtain ⟨b1, b2, b3, b4, b5, b6, b7⟩ := hr
    have hs := skip_mv M (i := q.e) (i' := q'.e) (by omega) (by omega) (by omega)
    exact ⟨[q'], hq', by rw [bt_mv M (i := L.skip isBlank s q.e) (by omega) (by omega) (by omega)]; exact h93, by omega⟩
  | q :: r :: qs, o, o', E, E', ho, hb, hc, hE, hE' => by
    obtain ⟨hr, h44, he⟩ := hc
    have h1 := skip_le isBlank s o
    have h2 := skip_le isBlank s q.e
    have h3 := (echain_sz he).1
    obtain ⟨q', hq', hqe⟩ := rdv_mov M ho hb hr (by omega)
    obtain ⟨b1, b2, b3, b4, b5, b6, b7⟩ := hr
    have hs := skip_mv M (i := q.e) (i' := q'.e) (by omega) (by omega) (by omega)
    obtain ⟨qs', hqs⟩ := echain_mov (o' := L.skip isBlank t q'.e + 1) (by omega) (by omega) he hE hE'
    cases qs' with
    | nil => cases hqs
    | cons r' qs' => exact ⟨q' :: r' :: qs', hq', by rw [bt_mv M (i := L.skip isBlank s q.e) (by omega) (by omega) (by omega)]; exact h44, hqs⟩
theorem mchain_mov {n : Nat} : ∀ {ns : List (Nat × Nat)} {qs : List Pl} {o o' E E' : Nat}, o + a = o' + b → b ≤ o → MChain s n E o ns qs → E ≤ b + h → E + a = E' + b → ∃ ns' qs', MChain t t.size E' o' ns' qs' ∧ ns'.map (nameOf t) = ns.map (nameOf s)
  | [], qs, _, _, _, _, _, _, hc, _, _ => by cases qs <;> cases hc
  | [x], [q], o, o', E, E', ho, hb, hc, hE, hE' => by
    obtain ⟨hr, h93, he⟩ := hc
    have hp := hr.pos
    have h2 := skip_le isBlank s q.e
    obtain ⟨x', q', hq', hn, hqe⟩ := memb_mov M ho hb hr (by omega)
    have hs := skip_mv M (i := q.e) (i' := q'.e) (by omega) (by omega) (by omega)
    exact ⟨[x'], [q'], ⟨hq', by rw [bt_mv M (i := L.skip isBlank s q.e) (by omega) (by omega) (by omega)]; exact h93, by omega⟩, by simp only [List.map_cons, List.map_nil, hn]⟩
  | x :: y :: ns, q :: r :: qs, o, o', E, E', ho, hb, hc, hE, hE' => by
    obtain ⟨hr, h44, he⟩ := hc
    have hp := hr.pos
    have h2 := skip_le isBlank s q.e
    have h3 := mchain_sz he
    obtain ⟨x', q', hq', hn, hqe⟩ := memb_mov M ho hb hr (by omega)
    have hs := skip_mv M (i := q.e) (i' := q'.e) (by omega) (by omega) (by omega)
    obtain ⟨ns', qs', hqs, hns⟩ := mchain_mov (o' := L.skip isBlank t q'.e + 1) (by omega) (by omega) he hE hE'
    obtain ⟨y', ns'', r', qs'', rfl, rfl, -⟩ := hqs.cons
    exact ⟨x' :: y' :: ns'', q' :: r' :: qs'', ⟨hq', by rw [bt_mv M (i := L.skip isBlank s q.e) (by omega) (by omega) (by omega)]; exact h44, hqs⟩, by rw [List.map_cons, hns, hn]; rfl⟩
  | [x], [], _, _, _, _, _, _, hc, _, _ => by cases hc
  | [x], _ :: _ :: _, _, _, _, _, _, _, hc, _, _ => by cases hc
  | _ :: _ :: _, [], _, _, _, _, _, _, hc, _, _ => by cases hc
  | _ :: _ :: _, [q], _, _, _, _, _, _, hc, _, _ => by cases hc
end

/-! ### another text in a value's place -/
/-- t is s with z bytes in the place of the bytes b to e. -/
structure Put (s t : ByteArray) (b e z : Nat) : Prop where
  l : Mov s t 0 0 b
  r : Mov s t (b + z) e (s.size - e)
  be : b < e
  es : e ≤ s.size
  sz : t.size = b + z + (s.size - e)
section
variable {s t : ByteArray} {b e z : Nat} (P : Put s t b e z)
include P
theorem rdv_put {n o : Nat} {q q' : Pl} (hr : Rdv s n o q) (hv : valN t t.size q.b = some (q'.e, q')) (hqb : q.b ≤ b) : Rdv t t.size o q' := by
  obtain ⟨b1, b2, b3, b4, b5, b6, b7⟩ := hr
  have h1 := skip_le isBlank s o
  have hlt := val_lt hv
  have hs : L.skip isBlank t o = q.b := skip_to (fun k h1 h2 => bt_mv P.l (by omega) (by omega) (by omega)) b4.symm hv
  exact (rdv_of (by omega) (by rw [hs]; omega) (by rw [hs]; exact hv)).1
theorem memb_put {n o : Nat} {x : Nat × Nat} {q q' : Pl} (hm : Memb s n o x q) (hv : valN t t.size q.b = some (q'.e, q')) (hqb : q.b ≤ b) : Memb t t.size o x q' ∧ nameOf t x = nameOf s x := by
  have hp := hm.pos
  have hta := P.l.ta
  obtain ⟨m1, m2, m3, m4, m5, m6, m7, m8⟩ := hm
  have hr := rdv_put P m8 hv hqb
  have hs1 := skip_mv P.l (i := o) (i' := o) rfl (by omega) (by omega)
  have hs2 := skip_mv P.l (i := x.2) (i' := x.2) rfl (by omega) (by omega)
  have hb2 := bt_mv P.l (i := L.skip isBlank s x.2) (i' := L.skip isBlank s x.2) rfl (by omega) (by omega)
  rw [Nat.add_zero, Nat.add_zero] at hs1 hs2
  have e1 := strAt_mov P.l (i := x.1) (j := x.2) (by omega) (by rw [Nat.zero_add, Nat.zero_add]; exact m4)
  have e2 := ext_mov P.l (i := x.1 + 1) (j := x.2 - 1) (by omega)
  rw [Nat.zero_add, Nat.zero_add] at e1 e2
  refine ⟨⟨by omega, by rw [hs1]; exact m2, ?_, e1, m5, by omega, by rw [hs2, hb2]; exact m7, by rw [hs2]; exact hr⟩, ?_⟩
  · rw [bt_mv P.l (i := x.1) (i' := x.1) rfl (by omega) (by omega)]
    exact m3
  · unfold nameOf
    rw [e2]
/-- Elements, one of which has the new text in it. -/
theorem echain_put {n : Nat} {q q' : Pl} (hv : valN t t.size q.b = some (q'.e, q')) (hqb : q.b ≤ b) (hqe : e ≤ q.e) (hqe' : q'.e + e = q.e + b + z) :
    ∀ {qs : List Pl} {i o E : Nat}, EChain s n E o qs → qs[i]? = some q → ∃ E' qs', EChain t t.size E' o qs' ∧ qs'[i]? = some q' ∧ E' + e = E + b + z
  | [], _, _, _, hc, _ => by cases hc
  | [p], 0, o, E, hc, hi => by
    simp only [List.getElem?_cons_zero, Option.some.injEq] at hi
    subst hi
    obtain ⟨hr, h93, he⟩ := hc
    have hr' := rdv_put P hr hv hqb
    have h2 := skip_le isBlank s p.e
    have h3 := lt_of_bt (s := s) (i := L.skip isBlank s p.e) (by omega)
    have hes := P.es
    have hs := skip_mv P.r (i := p.e) (i' := q'.e) (by omega) (by omega) (by omega)
    exact ⟨_, [q'], ⟨hr', by rw [bt_mv P.r (i := L.skip isBlank s p.e) (by omega) (by omega) (by omega)]; exact h93, rfl⟩, rfl, by omega⟩
  | [p], i + 1, o, E, hc, hi => by simp at hi
  | p :: r :: qs, 0, o, E, hc, hi => by
    simp only [List.getElem?_cons_zero, Option.some.injEq] at hi
    subst hi
    obtain ⟨hr, h44, he⟩ := hc
    have hr' := rdv_put P hr hv hqb
    have h2 := skip_le isBlank s p.e
    have h3 := lt_of_bt (s := s) (i := L.skip isBlank s p.e) (by omega)
    have h4 := echain_sz he
    have hes := P.es
    have hs := skip_mv P.r (i := p.e) (i' := q'.e) (by omega) (by omega) (by omega)
    obtain ⟨qs', hqs⟩ := echain_mov P.r (o' := L.skip isBlank t q'.e + 1) (E' := E + b + z - e) (by omega) (by omega) he (by omega) (by omega)
    cases qs' with
    | nil => cases hqs
    | cons r' qs' => exact ⟨_, q' :: r' :: qs', ⟨hr', by rw [bt_mv P.r (i := L.skip isBlank s p.e) (by omega) (by omega) (by omega)]; exact h44, hqs⟩, rfl, by omega⟩
  | p :: r :: qs, i + 1, o, E, hc, hi => by
    rw [List.getElem?_cons_succ] at hi
    obtain ⟨hr, h44, he⟩ := hc
    obtain ⟨off, ho, hrq, -⟩ := echain_at he hi
    have h1 := skip_le isBlank s off
    have h5 : q.b = L.skip isBlank s off := hrq.2.2.2.1
    have h2 := skip_le isBlank s p.e
    obtain ⟨p', hp', hpe⟩ := rdv_mov P.l (o := o) (o' := o) rfl (by omega) hr (by omega)
    obtain ⟨E', qs', hqs, hi', hE⟩ := echain_put hv hqb hqe hqe' he hi
    have hs := skip_mv P.l (i := p.e) (i' := p'.e) (by omega) (by omega) (by omega)
    rw [Nat.add_zero, Nat.add_zero] at hs
    cases qs' with
    | nil => cases hqs
    | cons r' qs' => exact ⟨E', p' :: r' :: qs', ⟨hp', by rw [hs, bt_mv P.l (i := L.skip isBlank s p.e) rfl (by omega) (by omega)]; exact h44, by rw [hs]; exact hqs⟩, by rw [List.getElem?_cons_succ]; exact hi', hE⟩
/-- Members, one of which has the new text in it. -/
theorem mchain_put {n : Nat} {q q' : Pl} (hv : valN t t.size q.b = some (q'.e, q')) (hqb : q.b ≤ b) (hqe : e ≤ q.e) (hqe' : q'.e + e = q.e + b + z) :
    ∀ {ns : List (Nat × Nat)} {qs : List Pl} {i o E : Nat}, MChain s n E o ns qs → qs[i]? = some q → ∃ E' ns' qs', MChain t t.size E' o ns' qs' ∧ ns'.map (nameOf t) = ns.map (nameOf s) ∧ qs'[i]? = some q' ∧ E' + e = E + b + z
  | [], qs, _, _, _, hc, _ => by cases qs <;> cases hc
  | [x], [p], 0, o, E, hc, hi => by
    simp only [List.getElem?_cons_zero, Option.some.injEq] at hi
    subst hi
    obtain ⟨hr, h93, he⟩ := hc
    obtain ⟨hr', hn⟩ := memb_put P hr hv hqb
    have h2 := skip_le isBlank s p.e
    have h3 := lt_of_bt (s := s) (i := L.skip isBlank s p.e) (by omega)
    have hes := P.es
    have hs := skip_mv P.r (i := p.e) (i' := q'.e) (by omega) (by omega) (by omega)
    exact ⟨_, [x], [q'], ⟨hr', by rw [bt_mv P.r (i := L.skip isBlank s p.e) (by omega) (by omega) (by omega)]; exact h93, rfl⟩, by simp only [List.map_cons, List.map_nil, hn], rfl, by omega⟩
  | [x], [p], i + 1, o, E, hc, hi => by simp at hi
  | x :: y :: ns, p :: r :: qs, 0, o, E, hc, hi => by
    simp only [List.getElem?_cons_zero, Option.some.injEq] at hi
    subst hi
    obtain ⟨hr, h44, he⟩ := hc
    obtain ⟨hr', hn⟩ := memb_put P hr hv hqb
    have h2 := skip_le isBlank s p.e
    have h3 := lt_of_bt (s := s) (i := L.skip isBlank s p.e) (by omega)
    have h4 := mchain_sz he
    have h5 := he.end_.2.2
    have hes := P.es
    have hs := skip_mv P.r (i := p.e) (i' := q'.e) (by omega) (by omega) (by omega)
    obtain ⟨ns', qs', hqs, hns⟩ := mchain_mov P.r (o' := L.skip isBlank t q'.e + 1) (E' := E + b + z - e) (by omega) (by omega) he (by omega) (by omega)
    obtain ⟨y', ns'', r', qs'', rfl, rfl, -⟩ := hqs.cons
    exact ⟨_, x :: y' :: ns'', q' :: r' :: qs'', ⟨hr', by rw [bt_mv P.r (i := L.skip isBlank s p.e) (by omega) (by omega) (by omega)]; exact h44, hqs⟩, by rw [List.map_cons, hns, hn]; rfl, rfl, by omega⟩
  | x :: y :: ns, p :: r :: qs, i + 1, o, E, hc, hi => by
    rw [List.getElem?_cons_succ] at hi
    obtain ⟨hr, h44, he⟩ := hc
    obtain ⟨off, ho, hrq, -⟩ := mchain_at he hi
    have h1 := skip_le isBlank s off
    have h5 : q.b = L.skip isBlank s off := hrq.2.2.2.1
    have h2 := skip_le isBlank s p.e
    obtain ⟨x', p', hp', hn, hpe⟩ := memb_mov P.l (o := o) (o' := o) rfl (by omega) hr (by omega)
    obtain ⟨E', ns', qs', hqs, hns, hi', hE⟩ := mchain_put hv hqb hqe hqe' he hi
    have hs := skip_mv P.l (i := p.e) (i' := p'.e) (by omega) (by omega) (by omega)
    rw [Nat.add_zero, Nat.add_zero] at hs
    obtain ⟨y', ns'', r', qs'', rfl, rfl, -⟩ := hqs.cons
    exact ⟨E', x' :: y' :: ns'', p' :: r' :: qs'', ⟨hp', by rw [hs, bt_mv P.l (i := L.skip isBlank s p.e) rfl (by omega) (by omega)]; exact h44, by rw [hs]; exact hqs⟩, by rw [List.map_cons, hns, hn]; rfl, by rw [List.getElem?_cons_succ]; exact hi', hE⟩
  | [x], [], _, _, _, hc, _ => by cases hc
  | [x], _ :: _ :: _, _, _, _, hc, _ => by cases hc
  | _ :: _ :: _, [], _, _, _, hc, _ => by cases hc
  | _ :: _ :: _, [q], _, _, _, hc, _ => by cases hc
end
theorem map_at {s t : ByteArray} {ns ns' : List (Nat × Nat)} (h : ns'.map (nameOf t) = ns.map (nameOf s)) {i : Nat} {x : Nat × Nat} (hx : ns[i]? = some x) : ∃ x', ns'[i]? = some x' ∧ nameOf t x' = nameOf s x := by
  have e := congrArg (fun l => l[i]?) h
  simp only [List.getElem?_map, hx, Option.map_some] at e
  exact Option.map_eq_some_iff.1 e
/-- Behind a value in an array or object. -/
def Dl (s : ByteArray) (e : Nat) : Prop := bt s (L.skip isBlank s e) = 93 ∨ bt s (L.skip isBlank s e) = 44 ∨ bt s (L.skip isBlank s e) = 125
/-- The keys lead to the new text. -/
theorem put_lead {s t v : ByteArray} {pv : Pl} (hpv : valN v (v.size + 1) 0 = some (v.size, pv)) {p r : Pl} {ks : List ByteArray} (h : Leads s p ks r) :
    Put s t r.b r.e v.size → (∀ k : Nat, k < v.size → bt t ((r.b + k : Nat) : Int) = bt v k) → ∀ {n o : Nat}, Rdv s n o p → (ks = [] → Dl s p.e) →
    ∃ p' r', valN t t.size p.b = some (p'.e, p') ∧ p'.b = p.b ∧ p'.e + r.e = p.e + r.b + v.size ∧ Leads t p' ks r' ∧ r'.b = r.b ∧ r'.e = r.b + v.size := by
  induction h with
  | nil r =>
    intro P hv n o hr hD
    have hD := hD rfl
    have h2 := skip_le isBlank s r.e
    have h3 := lt_of_bt (s := s) (i := L.skip isBlank s r.e) (by unfold Dl at hD; omega)
    have hes := P.es
    have hsz := P.sz
    have hX : (t.extract r.b t.size).size = t.size - r.b := by rw [size_ext]; omega
    have hbX : ∀ k : Nat, k < t.size - r.b → bt (t.extract r.b t.size) (k : Nat) = bt t ((r.b + k : Nat) : Int) := fun k hk => by
      rw [bt_ext _ _ _ _ (by omega) (by rw [hX]; omega)]
      congr 1
    have hc : bt (t.extract r.b t.size) v.size = bt s r.e := by
      rw [hbX _ (by omega)]
      exact bt_mv P.r (by omega) (by omega) (by omega)
    have hcc : isBlank (bt s r.e) = true ∨ bt s r.e = 93 ∨ bt s r.e = 44 ∨ bt s r.e = 125 := by
      by_cases hb : isBlank (bt s r.e) = true
      · exact .inl hb
      · unfold Dl at hD
        rw [skip_no fun h => hb h.2] at hD
        exact .inr hD
    have hcc2 : bt s r.e = 32 ∨ bt s r.e = 9 ∨ bt s r.e = 10 ∨ bt s r.e = 13 ∨ bt s r.e = 93 ∨ bt s r.e = 44 ∨ bt s r.e = 125 := by
      simp only [isBlank, Bool.or_eq_true, beq_iff_eq] at hcc
      omega
    have hE : Ext v (t.extract r.b t.size) := by
      refine ⟨by omega, fun i hi => by rw [hbX i (by omega)]; exact hv i hi, ?_, ?_, ?_, ?_⟩ <;> rw [hc]
      · simp only [isDigit, Bool.and_eq_false_iff, decide_eq_false_iff_not]
        omega
      all_goals omega
    have h4 := valN_ext hE (Nat.le_refl _) (Nat.zero_le _) hpv
    have hM : Mov (t.extract r.b t.size) t r.b 0 (t.size - r.b) := ⟨by omega, by omega, fun k hk => by rw [Nat.zero_add]; exact (hbX k hk).symm⟩
    obtain ⟨p', hp'⟩ := val_mov hM (i := 0) (j := v.size) (by rw [Nat.zero_add, Nat.zero_add]; exact h4) (by omega)
    rw [Nat.add_zero] at hp'
    have hvo := vok _ _ _ _ (by omega) hp'
    have e1 : p'.b = r.b := hvo.2.2.2.1
    have e2 : p'.e = r.b + v.size := hvo.2.2.2.2.1
    exact ⟨p', p', by rw [e2]; exact val_full hp', e1, by omega, .nil _, e1, e2⟩
  | obj hk hb hx hn hu hq hl ih =>
    rename_i p q r key ks i x
    intro P hv n o hr hD
    cases n with
    | zero => exact absurd hr.2.2.1 (by intro h; cases h)
    | succ n =>
      obtain ⟨h123, hlt, hin⟩ := obj_in hr.2.2.1 hk
      rw [← hr.2.2.2.1] at h123 hlt hin
      rcases hin with ⟨-, he⟩ | hch
      · rw [he] at hq; simp at hq
      obtain ⟨off, ho, hrq, hqE, hqc⟩ := mchain_at hch hq
      have h1 := skip_le isBlank s off
      have h5 : q.b = L.skip isBlank s off := hrq.2.2.2.1
      obtain ⟨-, -, -, hqb, hqe, -⟩ := leads_at hl hrq
      obtain ⟨q', r', hv', hb', he', hl', hrb, hre⟩ := ih P hv hrq (fun _ => by unfold Dl; omega)
      obtain ⟨E', ns', qs', hc', hns, hi', hE⟩ := mchain_put P hv' hqb hqe he' hch hq
      have hbp : bt t p.b = 123 := by rw [bt_mv P.l (i := p.b) rfl (by omega) (by omega)]; exact h123
      obtain ⟨x', hx', hxn⟩ := map_at hns hx
      refine ⟨.mk 6 p.b E' ns' qs', r', val_full (val_obj hbp hc'), rfl, hE, .obj rfl hb hx' (by rw [hxn]; exact hn) (fun j y' hy hyn => ?_) hi' hl', hrb, hre⟩
      obtain ⟨y, hy1, hy2⟩ := map_at hns.symm hy
      exact hu j y hy1 (by rw [hy2]; exact hyn)
  | arr hk hi hq hl ih =>
    rename_i p q r key ks i
    intro P hv n o hr hD
    cases n with
    | zero => exact absurd hr.2.2.1 (by intro h; cases h)
    | succ n =>
      obtain ⟨h91, hlt, hin⟩ := arr_in (by have := hr.2.1; omega) hr.2.2.1 hk
      rw [← hr.2.2.2.1] at h91 hlt hin
      rcases hin with ⟨he, -⟩ | hch
      · rw [he] at hq; simp at hq
      obtain ⟨off, ho, hrq, hqE, hqc⟩ := echain_at hch hq
      have h1 := skip_le isBlank s off
      have h5 : q.b = L.skip isBlank s off := hrq.2.2.2.1
      obtain ⟨-, -, -, hqb, hqe, -⟩ := leads_at hl hrq
      obtain ⟨q', r', hv', hb', he', hl', hrb, hre⟩ := ih P hv hrq (fun _ => by unfold Dl; omega)
      obtain ⟨E', qs', hc', hi', hE⟩ := echain_put P hv' hqb hqe he' hch hq
      have hbp : bt t p.b = 91 := by rw [bt_mv P.l (i := p.b) rfl (by omega) (by omega)]; exact h91
      exact ⟨.mk 5 p.b E' [] qs', r', val_full (val_arr hbp hc'), rfl, hE, .arr rfl hi hi' hl', hrb, hre⟩
/-- The whole text. -/
theorem put_places {s t v : ByteArray} {p r pv : Pl} {ks : List ByteArray} (hp : places s = some p) (hpv : places v = some pv) (h0 : pv.b = 0) (hve : pv.e = v.size) (h : Leads s p ks r) (hk : ks ≠ []) (P : Put s t r.b r.e v.size) (hv : ∀ k : Nat, k < v.size → bt t ((r.b + k : Nat) : Int) = bt v k) :
    ∃ p' r', places t = some p' ∧ Leads t p' ks r' ∧ r'.b = r.b ∧ r'.e = r.b + v.size := by
  have g1 : valN v (v.size + 1) 0 = some (v.size, pv) := by
    unfold places valAt at hpv
    split at hpv
    · cases hpv
    · rename_i j q hq
      split at hpv
      · simp only [Option.some.injEq] at hpv
        subst hpv
        have hvo := vok _ _ _ _ (skip_top isBlank v (Nat.zero_le _)) hq
        have e1 := hvo.2.2.2.1
        have e2 := hvo.2.2.2.2.1
        rw [← e1, h0, ← e2, hve] at hq
        exact hq
      · cases hpv
  unfold places valAt at hp
  split at hp
  · cases hp
  · rename_i j q hq
    split at hp
    · rename_i hend
      simp only [Option.some.injEq] at hp
      subst hp
      obtain ⟨hr, rfl⟩ := rdv_of (Nat.zero_le _) (skip_top isBlank s (Nat.zero_le _)) hq
      obtain ⟨-, -, -, hqb, hqe, hlt⟩ := leads_at h hr
      obtain ⟨p', r', h1, h2, h3, h4, h5, h6⟩ := put_lead g1 h P hv hr (fun e => absurd e hk)
      have hr' := rdv_put P hr h1 hqb
      have hs0 : L.skip isBlank t 0 = q.b := by rw [← hr'.2.2.2.1]; exact h2
      have hpe := hr'.2.2.2.2.1
      have hsz := P.sz
      have hes := P.es
      have hse : L.skip isBlank t p'.e = t.size := by
        refine skip_of (Nat.le_refl _) hpe (Nat.le_refl _) (fun k k1 k2 => ?_) (fun hh => by omega)
        rw [bt_mv P.r (i := k + r.e - (r.b + v.size)) (by omega) (by omega) (by omega)]
        exact skip_run (i := q.e) (Nat.le_refl _) _ (by omega) (by rw [hend]; omega)
      refine ⟨p', r', ?_, h4, h5, h6⟩
      unfold places valAt
      rw [hs0, valN_ext (Ext.refl t) (Nat.le_succ _) (by have := val_lt h1; omega) h1]
      simp only
      rw [if_pos hse]
    · cases hp
end
end Go.Proofs.YtbgcjnhebfgicaaDoor.Jp
