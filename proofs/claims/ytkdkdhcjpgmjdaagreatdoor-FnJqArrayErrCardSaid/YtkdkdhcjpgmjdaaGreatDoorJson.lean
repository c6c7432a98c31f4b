/- The reader of JSON texts as a plain function: what spec's reader computes. No program in sight. -/
import Derived.Test.YtkdkdhcjpgmjdaaGreatDoorBase
namespace Go.Proofs.YtkdkdhcjpgmjdaaGreatDoor.L
set_option linter.unusedVariables false

/-- A value of a text: kind, first byte, byte behind the last, names' places, members or elements. -/
inductive Pl where
  | mk (kind b e : Nat) (names : List (Nat × Nat)) (kids : List Pl)
deriving Inhabited
def Pl.kind : Pl → Nat | .mk k _ _ _ _ => k
def Pl.b : Pl → Nat | .mk _ b _ _ _ => b
def Pl.e : Pl → Nat | .mk _ _ e _ _ => e
def Pl.names : Pl → List (Nat × Nat) | .mk _ _ _ n _ => n
def Pl.kids : Pl → List Pl | .mk _ _ _ _ k => k

def isBlank (c : Int) : Bool := c == 32 || c == 9 || c == 10 || c == 13
def isDigit (c : Int) : Bool := decide (48 ≤ c) && decide (c ≤ 57)
def isHex (c : Int) : Bool := isDigit c || (decide (97 ≤ c) && decide (c ≤ 102)) || (decide (65 ≤ c) && decide (c ≤ 70))

/-- Over the bytes that meet p, from i on (k: how many at most). -/
def skipN (p : Int → Bool) (s : ByteArray) : Nat → Nat → Nat
  | 0, i => i
  | k + 1, i => if i < s.size ∧ p (bt s i) = true then skipN p s k (i + 1) else i
def skip (p : Int → Bool) (s : ByteArray) (i : Nat) : Nat := skipN p s (s.size - i) i

theorem skipN_le (p : Int → Bool) (s : ByteArray) : ∀ k i, i ≤ skipN p s k i
  | 0, i => Nat.le_refl _
  | k + 1, i => by
    unfold skipN
    split
    · have := skipN_le p s k (i + 1); omega
    · exact Nat.le_refl _
theorem skipN_top (p : Int → Bool) (s : ByteArray) : ∀ k i, i ≤ s.size → skipN p s k i ≤ s.size
  | 0, i, h => h
  | k + 1, i, h => by
    unfold skipN
    split
    · rename_i hc; exact skipN_top p s k (i + 1) (by omega)
    · exact h
theorem skip_le (p : Int → Bool) (s : ByteArray) (i : Nat) : i ≤ skip p s i := skipN_le p s _ i
theorem skip_top (p : Int → Bool) (s : ByteArray) {i : Nat} (h : i ≤ s.size) : skip p s i ≤ s.size := skipN_top p s _ i h
theorem skip_yes {p : Int → Bool} {s : ByteArray} {i : Nat} (h : i < s.size) (hp : p (bt s i) = true) : skip p s i = skip p s (i + 1) := by
  unfold skip
  obtain ⟨k, hk⟩ : ∃ k, s.size - i = k + 1 := ⟨s.size - i - 1, by omega⟩
  rw [hk]
  show (if i < s.size ∧ p (bt s i) = true then skipN p s k (i + 1) else i) = _
  rw [if_pos ⟨h, hp⟩]
  congr 1
  omega
theorem skip_no {p : Int → Bool} {s : ByteArray} {i : Nat} (h : ¬ (i < s.size ∧ p (bt s i) = true)) : skip p s i = i := by
  unfold skip
  cases hk : s.size - i with
  | zero => rfl
  | succ k =>
    show (if i < s.size ∧ p (bt s i) = true then skipN p s k (i + 1) else i) = _
    rw [if_neg h]

/-- What stands behind a backslash, from i on. -/
def escAt (s : ByteArray) (i : Nat) : Option Nat :=
  if bt s i = 34 ∨ bt s i = 92 ∨ bt s i = 47 ∨ bt s i = 98 ∨ bt s i = 102 ∨ bt s i = 110 ∨ bt s i = 114 ∨ bt s i = 116 then some (i + 1)
  else if bt s i = 117 then (if isHex (bt s (i + 1 : Nat)) = true ∧ isHex (bt s (i + 2 : Nat)) = true ∧ isHex (bt s (i + 3 : Nat)) = true ∧ isHex (bt s (i + 4 : Nat)) = true then some (i + 5) else none)
  else none
/-- The inside of a string from i on, to behind its closing quotation mark. -/
def strN (s : ByteArray) : Nat → Nat → Option Nat
  | 0, _ => none
  | k + 1, i =>
    if i < s.size then
      (if bt s i = 34 then some (i + 1)
       else if bt s i < 32 then none
       else if bt s i = 92 then (match escAt s (i + 1) with | some j => strN s k j | none => none)
       else strN s k (i + 1))
    else none
/-- A string whose first quotation mark stands at i. -/
def strAt (s : ByteArray) (i : Nat) : Option Nat := strN s (s.size + 1) (i + 1)

def digitsAt (s : ByteArray) (i : Nat) : Option Nat := if skip isDigit s i > i then some (skip isDigit s i) else none
def numInt (s : ByteArray) (i : Nat) : Option Nat := if bt s i = 48 then some (i + 1) else digitsAt s i
def numFrac (s : ByteArray) (i : Nat) : Option Nat := if bt s i = 46 then digitsAt s (i + 1) else some i
def numSign (s : ByteArray) (i : Nat) : Nat := if bt s i = 43 ∨ bt s i = 45 then i + 1 else i
def numExp (s : ByteArray) (i : Nat) : Option Nat := if bt s i = 101 ∨ bt s i = 69 then digitsAt s (numSign s (i + 1)) else some i
def numAt (s : ByteArray) (i : Nat) : Option Nat :=
  (numInt s (if bt s i = 45 then i + 1 else i)).bind fun j => (numFrac s j).bind fun j => numExp s j

def wordAt (s : ByteArray) (i : Nat) (t : ByteArray) : Bool := decide (i + t.size ≤ s.size) && decide (s.extract i (i + t.size) = t)
def nullT : ByteArray := ⟨#[110, 117, 108, 108]⟩
def falseT : ByteArray := ⟨#[102, 97, 108, 115, 101]⟩
def trueT : ByteArray := ⟨#[116, 114, 117, 101]⟩

/-- The elements from a value's place on; what has been read comes first. -/
def elemsN (f : Nat → Option (Nat × Pl)) (s : ByteArray) : Nat → Nat → List Pl → Option (Nat × List Pl)
  | 0, _, _ => none
  | k + 1, i, acc =>
    match f i with
    | none => none
    | some (j, p) =>
      if bt s (skip isBlank s j) = 93 then some (skip isBlank s j + 1, acc ++ [p])
      else if bt s (skip isBlank s j) = 44 then elemsN f s k (skip isBlank s (skip isBlank s j + 1)) (acc ++ [p])
      else none
def elemsAt (f : Nat → Option (Nat × Pl)) (s : ByteArray) (i : Nat) : Option (Nat × List Pl) :=
  if bt s (skip isBlank s (i + 1)) = 93 then some (skip isBlank s (i + 1) + 1, [])
  else elemsN f s (s.size + 1) (skip isBlank s (i + 1)) []
/-- The members from a name's place on. -/
def membsN (f : Nat → Option (Nat × Pl)) (s : ByteArray) : Nat → Nat → List (Nat × Nat) → List Pl → Option (Nat × List (Nat × Nat) × List Pl)
  | 0, _, _, _ => none
  | k + 1, i, ns, ks =>
    if bt s i = 34 then
      match strAt s i with
      | none => none
      | some j =>
        if bt s (skip isBlank s j) = 58 then
          match f (skip isBlank s (skip isBlank s j + 1)) with
          | none => none
          | some (l, p) =>
            if bt s (skip isBlank s l) = 125 then some (skip isBlank s l + 1, ns ++ [(i, j)], ks ++ [p])
            else if bt s (skip isBlank s l) = 44 then membsN f s k (skip isBlank s (skip isBlank s l + 1)) (ns ++ [(i, j)]) (ks ++ [p])
            else none
        else none
    else none
def membsAt (f : Nat → Option (Nat × Pl)) (s : ByteArray) (i : Nat) : Option (Nat × List (Nat × Nat) × List Pl) :=
  if bt s (skip isBlank s (i + 1)) = 125 then some (skip isBlank s (i + 1) + 1, [], [])
  else membsN f s (s.size + 1) (skip isBlank s (i + 1)) [] []
/-- The value that begins at i (n: how deep at most). -/
def valN (s : ByteArray) : Nat → Nat → Option (Nat × Pl)
  | 0, _ => none
  | n + 1, i =>
    if bt s i = 123 then (membsAt (valN s n) s i).map fun x => (x.1, .mk 6 i x.1 x.2.1 x.2.2)
    else if bt s i = 91 then (elemsAt (valN s n) s i).map fun x => (x.1, .mk 5 i x.1 [] x.2)
    else if bt s i = 34 then (strAt s i).map fun j => (j, .mk 4 i j [] [])
    else if bt s i = 45 ∨ (48 ≤ bt s i ∧ bt s i ≤ 57) then (numAt s i).map fun j => (j, .mk 3 i j [] [])
    else if wordAt s i nullT = true then some (i + 4, .mk 0 i (i + 4) [] [])
    else if wordAt s i falseT = true then some (i + 5, .mk 1 i (i + 5) [] [])
    else if wordAt s i trueT = true then some (i + 4, .mk 2 i (i + 4) [] [])
    else none
def valAt (s : ByteArray) (i : Nat) : Option (Nat × Pl) := valN s (s.size + 1) i
/-- A JSON text. -/
def places (s : ByteArray) : Option Pl :=
  match valAt s (skip isBlank s 0) with
  | none => none
  | some (j, p) => if skip isBlank s j = s.size then some p else none

/-! ### each goes forward -/
theorem lt_of_bt {s : ByteArray} {i : Nat} (h : bt s i ≠ 0) : i < s.size := by
  rcases Nat.lt_or_ge i s.size with h' | h'
  · exact h'
  · exact absurd (bt_out s i (by omega)) h
theorem hex_ne {s : ByteArray} {i : Nat} (h : isHex (bt s i) = true) : i < s.size := lt_of_bt fun e => by
  rw [e] at h; revert h; decide
theorem escAt_step {s : ByteArray} {i j : Nat} (h : escAt s i = some j) : i < j ∧ j ≤ s.size := by
  unfold escAt at h
  split at h
  · rename_i hc
    injection h with h
    have := lt_of_bt (s := s) (i := i) (by omega)
    omega
  · split at h
    · split at h
      · rename_i hh
        injection h with h
        have := hex_ne hh.2.2.2
        omega
      · cases h
    · cases h
theorem strN_step {s : ByteArray} : ∀ {k i j : Nat}, strN s k i = some j → i < j ∧ j ≤ s.size
  | 0, _, _, h => by cases h
  | k + 1, i, j, h => by
    unfold strN at h
    split at h
    · split at h
      · injection h with h; omega
      · split at h
        · cases h
        · split at h
          · split at h
            · rename_i l hl
              have h1 := escAt_step hl
              have h2 := strN_step h
              omega
            · cases h
          · have h2 := strN_step h
            omega
    · cases h
theorem strAt_step {s : ByteArray} {i j : Nat} (h : strAt s i = some j) : i + 1 < j ∧ j ≤ s.size := strN_step h
theorem digitsAt_step {s : ByteArray} {i j : Nat} (hi : i ≤ s.size) (h : digitsAt s i = some j) : i < j ∧ j ≤ s.size := by
  unfold digitsAt at h
  split at h
  · injection h with h
    have := skip_top isDigit s hi
    omega
  · cases h
theorem numInt_step {s : ByteArray} {i j : Nat} (hi : i ≤ s.size) (h : numInt s i = some j) : i < j ∧ j ≤ s.size := by
  unfold numInt at h
  split at h
  · injection h with h
    have := lt_of_bt (s := s) (i := i) (by omega)
    omega
  · exact digitsAt_step hi h
theorem numFrac_step {s : ByteArray} {i j : Nat} (hi : i ≤ s.size) (h : numFrac s i = some j) : i ≤ j ∧ j ≤ s.size := by
  unfold numFrac at h
  split at h
  · have := lt_of_bt (s := s) (i := i) (by omega)
    have := digitsAt_step (by omega) h
    omega
  · injection h with h; omega
theorem numSign_step {s : ByteArray} {i : Nat} (hi : i ≤ s.size) : i ≤ numSign s i ∧ numSign s i ≤ s.size := by
  unfold numSign
  split
  · have := lt_of_bt (s := s) (i := i) (by omega)
    omega
  · omega
theorem numExp_step {s : ByteArray} {i j : Nat} (hi : i ≤ s.size) (h : numExp s i = some j) : i ≤ j ∧ j ≤ s.size := by
  unfold numExp at h
  split at h
  · have := lt_of_bt (s := s) (i := i) (by omega)
    have h1 := numSign_step (s := s) (i := i + 1) (by omega)
    have := digitsAt_step h1.2 h
    omega
  · injection h with h; omega
theorem numAt_step {s : ByteArray} {i j : Nat} (hi : i ≤ s.size) (h : numAt s i = some j) : i < j ∧ j ≤ s.size := by
  unfold numAt at h
  simp only [Option.bind_eq_some_iff] at h
  obtain ⟨a, h1, b, h2, h3⟩ := h
  have h0 : i ≤ (if bt s i = 45 then i + 1 else i) ∧ (if bt s i = 45 then i + 1 else i) ≤ s.size := by
    split
    · have := lt_of_bt (s := s) (i := i) (by omega)
      omega
    · omega
  have g1 := numInt_step h0.2 h1
  have g2 := numFrac_step g1.2 h2
  have g3 := numExp_step g2.2 h3
  omega
theorem wordAt_step {s t : ByteArray} {i : Nat} (h : wordAt s i t = true) : i + t.size ≤ s.size := by
  unfold wordAt at h
  simp at h
  exact h.1

/-- A reader that goes forward. -/
def Fwd (s : ByteArray) (f : Nat → Option (Nat × Pl)) : Prop := ∀ i j p, i ≤ s.size → f i = some (j, p) → i < j ∧ j ≤ s.size
theorem elemsN_step {s : ByteArray} {f : Nat → Option (Nat × Pl)} (hf : Fwd s f) : ∀ {k i : Nat} {acc : List Pl} {j : Nat} {ps : List Pl}, i ≤ s.size → elemsN f s k i acc = some (j, ps) → i < j ∧ j ≤ s.size
  | 0, _, _, _, _, _, h => by cases h
  | k + 1, i, acc, j, ps, hi, h => by
    unfold elemsN at h
    split at h
    · cases h
    · rename_i l p hl
      have h1 := hf i l p hi hl
      have h2 := skip_le isBlank s l
      have h3 := skip_top isBlank s h1.2
      split at h
      · rename_i hc
        have := lt_of_bt (s := s) (i := skip isBlank s l) (by omega)
        simp only [Option.some.injEq, Prod.mk.injEq] at h
        omega
      · split at h
        · rename_i hc
          have h4 := lt_of_bt (s := s) (i := skip isBlank s l) (by omega)
          have h5 := skip_le isBlank s (skip isBlank s l + 1)
          have h6 := skip_top isBlank s (i := skip isBlank s l + 1) (by omega)
          have h7 := elemsN_step hf h6 h
          omega
        · cases h
theorem elemsAt_step {s : ByteArray} {f : Nat → Option (Nat × Pl)} (hf : Fwd s f) {i j : Nat} {ps : List Pl} (hi : i < s.size) (h : elemsAt f s i = some (j, ps)) : i < j ∧ j ≤ s.size := by
  unfold elemsAt at h
  have h2 := skip_le isBlank s (i + 1)
  have h3 := skip_top isBlank s (i := i + 1) (by omega)
  split at h
  · have := lt_of_bt (s := s) (i := skip isBlank s (i + 1)) (by omega)
    simp only [Option.some.injEq, Prod.mk.injEq] at h
    omega
  · have := elemsN_step hf h3 h
    omega
theorem membsN_step {s : ByteArray} {f : Nat → Option (Nat × Pl)} (hf : Fwd s f) : ∀ {k i : Nat} {ns : List (Nat × Nat)} {ks : List Pl} {j : Nat} {r : List (Nat × Nat) × List Pl}, i ≤ s.size → membsN f s k i ns ks = some (j, r) → i < j ∧ j ≤ s.size
  | 0, _, _, _, _, _, _, h => by cases h
  | k + 1, i, ns, ks, j, r, hi, h => by
    unfold membsN at h
    split at h
    · split at h
      · cases h
      · rename_i m hm
        have h1 := strAt_step hm
        have h2 := skip_le isBlank s m
        have h3 := skip_top isBlank s h1.2
        split at h
        · have h4 := lt_of_bt (s := s) (i := skip isBlank s m) (by omega)
          have h5 := skip_le isBlank s (skip isBlank s m + 1)
          have h6 := skip_top isBlank s (i := skip isBlank s m + 1) (by omega)
          split at h
          · cases h
          · rename_i l p hl
            have g1 := hf _ l p h6 hl
            have g2 := skip_le isBlank s l
            have g3 := skip_top isBlank s g1.2
            split at h
            · have := lt_of_bt (s := s) (i := skip isBlank s l) (by omega)
              simp only [Option.some.injEq, Prod.mk.injEq] at h
              omega
            · split at h
              · have g4 := lt_of_bt (s := s) (i := skip isBlank s l) (by omega)
                have g5 := skip_le isBlank s (skip isBlank s l + 1)
                have g6 := skip_top isBlank s (i := skip isBlank s l + 1) (by omega)
                have g7 := membsN_step hf g6 h
                omega
              · cases h
        · cases h
    · cases h
theorem membsAt_step {s : ByteArray} {f : Nat → Option (Nat × Pl)} (hf : Fwd s f) {i j : Nat} {r : List (Nat × Nat) × List Pl} (hi : i < s.size) (h : membsAt f s i = some (j, r)) : i < j ∧ j ≤ s.size := by
  unfold membsAt at h
  have h2 := skip_le isBlank s (i + 1)
  have h3 := skip_top isBlank s (i := i + 1) (by omega)
  split at h
  · have := lt_of_bt (s := s) (i := skip isBlank s (i + 1)) (by omega)
    simp only [Option.some.injEq, Prod.mk.injEq] at h
    omega
  · have := membsN_step hf h3 h
    omega
theorem valN_fwd (s : ByteArray) : ∀ n, Fwd s (valN s n)
  | 0 => fun _ _ _ _ h => by cases h
  | n + 1 => fun i j p hi h => by
    have ih := valN_fwd s n
    unfold valN at h
    split at h
    · have := lt_of_bt (s := s) (i := i) (by omega)
      simp only [Option.map_eq_some_iff, Prod.mk.injEq] at h
      obtain ⟨⟨a, b⟩, h1, rfl, _⟩ := h
      exact membsAt_step ih this h1
    · split at h
      · have := lt_of_bt (s := s) (i := i) (by omega)
        simp only [Option.map_eq_some_iff, Prod.mk.injEq] at h
        obtain ⟨⟨a, b⟩, h1, rfl, _⟩ := h
        exact elemsAt_step ih this h1
      · split at h
        · simp only [Option.map_eq_some_iff, Prod.mk.injEq] at h
          obtain ⟨a, h1, rfl, _⟩ := h
          have := strAt_step h1
          omega
        · split at h
          · simp only [Option.map_eq_some_iff, Prod.mk.injEq] at h
            obtain ⟨a, h1, rfl, _⟩ := h
            exact numAt_step hi h1
          · split at h
            · rename_i hw
              have := wordAt_step hw
              have : nullT.size = 4 := rfl
              simp only [Option.some.injEq, Prod.mk.injEq] at h
              omega
            · split at h
              · rename_i hw
                have := wordAt_step hw
                have : falseT.size = 5 := rfl
                simp only [Option.some.injEq, Prod.mk.injEq] at h
                omega
              · split at h
                · rename_i hw
                  have := wordAt_step hw
                  have : trueT.size = 4 := rfl
                  simp only [Option.some.injEq, Prod.mk.injEq] at h
                  omega
                · cases h
end Go.Proofs.YtkdkdhcjpgmjdaaGreatDoor.L
