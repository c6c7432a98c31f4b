/- What spec.Unquote gives, as a plain function: the characters of a string's inside. -/
import Derived.Test.YtkdkdhcjpgmjdaaGreatDoorReader2
import Derived.Test.YtkdkdhcjpgmjdaaGreatDoorOwn
namespace Go.Proofs.YtkdkdhcjpgmjdaaGreatDoor.L
open Go.RowKit
set_option linter.unusedVariables false
set_option linter.unusedSimpArgs false

/-- Four hexadecimal digits stand at i. -/
def hex4 (s : ByteArray) (i : Nat) : Bool := isHex (bt s (i : Nat)) && isHex (bt s (i + 1 : Nat)) && isHex (bt s (i + 2 : Nat)) && isHex (bt s (i + 3 : Nat))
def hexQ (s : ByteArray) (i : Nat) : Int := ((hexV (bt s (i : Nat)) * 16 + hexV (bt s (i + 1 : Nat))) * 16 + hexV (bt s (i + 2 : Nat))) * 16 + hexV (bt s (i + 3 : Nat))
/-- The number of the escape \uXXXX at i, if one stands there. -/
def unitB (s : ByteArray) (i : Nat) : Option Int :=
  if bt s (i : Nat) = 92 ∧ bt s (i + 1 : Nat) = 117 ∧ hex4 s (i + 2) = true then some (hexQ s (i + 2)) else none
def highI (n : Int) : Bool := decide (55296 ≤ n) && decide (n ≤ 56319)
def lowI (n : Int) : Bool := decide (56320 ≤ n) && decide (n ≤ 57343)
def shortI (c : Int) : Int := if c = 98 then 8 else if c = 102 then 12 else if c = 110 then 10 else if c = 114 then 13 else if c = 116 then 9 else c
def utfB (c : Int) : List Int :=
  if c < 128 then [c] else if c < 2048 then [192 + c / 64, 128 + c % 64] else if (highI c || lowI c) = true then [239, 191, 189]
  else if c < 65536 then [224 + c / 4096, 128 + c / 64 % 64, 128 + c % 64] else [240 + c / 262144, 128 + c / 4096 % 64, 128 + c / 64 % 64, 128 + c % 64]
/-- One step at i: what is written, and how far it goes. -/
def unqStep (s : ByteArray) (i : Nat) : List Int × Nat :=
  if bt s (i : Nat) = 92 then
    match unitB s i with
    | none => ([shortI (bt s (i + 1 : Nat))], i + 2)
    | some n =>
      match unitB s (i + 6) with
      | some m => if (highI n && lowI m) = true then (utfB (65536 + (n - 55296) * 1024 + (m - 56320)), i + 12) else (utfB n, i + 6)
      | none => (utfB n, i + 6)
  else ([bt s (i : Nat)], i + 1)
def unqN (s : ByteArray) : Nat → Nat → List Int
  | 0, _ => []
  | k + 1, i => if i < s.size then (unqStep s i).1 ++ unqN s k (unqStep s i).2 else []
/-- The characters from i on. -/
def unq (s : ByteArray) (i : Nat) : List Int := unqN s (s.size - i) i
theorem step_fwd (s : ByteArray) (i : Nat) : i < (unqStep s i).2 := by
  unfold unqStep
  repeat' split
  all_goals simp only []
  all_goals omega
theorem unqN_more (s : ByteArray) : ∀ (k i : Nat), s.size - i ≤ k → unqN s k i = unqN s (s.size - i) i
  | 0, i, h => by rw [show s.size - i = 0 by omega]
  | k + 1, i, h => by
    by_cases hi : i < s.size
    · obtain ⟨m, hm⟩ : ∃ m, s.size - i = m + 1 := ⟨s.size - i - 1, by omega⟩
      have hf := step_fwd s i
      rw [hm]
      simp only [unqN, if_pos hi]
      rw [unqN_more s k _ (by omega), unqN_more s m _ (by omega)]
    · rw [show s.size - i = 0 by omega]
      simp only [unqN, if_neg hi]
termination_by k => k
theorem unq_out {s : ByteArray} {i : Nat} (h : s.size ≤ i) : unq s i = [] := by
  unfold unq; rw [show s.size - i = 0 by omega]; rfl
theorem unq_step {s : ByteArray} {i : Nat} (h : i < s.size) : unq s i = (unqStep s i).1 ++ unq s (unqStep s i).2 := by
  have hf := step_fwd s i
  obtain ⟨m, hm⟩ : ∃ m, s.size - i = m + 1 := ⟨s.size - i - 1, by omega⟩
  unfold unq
  rw [hm]
  simp only [unqN, if_pos h]
  rw [unqN_more s m _ (by omega)]
theorem unq_plain {s : ByteArray} {i : Nat} (h : i < s.size) (hc : bt s (i : Nat) ≠ 92) : unq s i = [bt s (i : Nat)] ++ unq s (i + 1) := by
  rw [unq_step h]; unfold unqStep; rw [if_neg hc]
theorem unq_short {s : ByteArray} {i : Nat} (h : i < s.size) (hc : bt s (i : Nat) = 92) (hu : unitB s i = none) : unq s i = [shortI (bt s (i + 1 : Nat))] ++ unq s (i + 2) := by
  rw [unq_step h]; unfold unqStep; rw [if_pos hc, hu]
theorem unit_bs {s : ByteArray} {i : Nat} {n : Int} (hu : unitB s i = some n) : bt s (i : Nat) = 92 := by
  unfold unitB at hu
  split at hu
  · rename_i h; exact h.1
  · cases hu
theorem sON_append (a b : List Int) : strOfNums (a ++ b) = strOfNums a ++ strOfNums b := ByteArray.ext (by simp [strOfNums])
theorem unq_pair {s : ByteArray} {i : Nat} {n m : Int} (h : i < s.size) (hu : unitB s i = some n) (hm : unitB s (i + 6) = some m) (hh : highI n = true) (hl : lowI m = true) :
    unq s i = utfB (65536 + (n - 55296) * 1024 + (m - 56320)) ++ unq s (i + 12) := by
  have hc := unit_bs hu
  rw [unq_step h]; unfold unqStep; rw [if_pos hc, hu, hm]
  simp only [hh, hl, Bool.and_self, if_true]
theorem unq_one {s : ByteArray} {i : Nat} {n : Int} (h : i < s.size) (hu : unitB s i = some n) (hp : ∀ m, unitB s (i + 6) = some m → (highI n && lowI m) = false) :
    unq s i = utfB n ++ unq s (i + 6) := by
  have hc := unit_bs hu
  rw [unq_step h]; unfold unqStep; rw [if_pos hc, hu]
  cases hm : unitB s (i + 6) with
  | none => rfl
  | some m =>
    simp only [hp m hm]
    rfl
/-- The bytes from i to j, none of them a backslash. -/
theorem unq_run {s : ByteArray} : ∀ {d i j : Nat}, j - i = d → i ≤ j → j ≤ s.size → (∀ k : Nat, i ≤ k → k < j → bt s (k : Nat) ≠ 92) → strOfNums (unq s i) = s.extract i j ++ strOfNums (unq s j)
  | 0, i, j, hd, h1, h2, h => by
    obtain rfl : i = j := by omega
    have : s.extract i i = ByteArray.empty := ByteArray.ext (by simp)
    rw [this, ByteArray.empty_append]
  | d + 1, i, j, hd, h1, h2, h => by
    rw [unq_plain (by omega) (h i (by omega) (by omega)), sON_append, unq_run (d := d) (i := i + 1) (j := j) (by omega) (by omega) h2 (fun k a b => h k (by omega) b), ← ByteArray.append_assoc]
    congr 1
    have hr := bt_range s i
    refine eq_of_bt (by rw [ByteArray.size_append, strOfNums_size, size_ext, size_ext]; simp; omega) fun k hk => ?_
    rw [ByteArray.size_append, strOfNums_size, size_ext] at hk
    simp only [List.length_cons, List.length_nil] at hk
    rw [bt_ext _ _ _ _ (by omega) (by rw [size_ext]; omega)]
    by_cases hk0 : k = 0
    · subst hk0
      rw [bt_app_left _ _ _ (by omega) (by rw [strOfNums_size]; simp)]
      have := bt_nums [bt s (i : Nat)] 0 (by simp) hr
      simp only [List.getElem_cons_zero] at this
      rw [this]; congr 1
    · rw [bt_app_right _ _ _ (by rw [strOfNums_size]; simp; omega), strOfNums_size, bt_ext _ _ _ _ (by simp; omega) (by rw [size_ext]; simp; omega)]
      congr 1
      simp; omega
theorem hexV_le {c : Int} (h : isHex c = true) : 0 ≤ hexV c ∧ hexV c ≤ 15 := by
  unfold isHex isDigit at h
  simp only [Bool.or_eq_true, Bool.and_eq_true, decide_eq_true_eq] at h
  unfold hexV
  repeat' split
  all_goals omega
theorem hexQ_le {s : ByteArray} {i : Nat} (h : hex4 s i = true) : 0 ≤ hexQ s i ∧ hexQ s i ≤ 65535 := by
  unfold hex4 at h
  simp only [Bool.and_eq_true] at h
  have h1 := hexV_le h.1.1.1
  have h2 := hexV_le h.1.1.2
  have h3 := hexV_le h.1.2
  have h4 := hexV_le h.2
  unfold hexQ
  omega
theorem unit_some {s : ByteArray} {i : Nat} {n : Int} (h : unitB s i = some n) : bt s (i : Nat) = 92 ∧ bt s (i + 1 : Nat) = 117 ∧ hex4 s (i + 2) = true ∧ n = hexQ s (i + 2) ∧ 0 ≤ n ∧ n ≤ 65535 ∧ i + 6 ≤ s.size := by
  unfold unitB at h
  split at h
  · rename_i hc
    injection h with h
    have h2 := hexQ_le hc.2.2
    have h3 : i + 5 < s.size := hex_ne (by have := hc.2.2; unfold hex4 at this; simp only [Bool.and_eq_true] at this; exact this.2)
    exact ⟨hc.1, hc.2.1, hc.2.2, h.symm, by omega, by omega, by omega⟩
  · cases h
/-- From i on each backslash begins an escape. -/
def wfN (s : ByteArray) : Nat → Nat → Bool
  | 0, i => decide (i = s.size)
  | k + 1, i => if i < s.size then (if bt s (i : Nat) = 92 then (match escAt s (i + 1) with | some j => wfN s k j | none => false) else wfN s k (i + 1)) else decide (i = s.size)
end Go.Proofs.YtkdkdhcjpgmjdaaGreatDoor.L
