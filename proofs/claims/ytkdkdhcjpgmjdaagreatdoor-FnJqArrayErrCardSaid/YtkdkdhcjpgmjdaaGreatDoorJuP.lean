/- What jsonparser's unescape meets in a string's inside: plain Lean. -/
import Derived.Test.YtkdkdhcjpgmjdaaGreatDoorUnqV
import Derived.Lib.RuneBytes
import Derived.Lib.IndexLaws
namespace Go.Proofs.YtkdkdhcjpgmjdaaGreatDoor.L
open Go.RowKit
set_option linter.unusedVariables false
set_option linter.unusedSimpArgs false

section
variable {t : ByteArray} {p : Nat}
theorem bt_drop (t : ByteArray) {p : Nat} (hp : p ≤ t.size) (k : Nat) : bt (t.extract p t.size) (k : Nat) = bt t ((p + k : Nat) : Int) := by
  by_cases h : p + k < t.size
  · rw [bt_ext _ _ _ _ (by omega) (by rw [size_ext]; omega)]
    congr 1
  · rw [bt_out _ _ (by rw [size_ext]; omega), bt_out _ _ (by omega)]
theorem unit_drop (hp : p ≤ t.size) (i : Nat) : unitB (t.extract p t.size) i = unitB t (p + i) := by
  simp only [unitB, hex4, hexQ, bt_drop t hp, Nat.add_assoc]
theorem escAt_drop (hp : p ≤ t.size) (i : Nat) : escAt (t.extract p t.size) i = (escAt t (p + i)).map (· - p) := by
  unfold escAt
  simp only [bt_drop t hp, Nat.add_assoc]
  repeat' split
  all_goals simp
  all_goals omega
theorem step_drop (hp : p ≤ t.size) (i : Nat) : (unqStep (t.extract p t.size) i).1 = (unqStep t (p + i)).1 ∧ p + (unqStep (t.extract p t.size) i).2 = (unqStep t (p + i)).2 := by
  unfold unqStep
  simp only [bt_drop t hp, unit_drop hp, Nat.add_assoc]
  by_cases h : bt t ((p + i : Nat) : Int) = 92
  · rw [if_pos h, if_pos h]
    cases unitB t (p + i) with
    | none => exact ⟨rfl, rfl⟩
    | some n =>
      simp only []
      cases unitB t (p + (i + 6)) with
      | none => exact ⟨rfl, rfl⟩
      | some m =>
        simp only []
        split <;> exact ⟨rfl, rfl⟩
  · rw [if_neg h, if_neg h]
    exact ⟨rfl, rfl⟩
theorem unqN_drop (hp : p ≤ t.size) : ∀ k i, unqN (t.extract p t.size) k i = unqN t k (p + i)
  | 0, i => rfl
  | k + 1, i => by
    obtain ⟨h1, h2⟩ := step_drop hp i
    simp only [unqN]
    by_cases h : i < (t.extract p t.size).size
    · rw [if_pos h, if_pos (by rw [size_ext] at h; omega), h1, unqN_drop hp k, h2]
    · rw [if_neg h, if_neg (by rw [size_ext] at h; omega)]
theorem unq_drop (hp : p ≤ t.size) (i : Nat) : unq (t.extract p t.size) i = unq t (p + i) := by
  unfold unq
  rw [unqN_drop hp, show (t.extract p t.size).size - i = t.size - (p + i) by rw [size_ext]; omega]
theorem unq_drop0 (hp : p ≤ t.size) : unq (t.extract p t.size) 0 = unq t p := unq_drop hp 0
theorem EscOk.drop {j : Nat} (h : EscOk t j) : ∀ i, j = p + i → EscOk (t.extract p t.size) i := by
  induction h with
  | done =>
    intro i e
    have : (t.extract p t.size).size = i := by rw [size_ext]; omega
    rw [← this]
    exact EscOk.done
  | plain h hc hn ih =>
    rename_i j
    intro i e
    subst e
    refine EscOk.plain (by rw [size_ext]; omega) ?_ (ih (i + 1) (by omega))
    rw [bt_drop t (by omega)]
    exact hc
  | esc h hc he hn ih =>
    rename_i j k
    intro i e
    subst e
    have hk := escAt_step he
    refine EscOk.esc (j := k - p) (by rw [size_ext]; omega) ?_ ?_ (ih (k - p) (by omega))
    · rw [bt_drop t (by omega)]
      exact hc
    · rw [escAt_drop (by omega), show p + (i + 1) = p + i + 1 by omega, he]
      rfl
theorem EscOk.drop0 {j : Nat} (h : EscOk t j) : EscOk (t.extract j t.size) 0 := h.drop 0 rfl
theorem EscOk.runs {s : ByteArray} : ∀ {d i j : Nat}, j - i = d → i ≤ j → j ≤ s.size → (∀ k : Nat, i ≤ k → k < j → bt s (k : Nat) ≠ 92) → EscOk s i → EscOk s j
  | 0, i, j, hd, h1, h2, h, ho => by
    obtain rfl : i = j := by omega
    exact ho
  | d + 1, i, j, hd, h1, h2, h, ho => EscOk.runs (d := d) (i := i + 1) (by omega) (by omega) h2 (fun k a b => h k (by omega) b) (ho.one (by omega) (h i (by omega) (by omega)))
end
/-- A rune's bytes. -/
theorem encZ_utf {r : Int} (h0 : 0 ≤ r) (h1 : r ≤ 1114111) : Lib.encodeRuneZ r = utfB r := by
  unfold utfB highI lowI
  simp only [Bool.or_eq_true, Bool.and_eq_true, decide_eq_true_eq]
  by_cases c1 : r < 128
  · rw [if_pos c1, Lib.encodeRuneZ_one h0 (by omega)]
  rw [if_neg c1]
  by_cases c2 : r < 2048
  · rw [if_pos c2, Lib.encodeRuneZ_two (by omega) (by omega)]
  rw [if_neg c2]
  by_cases c3 : (55296 ≤ r ∧ r ≤ 56319) ∨ 56320 ≤ r ∧ r ≤ 57343
  · rw [if_pos c3, Lib.encodeRuneZ_bad (by omega)]
  rw [if_neg c3]
  by_cases c4 : r < 65536
  · rw [if_pos c4, Lib.encodeRuneZ_three (by omega)]
  · rw [if_neg c4, Lib.encodeRuneZ_four (by omega) h1]
theorem encZ_bad {r : Int} (h : (highI r || lowI r) = true) : utfB r = Lib.encodeRuneZ 65533 := by
  rw [show Lib.encodeRuneZ 65533 = [239, 191, 189] from by decide +kernel]
  unfold utfB
  have h' := h
  unfold highI lowI at h'
  simp only [Bool.or_eq_true, Bool.and_eq_true, decide_eq_true_eq] at h'
  rw [if_neg (by omega), if_neg (by omega), if_pos h]
/-- What one step of the unescaping does: k bytes are read, l is written. -/
structure UnSt (t : ByteArray) (k : Nat) (l : List Int) : Prop where
  k0 : 0 < k
  kt : k ≤ t.size
  lk : l.length ≤ k
  un : unq t 0 = l ++ unq (t.extract k t.size) 0
  ok : EscOk (t.extract k t.size) 0
theorem UnSt.short {t : ByteArray} (h : EscOk t 0) (h0 : 0 < t.size) (h92 : bt t ((0 : Nat) : Int) = 92) (hu : unitB t 0 = none) : UnSt t 2 [shortI (bt t ((1 : Nat) : Int))] := by
  obtain ⟨h1, h2⟩ := h.two h0 h92 hu
  refine ⟨by omega, by omega, by simp, ?_, h1.drop0⟩
  rw [unq_drop0 (by omega), unq_short h0 h92 hu]
/-- Half a pair, or a character of four digits. -/
theorem UnSt.one {t : ByteArray} {n r : Int} (h : EscOk t 0) (h0 : 0 < t.size) (hu : unitB t 0 = some n) (hp : ∀ m, unitB t 6 = some m → (highI n && lowI m) = false)
    (hr : ((highI n || lowI n) = true ∧ r = 65533) ∨ ((highI n || lowI n) = false ∧ r = n)) : UnSt t 6 (Lib.encodeRuneZ r) := by
  obtain ⟨-, -, -, -, n0, n1, h6⟩ := unit_some hu
  have e : Lib.encodeRuneZ r = utfB n := by
    rcases hr with ⟨h1, rfl⟩ | ⟨h1, rfl⟩
    · rw [encZ_bad h1]
    · exact encZ_utf n0 (by omega)
  refine ⟨by omega, by omega, Nat.le_trans (Lib.encodeRuneZ_length r).2 (by omega), ?_, (h.six hu).drop0⟩
  rw [unq_drop0 (by omega), unq_one h0 hu hp, e]
theorem UnSt.pair {t : ByteArray} {n m r : Int} (h : EscOk t 0) (h0 : 0 < t.size) (hu : unitB t 0 = some n) (hm : unitB t 6 = some m) (hh : highI n = true) (hl : lowI m = true) (hr : r = 65536 + (n - 55296) * 1024 + (m - 56320)) : UnSt t 12 (Lib.encodeRuneZ r) := by
  obtain ⟨-, -, -, -, n0, n1, h6⟩ := unit_some hu
  obtain ⟨-, -, -, -, m0, m1, h12⟩ := unit_some hm
  have hb := hh
  have hc := hl
  unfold highI at hb
  unfold lowI at hc
  simp only [Bool.and_eq_true, decide_eq_true_eq] at hb hc
  have e : Lib.encodeRuneZ r = utfB r := encZ_utf (by omega) (by omega)
  refine ⟨by omega, by omega, Nat.le_trans (Lib.encodeRuneZ_length r).2 (by omega), ?_, ((h.six hu).six hm).drop0⟩
  rw [unq_drop0 (by omega), unq_pair h0 hu hm hh hl, e, hr]
theorem EscOk.letters {s : ByteArray} {i : Nat} (h : EscOk s i) (hi : i < s.size) (h92 : bt s (i : Nat) = 92) :
    (unitB s i = none ∧ (bt s ((i + 1 : Nat) : Int) = 34 ∨ bt s ((i + 1 : Nat) : Int) = 92 ∨ bt s ((i + 1 : Nat) : Int) = 47 ∨ bt s ((i + 1 : Nat) : Int) = 98 ∨ bt s ((i + 1 : Nat) : Int) = 102 ∨ bt s ((i + 1 : Nat) : Int) = 110 ∨ bt s ((i + 1 : Nat) : Int) = 114 ∨ bt s ((i + 1 : Nat) : Int) = 116)) ∨
    ∃ n, unitB s i = some n := by
  cases h with
  | done => omega
  | plain _ hc => exact absurd h92 hc
  | esc _ _ he hn =>
    unfold escAt at he
    split at he
    · rename_i h
      refine .inl ⟨?_, h⟩
      unfold unitB
      rw [if_neg (by rintro ⟨-, h2, -⟩; omega)]
    · split at he
      · rename_i h117
        split at he
        · rename_i hh
          refine .inr ⟨hexQ s (i + 2), ?_⟩
          unfold unitB
          rw [if_pos ⟨h92, h117, by unfold hex4; rw [hh.1, hh.2.1, hh.2.2.1, hh.2.2.2]; rfl⟩]
        · cases he
      · cases he
/-- The first backslash of a text, or none. -/
theorem first92 (t : ByteArray) : (Lib.indexByte t.data.toList 92 = -1 ∧ ∀ k : Nat, bt t (k : Nat) ≠ 92) ∨
    ∃ n : Nat, Lib.indexByte t.data.toList 92 = (n : Int) ∧ n < t.size ∧ bt t (n : Nat) = 92 ∧ ∀ k : Nat, k < n → bt t (k : Nat) ≠ 92 := by
  have hat : ∀ k : Nat, t.data.toList[k]? = some 92 ↔ bt t (k : Nat) = 92 := by
    intro k
    rw [← getD_bt, List.getD_eq_getElem?_getD]
    cases h : t.data.toList[k]? with
    | none => simp
    | some c =>
      simp only [Option.getD_some, Option.some.injEq]
      constructor
      · rintro rfl; rfl
      · intro e
        exact UInt8.toNat_inj.1 (by rw [show (92 : UInt8).toNat = 92 from rfl]; omega)
  have h := Lib.indexByte_ge t.data.toList 92
  by_cases h1 : Lib.indexByte t.data.toList 92 = -1
  · exact .inl ⟨h1, fun k e => Lib.indexByte_none h1 k ((hat k).2 e)⟩
  · obtain ⟨n, hn⟩ : ∃ n : Nat, Lib.indexByte t.data.toList 92 = n := ⟨(Lib.indexByte t.data.toList 92).toNat, by omega⟩
    obtain ⟨a, b⟩ := Lib.indexByte_some hn
    have a' := (hat n).1 a
    have hlt : n < t.size := by
      rcases Nat.lt_or_ge n t.size with h | h
      · exact h
      · rw [bt_out t _ (by omega)] at a'; omega
    exact .inr ⟨n, hn, hlt, a', fun k hk e => b k hk ((hat k).2 e)⟩
/-- A text's bytes as numbers. -/
def bl (s : ByteArray) : List Int := (List.range s.size).map fun (j : Nat) => bt s (j : Nat)
theorem bl_length (s : ByteArray) : (bl s).length = s.size := by simp [bl]
theorem bl_get (s : ByteArray) {j : Nat} (h : j < s.size) : (bl s)[j]? = some (bt s (j : Nat)) := by
  unfold bl
  rw [List.getElem?_map, List.getElem?_range h]
  rfl
theorem bl_nums (s : ByteArray) : strOfNums (bl s) = s := by
  refine eq_of_bt (by rw [strOfNums_size, bl_length]) fun k hk => ?_
  rw [strOfNums_size, bl_length] at hk
  have hl : k < (bl s).length := by rw [bl_length]; exact hk
  have e : (bl s)[k] = bt s (k : Nat) := by
    have := bl_get s hk
    rw [List.getElem?_eq_getElem hl] at this
    exact Option.some.inj this
  rw [bt_nums _ _ hl (by rw [e]; exact bt_range s k), e]
/-- A run without backslashes is written as it is. -/
theorem unq_bl {t : ByteArray} {n : Nat} (hn : n ≤ t.size) (h : ∀ k : Nat, k < n → bt t (k : Nat) ≠ 92) : unq t 0 = bl (t.extract 0 n) ++ unq (t.extract n t.size) 0 := by
  rw [unq_drop0 hn]
  have : ∀ d i, n - i = d → i ≤ n → unq t i = bl (t.extract i n) ++ unq t n := by
    intro d
    induction d with
    | zero =>
      intro i hd hi
      obtain rfl : i = n := by omega
      have : bl (t.extract i i) = [] := List.eq_nil_of_length_eq_zero (by rw [bl_length, size_ext]; omega)
      rw [this]; rfl
    | succ d ih =>
      intro i hd hi
      rw [unq_plain (by omega) (h i (by omega)), ih (i + 1) (by omega) (by omega), ← List.append_assoc]
      congr 1
      apply List.ext_getElem?
      intro j
      by_cases hj : j < n - i
      · rw [bl_get _ (by rw [size_ext]; omega)]
        cases j with
        | zero =>
          simp only [List.cons_append, List.nil_append, List.getElem?_cons_zero, Option.some.injEq]
          rw [bt_ext _ _ _ _ (by omega) (by rw [size_ext]; omega)]
          congr 1
        | succ j =>
          simp only [List.cons_append, List.nil_append, List.getElem?_cons_succ]
          rw [bl_get _ (by rw [size_ext]; omega), bt_ext _ _ _ _ (by omega) (by rw [size_ext]; omega), bt_ext _ _ _ _ (by omega) (by rw [size_ext]; omega)]
          congr 2
          omega
      · rw [List.getElem?_eq_none (by rw [List.length_append, bl_length, size_ext]; simp; omega), List.getElem?_eq_none (by rw [bl_length, size_ext]; omega)]
  exact this n 0 (by omega) (by omega)
end Go.Proofs.YtkdkdhcjpgmjdaaGreatDoor.L
