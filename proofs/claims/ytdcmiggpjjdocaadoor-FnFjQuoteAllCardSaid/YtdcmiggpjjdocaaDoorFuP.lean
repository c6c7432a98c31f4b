/- What fastjson's unescapeStringBestEffort meets in a string's inside: plain Lean. -/
import Derived.Test.YtdcmiggpjjdocaaDoorUnqV
import Derived.Test.YtdcmiggpjjdocaaDoorQ16
import Derived.Lib.IndexLaws
import Derived.Lib.RuneBytes
namespace Go.Proofs.YtdcmiggpjjdocaaDoor.L
open Go.RowKit
set_option linter.unusedVariables false
set_option linter.unusedSimpArgs false

theorem at92 (t : ByteArray) (k : Nat) : t.data.toList[k]? = some ((92 : Int).toNat.toUInt8) ↔ bt t (k : Nat) = 92 := by
  rw [← getD_bt, List.getD_eq_getElem?_getD]
  cases h : t.data.toList[k]? with
  | none => simp
  | some c =>
    simp only [Option.getD_some, Option.some.injEq]
    constructor
    · rintro rfl; rfl
    · intro e
      exact UInt8.toNat_inj.1 (by rw [show ((92 : Int).toNat.toUInt8).toNat = 92 from rfl]; omega)
/-- The first backslash. -/
theorem idx92 (t : ByteArray) : (Lib.indexByte t.data.toList ((92 : Int).toNat.toUInt8) = -1 ∧ ∀ k : Nat, bt t (k : Nat) ≠ 92) ∨
    ∃ n : Nat, Lib.indexByte t.data.toList ((92 : Int).toNat.toUInt8) = (n : Int) ∧ n < t.size ∧ bt t (n : Nat) = 92 ∧ ∀ k : Nat, k < n → bt t (k : Nat) ≠ 92 := by
  have h := Lib.indexByte_ge t.data.toList ((92 : Int).toNat.toUInt8)
  by_cases h1 : Lib.indexByte t.data.toList ((92 : Int).toNat.toUInt8) = -1
  · exact .inl ⟨h1, fun k e => Lib.indexByte_none h1 k ((at92 t k).2 e)⟩
  · obtain ⟨n, hn⟩ : ∃ n : Nat, Lib.indexByte t.data.toList ((92 : Int).toNat.toUInt8) = n := ⟨(Lib.indexByte t.data.toList ((92 : Int).toNat.toUInt8)).toNat, by omega⟩
    obtain ⟨a, b⟩ := Lib.indexByte_some hn
    have a' := (at92 t n).1 a
    have hlt : n < t.size := by
      rcases Nat.lt_or_ge n t.size with h | h
      · exact h
      · rw [bt_out t _ (by omega)] at a'; omega
    exact .inr ⟨n, hn, hlt, a', fun k hk e => b k hk ((at92 t k).2 e)⟩
/-- Four digits, cut out. -/
theorem hex_tie {t : ByteArray} {i : Nat} (h : hex4 t i = true) (hi : i + 4 ≤ t.size) : X64.hexAll (t.extract i (i + 4)) = true ∧ X64.hexN (t.extract i (i + 4)) 4 = hexQ t i := by
  have hz : (t.extract i (i + 4)).size = 4 := by rw [size_ext]; omega
  have hb : ∀ k : Nat, k < 4 → bt (t.extract i (i + 4)) (k : Nat) = bt t (i + k : Nat) := fun k hk => by rw [bt_ext _ _ _ _ (by omega) (by omega)]; all_goals (try (congr 1; try omega))
  have hx := hex4_all h
  have hv : ∀ c : Int, isHex c = true → X64.hexV c = hexV c := by
    intro c hc
    simp only [isHex, isDigit, Bool.or_eq_true, Bool.and_eq_true, decide_eq_true_eq] at hc
    unfold X64.hexV hexV
    repeat' split
    all_goals omega
  have b0 := hb 0 (by omega)
  have b1 := hb 1 (by omega)
  have b2 := hb 2 (by omega)
  have b3 := hb 3 (by omega)
  refine ⟨X64.hexAll_of fun j hj => by rw [hb j hj]; exact hx j hj, ?_⟩
  show (((0 * 16 + X64.hexV (bt _ ((0 : Nat) : Int))) * 16 + X64.hexV (bt _ ((1 : Nat) : Int))) * 16 + X64.hexV (bt _ ((2 : Nat) : Int))) * 16 + X64.hexV (bt _ ((3 : Nat) : Int)) = _
  rw [b0, b1, b2, b3, hv _ (hx 0 (by omega)), hv _ (hx 1 (by omega)), hv _ (hx 2 (by omega)), hv _ (hx 3 (by omega))]
  unfold hexQ
  rw [Nat.add_zero]
  omega
/-- A rune's bytes, as the language writes them. -/
theorem enc_utf {r : Int} (h0 : 0 ≤ r) (h1 : r ≤ 1114111) (hs : highI r = false) (hl : lowI r = false) : Utf8.encode r = strOfNums (utfB r) := by
  have hv : Utf8.valid r = true := by
    unfold highI at hs
    unfold lowI at hl
    simp only [Bool.and_eq_false_iff, decide_eq_false_iff_not] at hs hl
    unfold Utf8.valid
    simp only [Bool.or_eq_true, Bool.and_eq_true, decide_eq_true_eq]
    omega
  obtain ⟨n, rfl⟩ : ∃ n : Nat, r = (n : Int) := ⟨r.toNat, by omega⟩
  unfold Utf8.encode utfB
  simp only [hv, if_true, Int.toNat_natCast, hs, hl, Bool.or_self, Bool.false_eq_true, if_false]
  by_cases c1 : n < 128
  · rw [if_pos c1, if_pos (show (n : Int) < 128 by omega)]
    rfl
  rw [if_neg c1, if_neg (show ¬ (n : Int) < 128 by omega)]
  by_cases c2 : n < 2048
  · rw [if_pos c2, if_pos (show (n : Int) < 2048 by omega)]
    rfl
  rw [if_neg c2, if_neg (show ¬ (n : Int) < 2048 by omega)]
  by_cases c3 : n < 65536
  · rw [if_pos c3, if_pos (show (n : Int) < 65536 by omega)]
    rfl
  · rw [if_neg c3, if_neg (show ¬ (n : Int) < 65536 by omega)]
    rfl
/-- From i on no half of a pair. -/
inductive PairOk (s : ByteArray) : Nat → Prop
  | done {i : Nat} (h : s.size ≤ i) : PairOk s i
  | plain {i : Nat} (hc : bt s (i : Nat) ≠ 92) (hn : PairOk s (i + 1)) : PairOk s i
  | short {i : Nat} (hc : bt s (i : Nat) = 92) (hu : unitB s i = none) (hn : PairOk s (i + 2)) : PairOk s i
  | one {i : Nat} {n : Int} (hu : unitB s i = some n) (h1 : highI n = false) (h2 : lowI n = false) (hn : PairOk s (i + 6)) : PairOk s i
  | pair {i : Nat} {n m : Int} (hu : unitB s i = some n) (hm : unitB s (i + 6) = some m) (h1 : highI n = true) (h2 : lowI m = true) (hn : PairOk s (i + 12)) : PairOk s i
theorem PairOk.next {s : ByteArray} {i : Nat} (h : PairOk s i) (hi : i < s.size) (hc : bt s (i : Nat) ≠ 92) : PairOk s (i + 1) := by
  cases h with
  | done h => omega
  | plain _ hn => exact hn
  | short h => exact absurd h hc
  | one hu => exact absurd (unit_bs hu) hc
  | pair hu => exact absurd (unit_bs hu) hc
theorem PairOk.two {s : ByteArray} {i : Nat} (h : PairOk s i) (hi : i < s.size) (hc : bt s (i : Nat) = 92) (hu : unitB s i = none) : PairOk s (i + 2) := by
  cases h with
  | done h => omega
  | plain h => exact absurd hc h
  | short _ _ hn => exact hn
  | one h => rw [hu] at h; cases h
  | pair h => rw [hu] at h; cases h
theorem PairOk.unit {s : ByteArray} {i : Nat} {n : Int} (h : PairOk s i) (hu : unitB s i = some n) :
    (highI n = false ∧ lowI n = false ∧ PairOk s (i + 6)) ∨ (highI n = true ∧ ∃ m, unitB s (i + 6) = some m ∧ lowI m = true ∧ PairOk s (i + 12)) := by
  have hs := unit_some hu
  cases h with
  | done h => omega
  | plain h => exact absurd hs.1 h
  | short _ h => rw [hu] at h; cases h
  | one h h1 h2 hn => rw [hu] at h; injection h with h; subst h; exact .inl ⟨h1, h2, hn⟩
  | pair h hm h1 h2 hn => rw [hu] at h; injection h with h; subst h; exact .inr ⟨h1, _, hm, h2, hn⟩
theorem EscOk.run {s : ByteArray} : ∀ {d i j : Nat}, j - i = d → i ≤ j → j ≤ s.size → (∀ k : Nat, i ≤ k → k < j → bt s (k : Nat) ≠ 92) → EscOk s i → EscOk s j
  | 0, i, j, hd, h1, h2, h, ho => by
    obtain rfl : i = j := by omega
    exact ho
  | d + 1, i, j, hd, h1, h2, h, ho => EscOk.run (d := d) (i := i + 1) (by omega) (by omega) h2 (fun k a b => h k (by omega) b) (ho.one (by omega) (h i (by omega) (by omega)))
theorem PairOk.run {s : ByteArray} : ∀ {d i j : Nat}, j - i = d → i ≤ j → j ≤ s.size → (∀ k : Nat, i ≤ k → k < j → bt s (k : Nat) ≠ 92) → PairOk s i → PairOk s j
  | 0, i, j, hd, h1, h2, h, ho => by
    obtain rfl : i = j := by omega
    exact ho
  | d + 1, i, j, hd, h1, h2, h, ho => PairOk.run (d := d) (i := i + 1) (by omega) (by omega) h2 (fun k a b => h k (by omega) b) (ho.next (by omega) (h i (by omega) (by omega)))
end Go.Proofs.YtdcmiggpjjdocaaDoor.L
