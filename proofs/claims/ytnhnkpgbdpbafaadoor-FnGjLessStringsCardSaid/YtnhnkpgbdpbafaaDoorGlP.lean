/- Texts that spec.Quote makes: what stands where in them. -/
import Derived.Test.YtnhnkpgbdpbafaaDoorEsc
namespace Go.Proofs.YtnhnkpgbdpbafaaDoor.L
set_option linter.unusedVariables false
set_option linter.unusedSimpArgs false

theorem eb_ok' (c : Int) (hr : 0 ≤ c ∧ c ≤ 255) : ∀ x ∈ eb c, 0 ≤ x ∧ x ≤ 255 := by
  rcases short_or c with ⟨l, hl⟩ | hn
  · rw [eb_short hl]
    cases hl <;> simp
  · by_cases h : c < 32
    · rw [eb_low hn h]
      have : hexd (c % 16) = if c % 16 < 10 then 48 + c % 16 else 87 + c % 16 := rfl
      simp only [List.mem_cons, List.not_mem_nil, or_false]
      rintro x (rfl | rfl | rfl | rfl | rfl | rfl)
      all_goals first | omega | (rw [this]; split <;> omega)
    · rw [eb_plain hn h]
      simp; omega
theorem eb_ok (s : ByteArray) (k : Nat) : ∀ x ∈ eb (bt s k), 0 ≤ x ∧ x ≤ 255 := eb_ok' _ (bt_range s k)
theorem pos_zero (s : ByteArray) : (escP s 0).size = 1 := by simp [escP, strOfNums_size]
theorem pos_succ (s : ByteArray) (k : Nat) : (escP s (k + 1)).size = (escP s k).size + (eb (bt s k)).length := by
  simp only [escP, ByteArray.size_append, strOfNums_size]
theorem pos_ge (s : ByteArray) (k : Nat) : 1 + k ≤ (escP s k).size := by
  induction k with
  | zero => rw [pos_zero]; omega
  | succ k ih =>
    rw [pos_succ]
    have : 1 ≤ (eb (bt s k)).length := by
      unfold eb; repeat' split
      all_goals simp
    omega
/-- The text up to piece k is a text's beginning. -/
theorem esc_pre (s : ByteArray) : ∀ (d k : Nat), k + d = s.size → ∃ r, esc s = escP s k ++ r
  | 0, k, h => ⟨strOfNums [34], by rw [show k = s.size by omega]; rfl⟩
  | d + 1, k, h => by
    obtain ⟨r, hr⟩ := esc_pre s d (k + 1) (by omega)
    exact ⟨strOfNums (eb (bt s k)) ++ r, by rw [hr]; show (escP s k ++ strOfNums (eb (bt s k))) ++ r = _; rw [ByteArray.append_assoc]⟩
theorem esc_size (s : ByteArray) : (esc s).size = (escP s s.size).size + 1 := by
  unfold esc; rw [ByteArray.size_append, strOfNums_size]; rfl
theorem pos_lt {s : ByteArray} {k : Nat} (hk : k ≤ s.size) : (escP s k).size < (esc s).size := by
  have : ∀ d k, k + d = s.size → (escP s k).size + d ≤ (escP s s.size).size := by
    intro d
    induction d with
    | zero => intro k h; rw [show k = s.size by omega]; omega
    | succ d ih =>
      intro k h
      have h1 := ih (k + 1) (by omega)
      have h2 := pos_succ s k
      have : 1 ≤ (eb (bt s k)).length := by
        unfold eb; repeat' split
        all_goals simp
      omega
  have h1 := this (s.size - k) k (by omega)
  rw [esc_size]; omega
/-- Byte j of piece k. -/
theorem esc_at {s : ByteArray} {k j : Nat} (hk : k < s.size) (hj : j < (eb (bt s k)).length) : bt (esc s) (((escP s k).size + j : Nat) : Int) = (eb (bt s k))[j] := by
  obtain ⟨r, hr⟩ := esc_pre s (s.size - (k + 1)) (k + 1) (by omega)
  have hp := pos_succ s k
  rw [hr, bt_app_left _ _ _ (by omega) (by omega)]
  show bt (escP s k ++ strOfNums (eb (bt s k))) _ = _
  rw [bt_app_right _ _ _ (by omega), show (((escP s k).size + j : Nat) : Int) - ((escP s k).size : Int) = (j : Int) by omega]
  exact bt_nums _ j hj (eb_ok s k _ (List.getElem_mem hj))
theorem esc_end (s : ByteArray) : bt (esc s) ((escP s s.size).size : Nat) = 34 := by
  unfold esc
  rw [bt_app_right _ _ _ (by omega), show (((escP s s.size).size : Nat) : Int) - ((escP s s.size).size : Int) = ((0 : Nat) : Int) by omega]
  exact bt_nums [34] 0 (by decide) (by decide)
theorem esc_zero (s : ByteArray) : bt (esc s) 0 = 34 := by
  obtain ⟨r, hr⟩ := esc_pre s s.size 0 (by omega)
  rw [hr, bt_app_left _ _ _ (by omega) (by rw [pos_zero]; omega)]
  exact bt_nums [34] 0 (by decide) (by decide)
/-! ### backslashes ahead of a place -/
def tb (s : ByteArray) : Nat → Nat
  | 0 => 0
  | i + 1 => if bt s (i : Nat) = 92 then tb s i + 1 else 0
theorem tb_no {s : ByteArray} {i : Nat} (h : bt s (i : Nat) ≠ 92) : tb s (i + 1) = 0 := by unfold tb; rw [if_neg h]
theorem tb_yes {s : ByteArray} {i : Nat} (h : bt s (i : Nat) = 92) : tb s (i + 1) = tb s i + 1 := by conv => lhs; unfold tb
                                                                                                     rw [if_pos h]
theorem tb_le (s : ByteArray) : ∀ i, tb s i ≤ i
  | 0 => Nat.le_refl _
  | i + 1 => by
    unfold tb
    have := tb_le s i
    split <;> omega
theorem hexd_no (d : Int) (h0 : 0 ≤ d) (h1 : d < 16) : hexd d ≠ 92 ∧ hexd d ≠ 34 := by unfold hexd; split <;> omega
theorem tb_even (s : ByteArray) : ∀ k, k ≤ s.size → tb (esc s) (escP s k).size % 2 = 0
  | 0, _ => by
    rw [pos_zero, tb_no (i := 0) (by show bt (esc s) 0 ≠ 92; rw [esc_zero]; decide)]
  | k + 1, hk => by
    have ih := tb_even s k (by omega)
    have hp := pos_succ s k
    rcases short_or (bt s k) with ⟨l, hl⟩ | hn
    · have e := eb_short hl
      have h0 := esc_at (s := s) (k := k) (j := 0) (by omega) (by rw [e]; simp)
      have h1 := esc_at (s := s) (k := k) (j := 1) (by omega) (by rw [e]; simp)
      simp only [e, List.getElem_cons_zero, List.getElem_cons_succ, Nat.add_zero] at h0 h1
      rw [hp, e]
      show tb (esc s) ((escP s k).size + 1 + 1) % 2 = 0
      by_cases h92 : l = 92
      · rw [tb_yes (by rw [h1, h92]), tb_yes h0]; omega
      · rw [tb_no (by rw [h1]; exact h92)]
    · by_cases h32 : bt s k < 32
      · have e := eb_low hn h32
        have h5 := esc_at (s := s) (k := k) (j := 5) (by omega) (by rw [e]; simp)
        simp only [e, List.getElem_cons_zero, List.getElem_cons_succ] at h5
        rw [hp, e]
        show tb (esc s) ((escP s k).size + 5 + 1) % 2 = 0
        have hr := bt_range s k
        rw [tb_no (by rw [h5]; exact (hexd_no _ (by omega) (by omega)).1)]
      · have e := eb_plain hn h32
        have h0 := esc_at (s := s) (k := k) (j := 0) (by omega) (by rw [e]; simp)
        simp only [e, List.getElem_cons_zero, Nat.add_zero] at h0
        rw [hp, e]
        show tb (esc s) ((escP s k).size + 1) % 2 = 0
        rw [tb_no (by rw [h0]; exact hn.2.2.2.2.2.2)]
/-- A byte that is written as it is. -/
def Plain (c : Int) : Prop := NoShort c ∧ ¬ c < 32
theorem plain_size {s : ByteArray} : ∀ {k : Nat}, k ≤ s.size → (∀ j : Nat, j < k → Plain (bt s j)) → (escP s k).size = 1 + k
  | 0, _, _ => pos_zero s
  | k + 1, hk, h => by
    have h1 := plain_size (k := k) (by omega) fun j hj => h j (by omega)
    have h2 := h k (by omega)
    rw [pos_succ, eb_plain h2.1 h2.2, h1]
    rfl
theorem plain_all {s : ByteArray} (h : ∀ j : Nat, j < s.size → Plain (bt s j)) : (esc s).extract 1 (1 + s.size) = s := by
  have hz := plain_size (Nat.le_refl _) h
  have he := esc_size s
  refine eq_of_bt (by rw [size_ext]; omega) fun k hk => ?_
  have hk2 : k < s.size := by rw [size_ext] at hk; omega
  rw [bt_ext _ _ _ _ (by omega) (by omega)]
  have h1 := plain_size (k := k) (by omega) fun j hj => h j (by omega)
  have h2 := h k hk2
  have e := eb_plain h2.1 h2.2
  have h0 := esc_at (s := s) (k := k) (j := 0) hk2 (by rw [e]; simp)
  simp only [e, List.getElem_cons_zero, Nat.add_zero] at h0
  rw [← h0, h1]
  congr 1
/-- What stands between the quotation marks. -/
def ins (s : ByteArray) : ByteArray := (esc s).extract 1 ((esc s).size - 1)
theorem ins_size (s : ByteArray) : (ins s).size + 1 = (escP s s.size).size := by
  have := esc_size s
  have := pos_ge s s.size
  unfold ins
  rw [size_ext]; omega
theorem ins_bt {s : ByteArray} {i : Nat} (h : i < (ins s).size) : bt (ins s) (i : Nat) = bt (esc s) ((i + 1 : Nat) : Int) := by
  unfold ins at h ⊢
  rw [bt_ext _ _ _ _ (by omega) (by omega)]
  congr 1
  omega
theorem ins_at {s : ByteArray} {k j p : Nat} (hk : k < s.size) (hp : p + 1 = (escP s k).size) (hj : j < (eb (bt s k)).length) : p + j < (ins s).size ∧ bt (ins s) ((p + j : Nat) : Int) = (eb (bt s k))[j] := by
  have h1 := ins_size s
  have h2 := pos_succ s k
  have h3 := pos_lt (s := s) (k := k + 1) (by omega)
  have h4 := esc_size s
  have h5 : p + j < (ins s).size := by omega
  refine ⟨h5, ?_⟩
  rw [ins_bt h5, ← esc_at hk hj]
  congr 1
  omega
end Go.Proofs.YtnhnkpgbdpbafaaDoor.L
