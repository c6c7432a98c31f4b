/- What jsonparser's reading of one value computes, in plain Lean, and what it finds in a JSON text, whole or cut off: no program in sight. -/
import Derived.Test.YtkdkdhcjpgmjdaaGreatDoorJpPure
namespace Go.Proofs.YtkdkdhcjpgmjdaaGreatDoor.Jp
open L
set_option linter.unusedVariables false
set_option linter.unusedSimpArgs false
set_option linter.unusedSectionVars false

/-! ### the next token, a token's end -/
def blankB (c : UInt8) : Bool := isBlank (c.toNat : Int)
/-- How many blanks there are, if something stands behind them. -/
def nxt (l : Tx) : Option Nat := if (l.takeWhile blankB).length < l.length then some (l.takeWhile blankB).length else none
def dlm (c : UInt8) : Bool := c == 32 || c == 10 || c == 13 || c == 9 || c == 44 || c == 125 || c == 93
/-- How many bytes there are up to a blank, a comma or a closing bracket. -/
def tok (l : Tx) : Nat := (l.takeWhile fun c => !dlm c).length
theorem skip_tw (s : ByteArray) : ∀ {d i : Nat}, s.size - i ≤ d → L.skip isBlank s i = i + (((tx s).drop i).takeWhile blankB).length
  | d, i, hd => by
    by_cases hlt : i < s.size
    · obtain ⟨c, h1, h2, h3⟩ := tx_at s i hlt
      rw [h1]
      by_cases hb : isBlank (bt s i) = true
      · rw [skip_yes hlt hb, List.takeWhile_cons_of_pos (by unfold blankB; rw [h2]; exact hb), List.length_cons]
        rcases d with _ | d
        · omega
        · rw [skip_tw (d := d) s (by omega)]
          omega
      · rw [skip_no (fun h => hb h.2), List.takeWhile_cons_of_neg (by unfold blankB; rw [h2]; exact hb)]
        rfl
    · rw [skip_no (fun h => hlt h.1), List.drop_eq_nil_of_le (by rw [tx_len]; omega)]
      rfl
theorem nxt_some {s : ByteArray} {i : Nat} (h : L.skip isBlank s i < s.size) : nxt ((tx s).drop i) = some (L.skip isBlank s i - i) := by
  have h1 := skip_tw s (i := i) (Nat.le_refl _)
  unfold nxt
  rw [if_pos (by rw [List.length_drop, tx_len]; omega)]
  congr 1
  omega
theorem nxt_none {s : ByteArray} {i : Nat} (h : ¬ L.skip isBlank s i < s.size) : nxt ((tx s).drop i) = none := by
  have h1 := skip_tw s (i := i) (Nat.le_refl _)
  unfold nxt
  rw [if_neg]
  intro h2
  rw [List.length_drop, tx_len] at h2
  omega
theorem tw_app {p : UInt8 → Bool} : ∀ {a r : Tx}, (∀ c ∈ a, p c = true) → (r = [] ∨ ∃ c t, r = c :: t ∧ p c = false) → (a ++ r).takeWhile p = a
  | [], r, _, h => by
    rcases h with rfl | ⟨c, t, rfl, hc⟩
    · rfl
    · rw [List.nil_append, List.takeWhile_cons_of_neg (by simp [hc])]
  | c :: a, r, h1, h2 => by
    rw [List.cons_append, List.takeWhile_cons_of_pos (h1 c (by simp)), tw_app (fun d hd => h1 d (by simp [hd])) h2]
/-- A token's end: nothing, or a byte that ends it. -/
def Fol (r : Tx) : Prop := r = [] ∨ ∃ c t, r = c :: t ∧ dlm c = true
theorem tok_app {a r : Tx} (h : ∀ c ∈ a, dlm c = false) (hr : Fol r) : tok (a ++ r) = a.length := by
  unfold tok
  rw [tw_app (fun c hc => by rw [h c hc]; rfl)]
  rcases hr with h | ⟨c, t, h, hc⟩
  · exact .inl h
  · exact .inr ⟨c, t, h, by rw [hc]; rfl⟩

/-! ### one value -/
def wT : Tx := [116, 114, 117, 101]
def wF : Tx := [102, 97, 108, 115, 101]
def wN : Tx := [110, 117, 108, 108]
inductive Gt where
  | ok (dt n : Nat)
  | no (dt err : Nat)
def digB (c : UInt8) : Bool := decide (48 ≤ c.toNat) && decide (c.toNat ≤ 57)
/-- The value that begins a text: its kind and its length, or an error's number (and the kind that is told with it). -/
def gty (sq : Bool) (l : Tx) : Gt :=
  match l with
  | [] => .no 0 0
  | x :: t =>
    if x = 34 ∨ (x = 39 ∧ sq = true) then (match cls x t with | some n => .ok 1 (n + 1) | none => .no 1 4)
    else if x = 91 then (match blk sq 91 93 0 (x :: t) with | some n => .ok 4 n | none => .no 4 5)
    else if x = 123 then (match blk sq 123 125 0 (x :: t) with | some n => .ok 3 n | none => .no 3 6)
    else if x = 116 ∨ x = 102 then (if (x :: t).take (tok (x :: t)) = wT ∨ (x :: t).take (tok (x :: t)) = wF then .ok 5 (tok (x :: t)) else .no 7 2)
    else if x = 117 ∨ x = 110 then (if (x :: t).take (tok (x :: t)) = wN then .ok 6 (tok (x :: t)) else .no 7 2)
    else if digB x = true ∨ x = 45 then .ok 2 (tok (x :: t))
    else .no 7 2
section
variable {sq : Bool} {x : UInt8} {t : Tx}
theorem gty_str {n : Nat} (h : x = 34 ∨ (x = 39 ∧ sq = true)) (hn : cls x t = some n) : gty sq (x :: t) = .ok 1 (n + 1) := by
  unfold gty; dsimp only; rw [if_pos h, hn]
theorem gty_strno (h : x = 34 ∨ (x = 39 ∧ sq = true)) (hn : cls x t = none) : gty sq (x :: t) = .no 1 4 := by
  unfold gty; dsimp only; rw [if_pos h, hn]
theorem gty_arr {n : Nat} (h : x = 91) (hn : blk sq 91 93 0 (x :: t) = some n) : gty sq (x :: t) = .ok 4 n := by
  unfold gty; dsimp only; rw [if_neg (by rw [h]; rintro (e | ⟨e, _⟩) <;> exact absurd e (by decide)), if_pos h, hn]
theorem gty_arrno (h : x = 91) (hn : blk sq 91 93 0 (x :: t) = none) : gty sq (x :: t) = .no 4 5 := by
  unfold gty; dsimp only; rw [if_neg (by rw [h]; rintro (e | ⟨e, _⟩) <;> exact absurd e (by decide)), if_pos h, hn]
theorem gty_obj {n : Nat} (h : x = 123) (hn : blk sq 123 125 0 (x :: t) = some n) : gty sq (x :: t) = .ok 3 n := by
  unfold gty; dsimp only; rw [if_neg (by rw [h]; rintro (e | ⟨e, _⟩) <;> exact absurd e (by decide)), if_neg (by rw [h]; decide), if_pos h, hn]
theorem gty_objno (h : x = 123) (hn : blk sq 123 125 0 (x :: t) = none) : gty sq (x :: t) = .no 3 6 := by
  unfold gty; dsimp only; rw [if_neg (by rw [h]; rintro (e | ⟨e, _⟩) <;> exact absurd e (by decide)), if_neg (by rw [h]; decide), if_pos h, hn]
theorem gty_tf (h : x = 116 ∨ x = 102) (hw : (x :: t).take (tok (x :: t)) = wT ∨ (x :: t).take (tok (x :: t)) = wF) : gty sq (x :: t) = .ok 5 (tok (x :: t)) := by
  have h1 : ¬ (x = 34 ∨ (x = 39 ∧ sq = true)) := by rcases h with rfl | rfl <;> (rintro (e | ⟨e, _⟩) <;> exact absurd e (by decide))
  unfold gty; dsimp only; rw [if_neg h1, if_neg (by rcases h with rfl | rfl <;> decide), if_neg (by rcases h with rfl | rfl <;> decide), if_pos h, if_pos hw]
theorem gty_tfno (h : x = 116 ∨ x = 102) (hw : ¬ ((x :: t).take (tok (x :: t)) = wT ∨ (x :: t).take (tok (x :: t)) = wF)) : gty sq (x :: t) = .no 7 2 := by
  have h1 : ¬ (x = 34 ∨ (x = 39 ∧ sq = true)) := by rcases h with rfl | rfl <;> (rintro (e | ⟨e, _⟩) <;> exact absurd e (by decide))
  unfold gty; dsimp only; rw [if_neg h1, if_neg (by rcases h with rfl | rfl <;> decide), if_neg (by rcases h with rfl | rfl <;> decide), if_pos h, if_neg hw]
theorem gty_n (h : x = 117 ∨ x = 110) (hw : (x :: t).take (tok (x :: t)) = wN) : gty sq (x :: t) = .ok 6 (tok (x :: t)) := by
  have h1 : ¬ (x = 34 ∨ (x = 39 ∧ sq = true)) := by rcases h with rfl | rfl <;> (rintro (e | ⟨e, _⟩) <;> exact absurd e (by decide))
  unfold gty; dsimp only; rw [if_neg h1, if_neg (by rcases h with rfl | rfl <;> decide), if_neg (by rcases h with rfl | rfl <;> decide), if_neg (by rcases h with rfl | rfl <;> decide), if_pos h, if_pos hw]
theorem gty_nno (h : x = 117 ∨ x = 110) (hw : ¬ (x :: t).take (tok (x :: t)) = wN) : gty sq (x :: t) = .no 7 2 := by
  have h1 : ¬ (x = 34 ∨ (x = 39 ∧ sq = true)) := by rcases h with rfl | rfl <;> (rintro (e | ⟨e, _⟩) <;> exact absurd e (by decide))
  unfold gty; dsimp only; rw [if_neg h1, if_neg (by rcases h with rfl | rfl <;> decide), if_neg (by rcases h with rfl | rfl <;> decide), if_neg (by rcases h with rfl | rfl <;> decide), if_pos h, if_neg hw]
theorem dig_ne (h : digB x = true ∨ x = 45) : ¬ (x = 34 ∨ (x = 39 ∧ sq = true)) ∧ ¬ x = 91 ∧ ¬ x = 123 ∧ ¬ (x = 116 ∨ x = 102) ∧ ¬ (x = 117 ∨ x = 110) := by
  have hx : 44 < x.toNat ∧ x.toNat < 58 := by
    rcases h with h | rfl
    · unfold digB at h; simp only [Bool.and_eq_true, decide_eq_true_eq] at h; omega
    · decide
  refine ⟨?_, ?_, ?_, ?_, ?_⟩
  · rintro (rfl | ⟨rfl, _⟩) <;> exact absurd hx.1 (by decide)
  · rintro rfl; exact absurd hx.2 (by decide)
  · rintro rfl; exact absurd hx.2 (by decide)
  · rintro (rfl | rfl) <;> exact absurd hx.2 (by decide)
  · rintro (rfl | rfl) <;> exact absurd hx.2 (by decide)
theorem gty_num (h : digB x = true ∨ x = 45) : gty sq (x :: t) = .ok 2 (tok (x :: t)) := by
  obtain ⟨h1, h2, h3, h4, h5⟩ := dig_ne (sq := sq) h
  unfold gty; dsimp only; rw [if_neg h1, if_neg h2, if_neg h3, if_neg h4, if_neg h5, if_pos h]
theorem gty_bad (h1 : ¬ (x = 34 ∨ (x = 39 ∧ sq = true))) (h2 : ¬ x = 91) (h3 : ¬ x = 123) (h4 : ¬ (x = 116 ∨ x = 102)) (h5 : ¬ (x = 117 ∨ x = 110)) (h6 : ¬ (digB x = true ∨ x = 45)) : gty sq (x :: t) = .no 7 2 := by
  unfold gty; dsimp only; rw [if_neg h1, if_neg h2, if_neg h3, if_neg h4, if_neg h5, if_neg h6]
end

/-! ### tokens of a JSON text -/
def tkn (x : Int) : Bool := !(decide (x = 32) || decide (x = 10) || decide (x = 13) || decide (x = 9) || decide (x = 44) || decide (x = 125) || decide (x = 93))
theorem dlm_tkn {c : UInt8} {x : Int} (h : (c.toNat : Int) = x) (ht : tkn x = true) : dlm c = false := by
  unfold tkn at ht
  simp only [Bool.not_eq_true', Bool.or_eq_false_iff, decide_eq_false_iff_not] at ht
  obtain ⟨⟨⟨⟨⟨⟨h1, h2⟩, h3⟩, h4⟩, h5⟩, h6⟩, h7⟩ := ht
  unfold dlm
  simp only [Bool.or_eq_false_iff, beq_eq_false_iff_ne]
  exact ⟨⟨⟨⟨⟨⟨fun e => h1 ((u8 h 32).1 e), fun e => h2 ((u8 h 10).1 e)⟩, fun e => h3 ((u8 h 13).1 e)⟩, fun e => h4 ((u8 h 9).1 e)⟩, fun e => h5 ((u8 h 44).1 e)⟩, fun e => h6 ((u8 h 125).1 e)⟩, fun e => h7 ((u8 h 93).1 e)⟩
def Tks (s : ByteArray) (i j : Nat) : Prop := ∀ k : Nat, i ≤ k → k < j → tkn (bt s k) = true
theorem tks_app {s : ByteArray} {i j k : Nat} (h1 : Tks s i j) (h2 : Tks s j k) : Tks s i k := fun m a b => by
  by_cases h : m < j
  · exact h1 m a h
  · exact h2 m (by omega) b
theorem tks_nil {s : ByteArray} {i j : Nat} (h : j ≤ i) : Tks s i j := fun m a b => by omega
theorem tks_one {s : ByteArray} {i : Nat} {x : Int} (hx : bt s i = x) (h : tkn x = true) : Tks s i (i + 1) := fun m a b => by
  obtain rfl : m = i := by omega
  rw [hx]; exact h
theorem tkn_digit (x : Int) (h : isDigit x = true) : tkn x = true := by
  simp only [isDigit, Bool.and_eq_true, decide_eq_true_eq] at h
  simp only [tkn, Bool.not_eq_true', Bool.or_eq_false_iff, decide_eq_false_iff_not]
  omega
theorem tks_digits {s : ByteArray} {i j : Nat} (h : digitsAt s i = some j) : Tks s i j := by
  unfold digitsAt at h
  split at h
  · injection h with h
    rw [← h]
    exact fun k h1 h2 => tkn_digit _ (skip_run (Nat.le_refl _) k h1 h2)
  · cases h
theorem tks_num {s : ByteArray} {i j : Nat} (h : numAt s i = some j) : Tks s i j := by
  unfold numAt at h
  simp only [Option.bind_eq_some_iff] at h
  obtain ⟨a, h1, b, h2, h3⟩ := h
  have p0 : Tks s i (if bt s i = 45 then i + 1 else i) := by
    split
    · rename_i h; exact tks_one h (by decide)
    · exact tks_nil (Nat.le_refl _)
  have p1 : Tks s (if bt s i = 45 then i + 1 else i) a := by
    generalize (if bt s i = 45 then i + 1 else i) = m at h1
    unfold numInt at h1
    split at h1
    · rename_i h
      injection h1 with h1
      rw [← h1]
      exact tks_one h (by decide)
    · exact tks_digits h1
  have p2 : Tks s a b := by
    unfold numFrac at h2
    split at h2
    · rename_i h
      exact tks_app (tks_one h (by decide)) (tks_digits h2)
    · injection h2 with h2
      exact tks_nil (by omega)
  have p3 : Tks s b j := by
    unfold numExp at h3
    split at h3
    · rename_i h
      refine tks_app (j := b + 1) ?_ (tks_app (j := numSign s (b + 1)) ?_ (tks_digits h3))
      · rcases h with h | h <;> exact tks_one h (by decide)
      · unfold numSign
        split
        · rename_i h
          rcases h with h | h <;> exact tks_one h (by decide)
        · exact tks_nil (Nat.le_refl _)
    · injection h3 with h3
      exact tks_nil (by omega)
  exact tks_app (tks_app (tks_app p0 p1) p2) p3
theorem seg_dlm {s : ByteArray} : ∀ {d i j : Nat}, j - i ≤ d → j ≤ s.size → Tks s i j → ∀ c ∈ seg s i j, dlm c = false
  | 0, i, j, hd, hj, h => by
    have : seg s i j = [] := List.eq_nil_of_length_eq_zero (by rw [seg_len hj]; omega)
    rw [this]
    intro c hc
    cases hc
  | d + 1, i, j, hd, hj, h => by
    by_cases hlt : i < j
    · obtain ⟨c, hc, hcx⟩ := seg_cons hlt hj
      rw [hc]
      intro y hy
      rcases List.mem_cons.1 hy with rfl | hy
      · exact dlm_tkn hcx (h i (Nat.le_refl _) hlt)
      · exact seg_dlm (d := d) (by omega) hj (fun k h1 h2 => h k (by omega) h2) y hy
    · have : seg s i j = [] := List.eq_nil_of_length_eq_zero (by rw [seg_len hj]; omega)
      rw [this]
      intro c hc
      cases hc
theorem seg_tx (s : ByteArray) (i j : Nat) : seg s i j = tx (s.extract i j) := (tx_cut s i j).symm
theorem word_seg {s t : ByteArray} {i : Nat} (h : wordAt s i t = true) : seg s i (i + t.size) = tx t := by
  unfold wordAt at h
  simp only [Bool.and_eq_true, decide_eq_true_eq] at h
  rw [seg_tx, h.2]
/-- What is known of a word or a number. -/
theorem vtk {s : ByteArray} {n i j : Nat} {p : Pl} (h : valN s n i = some (j, p)) (hk : p.kind ≤ 3) :
    (p.kind = 0 ∧ seg s i j = wN) ∨ (p.kind = 1 ∧ seg s i j = wF) ∨ (p.kind = 2 ∧ seg s i j = wT) ∨ (p.kind = 3 ∧ Tks s i j ∧ (bt s i = 45 ∨ (48 ≤ bt s i ∧ bt s i ≤ 57))) := by
  rcases n with _ | n
  · cases h
  unfold valN at h
  split at h
  · simp only [Option.map_eq_some_iff, Prod.mk.injEq] at h
    obtain ⟨⟨a, b⟩, h1, rfl, rfl⟩ := h
    exact absurd hk (by simp [Pl.kind])
  · split at h
    · simp only [Option.map_eq_some_iff, Prod.mk.injEq] at h
      obtain ⟨⟨a, b⟩, h1, rfl, rfl⟩ := h
      exact absurd hk (by simp [Pl.kind])
    · split at h
      · simp only [Option.map_eq_some_iff, Prod.mk.injEq] at h
        obtain ⟨a, h1, rfl, rfl⟩ := h
        exact absurd hk (by simp [Pl.kind])
      · split at h
        · rename_i hd
          simp only [Option.map_eq_some_iff, Prod.mk.injEq] at h
          obtain ⟨a, h1, rfl, rfl⟩ := h
          exact .inr (.inr (.inr ⟨rfl, tks_num h1, hd⟩))
        · split at h
          · rename_i hw
            simp only [Option.some.injEq, Prod.mk.injEq] at h
            obtain ⟨rfl, rfl⟩ := h
            exact .inl ⟨rfl, word_seg hw⟩
          · split at h
            · rename_i hw
              simp only [Option.some.injEq, Prod.mk.injEq] at h
              obtain ⟨rfl, rfl⟩ := h
              exact .inr (.inl ⟨rfl, word_seg hw⟩)
            · split at h
              · rename_i hw
                simp only [Option.some.injEq, Prod.mk.injEq] at h
                obtain ⟨rfl, rfl⟩ := h
                exact .inr (.inr (.inl ⟨rfl, word_seg hw⟩))
              · cases h
/-- jsonparser's number for a kind. -/
def jk : Nat → Nat
  | 0 => 6
  | 1 => 5
  | 2 => 5
  | 3 => 2
  | 4 => 1
  | 5 => 4
  | 6 => 3
  | _ => 6
theorem wN_dlm : ∀ c ∈ wN, dlm c = false := by decide
theorem wF_dlm : ∀ c ∈ wF, dlm c = false := by decide
theorem wT_dlm : ∀ c ∈ wT, dlm c = false := by decide
theorem tok_word {w r : Tx} (h : ∀ c ∈ w, dlm c = false) (hr : Fol r) : tok (w ++ r) = w.length ∧ (w ++ r).take (tok (w ++ r)) = w := by
  have := tok_app h hr
  exact ⟨this, by rw [this, List.take_left]⟩
/-- A value's text, with anything behind it (behind a word or a number: what ends it). -/
theorem gty_val {s : ByteArray} {n i j : Nat} {p : Pl} (sq : Bool) (hi : i ≤ s.size) (h : valN s n i = some (j, p)) (r : Tx) (hr : p.kind ≤ 3 → Fol r) : gty sq (seg s i j ++ r) = .ok (jk p.kind) (j - i) := by
  obtain ⟨h1, h2, -, -, -, hA, hO, hS, -, h6⟩ := vok n i j p hi h
  obtain ⟨c, hc, hx⟩ := seg_cons h1 h2
  have hl : (seg s i j).length = j - i := seg_len h2
  rcases (by omega : p.kind = 5 ∨ p.kind = 6 ∨ p.kind = 4 ∨ p.kind ≤ 3) with hk | hk | hk | hk
  · obtain ⟨hb, hB⟩ := hA hk
    have := hB sq r
    rw [hc, List.cons_append] at this ⊢
    rw [gty_arr ((u8 hx 91).2 hb) this, hk]
    rfl
  · obtain ⟨hb, hB⟩ := hO hk
    have := hB sq r
    rw [hc, List.cons_append] at this ⊢
    rw [gty_obj ((u8 hx 123).2 hb) this, hk]
    rfl
  · obtain ⟨hb, hlt, hC⟩ := hS hk
    have := hC r
    rw [seg_len h2] at this
    have hq := (u8 hx 34).2 hb
    rw [hc, List.cons_append, gty_str (.inl hq) (by rw [hq]; exact this), hk]
    show Gt.ok 1 (j - (i + 1) + 1) = Gt.ok 1 (j - i)
    congr 1
    omega
  · rcases vtk h hk with ⟨hk', hw⟩ | ⟨hk', hw⟩ | ⟨hk', hw⟩ | ⟨hk', ht, hd⟩
    · obtain ⟨t1, t2⟩ := tok_word wN_dlm (hr hk)
      rw [hw] at hl ⊢
      have e : wN ++ r = 110 :: ([117, 108, 108] ++ r) := rfl
      rw [e] at t1 t2 ⊢
      rw [gty_n (.inr rfl) t2, t1, hk', hl]
      rfl
    · obtain ⟨t1, t2⟩ := tok_word wF_dlm (hr hk)
      rw [hw] at hl ⊢
      have e : wF ++ r = 102 :: ([97, 108, 115, 101] ++ r) := rfl
      rw [e] at t1 t2 ⊢
      rw [gty_tf (.inr rfl) (.inr t2), t1, hk', hl]
      rfl
    · obtain ⟨t1, t2⟩ := tok_word wT_dlm (hr hk)
      rw [hw] at hl ⊢
      have e : wT ++ r = 116 :: ([114, 117, 101] ++ r) := rfl
      rw [e] at t1 t2 ⊢
      rw [gty_tf (.inl rfl) (.inl t2), t1, hk', hl]
      rfl
    · have ht2 := tok_app (seg_dlm (Nat.le_refl _) h2 ht) (hr hk)
      have hdg : digB c = true ∨ c = 45 := by
        rcases hd with hd | hd
        · exact .inr ((u8 hx 45).2 hd)
        · left
          unfold digB
          simp only [Bool.and_eq_true, decide_eq_true_eq]
          omega
      rw [hl] at ht2
      rw [hc, List.cons_append] at ht2 ⊢
      rw [gty_num hdg, ht2, hk']
      rfl

/-! ### cut off -/
theorem take_cons {c : UInt8} {t : Tx} {m : Nat} (h : 0 < m) : (c :: t).take m = c :: t.take (m - 1) := by
  obtain ⟨k, rfl⟩ : ∃ k, m = k + 1 := ⟨m - 1, by omega⟩
  rfl
theorem cls_short {q : UInt8} (hq : q ≠ 92) {a : Tx} {n m : Nat} (h : cls q a = some n) (hm : m < n) : cls q (a.take m) = none := by
  cases hc : cls q (a.take m) with
  | none => rfl
  | some k =>
    have h1 := cls_app hq (a.drop m) hc
    rw [List.take_append_drop, h] at h1
    injection h1 with h1
    have h2 := (cls_le hq hc).1
    rw [List.length_take] at h2
    omega
theorem blk_short {sq : Bool} {o c : UInt8} {lv : Int} {a : Tx} {n m : Nat} (h : blk sq o c lv a = some n) (hm : m < n) : blk sq o c lv (a.take m) = none := by
  cases hc : blk sq o c lv (a.take m) with
  | none => rfl
  | some k =>
    obtain ⟨h2, _, h1⟩ := blk_mono _ (a.drop m) (Nat.le_refl _) hc
    rw [List.take_append_drop, h] at h1
    injection h1 with h1
    rw [List.length_take] at h2
    omega
/-- What is told of a value that is cut off inside. -/
def cutGt (k m : Nat) : Gt := if k = 4 then .no 1 4 else if k = 5 then .no 4 5 else if k = 6 then .no 3 6 else if k = 3 then .ok 2 m else .no 7 2
theorem take_word {w : Tx} {m : Nat} (h : ∀ c ∈ w, dlm c = false) : (w.take m).take (tok (w.take m)) = w.take m ∧ tok (w.take m) = (w.take m).length := by
  have h2 := tok_app (a := w.take m) (r := []) (fun c hc => h c (List.mem_of_mem_take hc)) (.inl rfl)
  rw [List.append_nil] at h2
  exact ⟨by rw [h2, List.take_length], h2⟩
theorem gty_cut {s : ByteArray} {n i j m : Nat} {p : Pl} (sq : Bool) (hi : i ≤ s.size) (h : valN s n i = some (j, p)) (h0 : 0 < m) (hm : m < j - i) : gty sq ((seg s i j).take m) = cutGt p.kind m := by
  obtain ⟨h1, h2, -, -, -, hA, hO, hS, -, h6⟩ := vok n i j p hi h
  obtain ⟨c, hc, hx⟩ := seg_cons h1 h2
  have hl : (seg s i j).length = j - i := seg_len h2
  rcases (by omega : p.kind = 5 ∨ p.kind = 6 ∨ p.kind = 4 ∨ p.kind ≤ 3) with hk | hk | hk | hk
  · obtain ⟨hb, hB⟩ := hA hk
    have := hB sq []
    rw [List.append_nil] at this
    have := blk_short this hm
    rw [hc, take_cons h0] at this ⊢
    rw [gty_arrno ((u8 hx 91).2 hb) this, hk]
    rfl
  · obtain ⟨hb, hB⟩ := hO hk
    have := hB sq []
    rw [List.append_nil] at this
    have := blk_short this hm
    rw [hc, take_cons h0] at this ⊢
    rw [gty_objno ((u8 hx 123).2 hb) this, hk]
    rfl
  · obtain ⟨hb, hlt, hC⟩ := hS hk
    have := hC []
    rw [List.append_nil, seg_len h2] at this
    have := cls_short (by decide) this (show m - 1 < j - (i + 1) by omega)
    have hq := (u8 hx 34).2 hb
    rw [hc, take_cons h0, gty_strno (.inl hq) (by rw [hq]; exact this), hk]
    rfl
  · rcases vtk h hk with ⟨hk', hw⟩ | ⟨hk', hw⟩ | ⟨hk', hw⟩ | ⟨hk', ht, hd⟩
    · rw [hw] at hl ⊢
      obtain ⟨t1, t2⟩ := take_word (m := m) wN_dlm
      have e : wN.take m = 110 :: ([117, 108, 108] : Tx).take (m - 1) := take_cons h0
      rw [hk']
      rw [e] at t1 ⊢
      refine gty_nno (.inr rfl) ?_
      rw [t1, ← e]
      intro hh
      have := congrArg List.length hh
      rw [List.length_take, hl] at this
      omega
    · rw [hw] at hl ⊢
      obtain ⟨t1, t2⟩ := take_word (m := m) wF_dlm
      have e : wF.take m = 102 :: ([97, 108, 115, 101] : Tx).take (m - 1) := take_cons h0
      rw [hk']
      rw [e] at t1 ⊢
      refine gty_tfno (.inr rfl) ?_
      rw [t1]
      rintro (hh | hh)
      · exact absurd (List.cons.inj hh).1 (by decide)
      · rw [← e] at hh
        have := congrArg List.length hh
        rw [List.length_take, hl] at this
        omega
    · rw [hw] at hl ⊢
      obtain ⟨t1, t2⟩ := take_word (m := m) wT_dlm
      have e : wT.take m = 116 :: ([114, 117, 101] : Tx).take (m - 1) := take_cons h0
      rw [hk']
      rw [e] at t1 ⊢
      refine gty_tfno (.inl rfl) ?_
      rw [t1]
      rintro (hh | hh)
      · rw [← e] at hh
        have := congrArg List.length hh
        rw [List.length_take, hl] at this
        omega
      · exact absurd (List.cons.inj hh).1 (by decide)
    · obtain ⟨t1, t2⟩ := take_word (m := m) (seg_dlm (Nat.le_refl _) h2 ht)
      have hdg : digB c = true ∨ c = 45 := by
        rcases hd with hd | hd
        · exact .inr ((u8 hx 45).2 hd)
        · left
          unfold digB
          simp only [Bool.and_eq_true, decide_eq_true_eq]
          omega
      rw [List.length_take, hl, Nat.min_eq_left (by omega)] at t2
      rw [hk']
      rw [hc, take_cons h0] at t2 ⊢
      rw [gty_num hdg, t2]
      rfl
end Go.Proofs.YtkdkdhcjpgmjdaaGreatDoor.Jp
