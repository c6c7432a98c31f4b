/- What jsonparser's searches for a string's and a block's end compute, in plain Lean, and what they find in a JSON text: no program in sight. -/
import Derived.Test.YtkdkdhcjpgmjdaaGreatDoorJson
namespace Go.Proofs.YtkdkdhcjpgmjdaaGreatDoor.Jp
open L
set_option linter.unusedVariables false
set_option linter.unusedSimpArgs false
set_option linter.unusedSectionVars false

abbrev Tx := List UInt8
/-- A text's bytes. -/
def tx (s : ByteArray) : Tx := s.data.toList
theorem tx_len (s : ByteArray) : (tx s).length = s.size := by simp [tx]
theorem tx_inj {a b : ByteArray} (h : tx a = tx b) : a = b := ByteArray.ext (Array.ext' h)
theorem tx_cut (s : ByteArray) (i j : Nat) : tx (s.extract i j) = ((tx s).drop i).take (j - i) := by
  unfold tx
  rw [ByteArray.data_extract]
  simp only [Array.toList_extract, List.extract_eq_take_drop]
theorem tx_ext (s : ByteArray) (i : Nat) : tx (s.extract i s.size) = (tx s).drop i := by
  rw [tx_cut]
  exact List.take_of_length_le (by rw [List.length_drop, tx_len]; omega)
theorem tx_at (s : ByteArray) (i : Nat) (h : i < s.size) : ∃ c : UInt8, (tx s).drop i = c :: (tx s).drop (i + 1) ∧ (c.toNat : Int) = bt s i ∧ (tx s)[i]? = some c := by
  have hl : i < (tx s).length := by rw [tx_len]; exact h
  refine ⟨(tx s)[i], List.drop_eq_getElem_cons hl, ?_, List.getElem?_eq_getElem hl⟩
  rw [← getD_bt, List.getD_eq_getElem?_getD]
  unfold tx at hl ⊢
  rw [List.getElem?_eq_getElem hl]
  rfl
theorem u8 {c : UInt8} {x : Int} (h : (c.toNat : Int) = x) (k : UInt8) : c = k ↔ x = (k.toNat : Int) := by
  rw [← h, ← UInt8.toNat_inj]
  omega

/-- How many bytes there are to behind the first mark q that no backslash takes in. -/
def cls (q : UInt8) : Tx → Option Nat
  | [] => none
  | [c] => if c = 92 then none else if c = q then some 1 else none
  | c :: d :: t => if c = 92 then (cls q t).map (· + 2) else if c = q then some 1 else (cls q (d :: t)).map (· + 1)
theorem cls_bs (q d : UInt8) (t : Tx) : cls q (92 :: d :: t) = (cls q t).map (· + 2) := by rw [cls]; rfl
theorem cls_bs1 (q : UInt8) : cls q [92] = none := rfl
theorem cls_q {q : UInt8} (hq : q ≠ 92) (t : Tx) : cls q (q :: t) = some 1 := by
  cases t with
  | nil => rw [cls, if_neg hq, if_pos rfl]
  | cons d t => rw [cls, if_neg hq, if_pos rfl]
theorem cls_no {q c : UInt8} (h1 : c ≠ 92) (h2 : c ≠ q) (t : Tx) : cls q (c :: t) = (cls q t).map (· + 1) := by
  cases t with
  | nil => show (if c = 92 then none else if c = q then some 1 else none) = none; rw [if_neg h1, if_neg h2]
  | cons d t => rw [cls, if_neg h1, if_neg h2]
theorem cls_mono {q : UInt8} (hq : q ≠ 92) : ∀ (k : Nat) {l : Tx} {n : Nat} (r : Tx), l.length ≤ k → cls q l = some n → n ≤ l.length ∧ 0 < n ∧ cls q (l ++ r) = some n
  | 0, l, n, r, hk, h => by
    obtain rfl := List.eq_nil_of_length_eq_zero (Nat.le_zero.1 hk)
    cases h
  | k + 1, [], n, r, hk, h => by cases h
  | k + 1, c :: t, n, r, hk, h => by
    simp only [List.length_cons] at hk ⊢
    by_cases h1 : c = 92
    · subst h1
      cases t with
      | nil => cases h
      | cons d u =>
        rw [cls_bs] at h
        obtain ⟨m, hm, rfl⟩ := Option.map_eq_some_iff.1 h
        simp only [List.length_cons] at hk ⊢
        obtain ⟨h2, h3, h4⟩ := cls_mono hq k r (by omega) hm
        refine ⟨by omega, by omega, ?_⟩
        rw [List.cons_append, List.cons_append, cls_bs, h4]
        rfl
    · by_cases h2 : c = q
      · subst h2
        rw [cls_q hq] at h
        injection h with h
        subst h
        exact ⟨by omega, by omega, by rw [List.cons_append, cls_q hq]⟩
      · rw [cls_no h1 h2] at h
        obtain ⟨m, hm, rfl⟩ := Option.map_eq_some_iff.1 h
        obtain ⟨h3, h4, h5⟩ := cls_mono hq k r (by omega) hm
        refine ⟨by omega, by omega, ?_⟩
        rw [List.cons_append, cls_no h1 h2, h5]
        rfl
theorem cls_app {q : UInt8} (hq : q ≠ 92) {l : Tx} {n : Nat} (r : Tx) (h : cls q l = some n) : cls q (l ++ r) = some n := (cls_mono hq _ r (Nat.le_refl _) h).2.2
theorem cls_le {q : UInt8} (hq : q ≠ 92) {l : Tx} {n : Nat} (h : cls q l = some n) : n ≤ l.length ∧ 0 < n := ⟨(cls_mono hq _ [] (Nat.le_refl _) h).1, (cls_mono hq _ [] (Nat.le_refl _) h).2.1⟩

/-- How many backslashes a text ends with. -/
def bsl (l : Tx) : Nat := (l.reverse.takeWhile (· == 92)).length
theorem bsl_nil : bsl [] = 0 := rfl
theorem bsl_snoc (l : Tx) (c : UInt8) : bsl (l ++ [c]) = if c = 92 then bsl l + 1 else 0 := by
  unfold bsl
  rw [List.reverse_append, List.reverse_singleton, List.singleton_append, List.takeWhile_cons]
  by_cases h : c = 92
  · subst h; simp
  · simp [h]
theorem bsl_yes {l : Tx} {i : Nat} {c : UInt8} (h : l[i]? = some c) (hc : c = 92) : bsl (l.take (i + 1)) = bsl (l.take i) + 1 := by
  rw [List.take_add_one, h, Option.toList_some, bsl_snoc, if_pos hc]
theorem bsl_no {l : Tx} {i : Nat} {c : UInt8} (h : l[i]? = some c) (hc : ¬ c = 92) : bsl (l.take (i + 1)) = 0 := by
  rw [List.take_add_one, h, Option.toList_some, bsl_snoc, if_neg hc]
/-- The search behind n backslashes. -/
def clsP (q : UInt8) (n : Nat) (l : Tx) : Option Nat := if n % 2 = 1 then (match l with | [] => none | _ :: t => (cls q t).map (· + 1)) else cls q l
theorem map_add (x : Option Nat) (a b : Nat) : (x.map (· + a)).map (· + b) = x.map (· + (b + a)) := by
  cases x with
  | none => rfl
  | some n => simp only [Option.map_some]; congr 1; omega
theorem clsP_bs {q c : UInt8} {n : Nat} (t : Tx) (hc : c = 92) : clsP q n (c :: t) = (clsP q (n + 1) t).map (· + 1) := by
  subst hc
  unfold clsP
  by_cases h : n % 2 = 1
  · rw [if_pos h, if_neg (by omega)]
  · rw [if_neg h, if_pos (by omega)]
    cases t with
    | nil => rfl
    | cons d u => rw [cls_bs, map_add]
theorem clsP_odd {q c : UInt8} {n : Nat} (t : Tx) (hn : n % 2 = 1) : clsP q n (c :: t) = (clsP q 0 t).map (· + 1) := by
  unfold clsP
  rw [if_pos hn, if_neg (by omega)]
theorem clsP_no {q c : UInt8} {n : Nat} (t : Tx) (h1 : c ≠ 92) (h2 : c ≠ q) : clsP q n (c :: t) = (clsP q 0 t).map (· + 1) := by
  unfold clsP
  rw [if_neg (show ¬ (0 % 2 = 1) by omega)]
  split
  · rfl
  · exact cls_no h1 h2 t
theorem clsP_q {q : UInt8} {n : Nat} (t : Tx) (hq : q ≠ 92) (hn : ¬ n % 2 = 1) : clsP q n (q :: t) = some 1 := by
  unfold clsP
  rw [if_neg hn, cls_q hq]
/-- The search stands at i. -/
def At (q : UInt8) (l : Tx) (i : Nat) : Prop := cls q l = (clsP q (bsl (l.take i)) (l.drop i)).map (· + i)
theorem At.bs {q c : UInt8} {l : Tx} {i : Nat} (h : At q l i) (hd : l.drop i = c :: l.drop (i + 1)) (hi : l[i]? = some c) (hc : c = 92) : At q l (i + 1) := by
  unfold At at h ⊢
  rw [h, hd, clsP_bs _ hc, map_add, bsl_yes hi hc, Nat.add_comm i 1, Nat.add_comm 1 i]
theorem At.odd {q c : UInt8} {l : Tx} {i : Nat} (h : At q l i) (hd : l.drop i = c :: l.drop (i + 1)) (hi : l[i]? = some c) (hc : ¬ c = 92) (hn : bsl (l.take i) % 2 = 1) : At q l (i + 1) := by
  unfold At at h ⊢
  rw [h, hd, clsP_odd _ hn, map_add, bsl_no hi hc, Nat.add_comm i 1, Nat.add_comm 1 i]
theorem At.no {q c : UInt8} {l : Tx} {i : Nat} (h : At q l i) (hd : l.drop i = c :: l.drop (i + 1)) (hi : l[i]? = some c) (hc : ¬ c = 92) (hq : ¬ c = q) : At q l (i + 1) := by
  unfold At at h ⊢
  rw [h, hd, clsP_no _ hc hq, map_add, bsl_no hi hc, Nat.add_comm i 1, Nat.add_comm 1 i]
theorem At.found {q c : UInt8} {l : Tx} {i : Nat} (h : At q l i) (hd : l.drop i = c :: l.drop (i + 1)) (hq : q ≠ 92) (hc : c = q) (hn : ¬ bsl (l.take i) % 2 = 1) : cls q l = some (i + 1) := by
  unfold At at h
  subst hc
  rw [h, hd, clsP_q _ hq hn, Option.map_some, Nat.add_comm]
theorem At.out {q : UInt8} {l : Tx} {i : Nat} (h : At q l i) (hi : l.length ≤ i) : cls q l = none := by
  unfold At at h
  rw [h, List.drop_eq_nil_of_le hi]
  unfold clsP
  split <;> rfl
/-- No byte of the first i is one of the two. -/
def Free (q : UInt8) (l : Tx) (i : Nat) : Prop := ∀ k : Nat, k < i → l[k]? ≠ some q ∧ l[k]? ≠ some 92
theorem Free.zero (q : UInt8) (l : Tx) : Free q l 0 := fun k hk => absurd hk (by omega)
theorem Free.bsl {q : UInt8} {l : Tx} {i : Nat} (h : Free q l i) (hi : i ≤ l.length) : bsl (l.take i) = 0 := by
  cases i with
  | zero => rfl
  | succ k =>
    have hk : k < l.length := by omega
    have e := List.getElem?_eq_getElem hk
    refine bsl_no e fun hc => (h k (by omega)).2 (by rw [e, hc])
theorem Free.at_ {q : UInt8} {l : Tx} : ∀ {i : Nat}, i ≤ l.length → Free q l i → At q l i
  | 0, _, _ => by
    unfold At
    rw [List.take_zero, List.drop_zero]
    show cls q l = Option.map (· + 0) (clsP q 0 l)
    unfold clsP
    rw [if_neg (by omega)]
    cases cls q l <;> rfl
  | i + 1, hi, h => by
    have hk : i < l.length := by omega
    have e := List.getElem?_eq_getElem hk
    have h0 := h i (by omega)
    exact (Free.at_ (by omega) fun k hk => h k (by omega)).no (List.drop_eq_getElem_cons hk) e (fun hc => h0.2 (by rw [e, hc])) (fun hc => h0.1 (by rw [e, hc]))
/-- Whether a backslash stands in a text. -/
def esc (l : Tx) : Bool := l.any (· == 92)
theorem esc_take {l : Tx} {i : Nat} {c : UInt8} (h : l[i]? = some c) : esc (l.take (i + 1)) = (esc (l.take i) || c == 92) := by
  unfold esc
  rw [List.take_add_one, h, Option.toList_some, List.any_append]
  simp
theorem Free.esc {q : UInt8} {l : Tx} {i : Nat} (h : Free q l i) : esc (l.take i) = false := by
  unfold Jp.esc
  rw [List.any_eq_false]
  intro x hx hc
  obtain ⟨k, hk⟩ := List.mem_iff_getElem?.1 hx
  rw [List.getElem?_take] at hk
  split at hk
  · exact (h k (by assumption)).2 (by rw [hk, eq_of_beq hc])
  · cases hk
theorem esc_bsl {l : Tx} (h : esc l = false) : bsl l = 0 := by
  unfold bsl
  rw [List.length_eq_zero_iff]
  cases hr : l.reverse with
  | nil => rfl
  | cons a t =>
    rw [List.takeWhile_cons_of_neg]
    intro hc
    unfold esc at h
    rw [List.any_eq_false] at h
    exact h a (by rw [← List.mem_reverse, hr]; exact List.mem_cons_self) hc
/-- What the search for a string's end answers: where, and whether a backslash stands ahead of it. -/
def endI (q : UInt8) (l : Tx) : Int := match cls q l with
  | none => -1
  | some n => n
def endE (q : UInt8) (l : Tx) : Bool := match cls q l with
  | none => esc l
  | some n => esc (l.take (n - 1))
theorem end_some {q : UInt8} {l : Tx} {n : Nat} (h : cls q l = some n) : endI q l = n ∧ endE q l = esc (l.take (n - 1)) := by
  unfold endI endE; rw [h]; exact ⟨rfl, rfl⟩
theorem end_none {q : UInt8} {l : Tx} (h : cls q l = none) : endI q l = -1 ∧ endE q l = esc l := by
  unfold endI endE; rw [h]; exact ⟨rfl, rfl⟩

/-- How many bytes there are to behind the mark that closes a block; lv blocks are open. -/
def blk (sq : Bool) (o c : UInt8) (lv : Int) (l : Tx) : Option Nat :=
  match l with
  | [] => none
  | x :: t =>
    if x = 34 ∨ (x = 39 ∧ sq = true) then
      (match cls x t with
      | none => none
      | some n => (blk sq o c lv (t.drop n)).map (· + (n + 1)))
    else if x = o then (blk sq o c (lv + 1) t).map (· + 1)
    else if x = c then (if lv - 1 = 0 then some 1 else (blk sq o c (lv - 1) t).map (· + 1))
    else (blk sq o c lv t).map (· + 1)
termination_by l.length
decreasing_by all_goals (simp only [List.length_cons, List.length_drop]; omega)

section
variable {sq : Bool} {o c x : UInt8} {lv : Int} {t : Tx}
theorem blk_nil : blk sq o c lv [] = none := by rw [blk]
theorem blk_str (h : x = 34 ∨ (x = 39 ∧ sq = true)) {n : Nat} (hn : cls x t = some n) : blk sq o c lv (x :: t) = (blk sq o c lv (t.drop n)).map (· + (n + 1)) := by
  rw [blk, if_pos h, hn]
theorem blk_strno (h : x = 34 ∨ (x = 39 ∧ sq = true)) (hn : cls x t = none) : blk sq o c lv (x :: t) = none := by
  rw [blk, if_pos h, hn]
theorem blk_open (h : ¬ (x = 34 ∨ (x = 39 ∧ sq = true))) (ho : x = o) : blk sq o c lv (x :: t) = (blk sq o c (lv + 1) t).map (· + 1) := by
  rw [blk, if_neg h, if_pos ho]
theorem blk_end (h : ¬ (x = 34 ∨ (x = 39 ∧ sq = true))) (ho : ¬ x = o) (hc : x = c) (hl : lv - 1 = 0) : blk sq o c lv (x :: t) = some 1 := by
  rw [blk, if_neg h, if_neg ho, if_pos hc, if_pos hl]
theorem blk_close (h : ¬ (x = 34 ∨ (x = 39 ∧ sq = true))) (ho : ¬ x = o) (hc : x = c) (hl : ¬ lv - 1 = 0) : blk sq o c lv (x :: t) = (blk sq o c (lv - 1) t).map (· + 1) := by
  rw [blk, if_neg h, if_neg ho, if_pos hc, if_neg hl]
theorem blk_no (h : ¬ (x = 34 ∨ (x = 39 ∧ sq = true))) (ho : ¬ x = o) (hc : ¬ x = c) : blk sq o c lv (x :: t) = (blk sq o c lv t).map (· + 1) := by
  rw [blk, if_neg h, if_neg ho, if_neg hc]
end
theorem q_ne {x : UInt8} {sq : Bool} (h : x = 34 ∨ (x = 39 ∧ sq = true)) : x ≠ 92 := by rcases h with rfl | ⟨rfl, _⟩ <;> decide
theorem blk_mono {sq : Bool} {o c : UInt8} : ∀ (k : Nat) {lv : Int} {l : Tx} {n : Nat} (r : Tx), l.length ≤ k → blk sq o c lv l = some n → n ≤ l.length ∧ 0 < n ∧ blk sq o c lv (l ++ r) = some n
  | 0, lv, l, n, r, hk, h => by
    obtain rfl := List.eq_nil_of_length_eq_zero (Nat.le_zero.1 hk)
    rw [blk_nil] at h
    cases h
  | k + 1, lv, [], n, r, hk, h => by
    rw [blk_nil] at h
    cases h
  | k + 1, lv, x :: t, n, r, hk, h => by
    simp only [List.length_cons] at hk ⊢
    rw [List.cons_append]
    by_cases h1 : x = 34 ∨ (x = 39 ∧ sq = true)
    · cases hn : cls x t with
      | none =>
        rw [blk_strno h1 hn] at h
        cases h
      | some m =>
        rw [blk_str h1 hn] at h
        obtain ⟨a, ha, rfl⟩ := Option.map_eq_some_iff.1 h
        have hm := cls_le (q_ne h1) hn
        have hd : (t.drop m).length ≤ k := by rw [List.length_drop]; omega
        obtain ⟨h2, h3, h4⟩ := blk_mono k r hd ha
        rw [List.length_drop] at h2
        refine ⟨by omega, by omega, ?_⟩
        rw [blk_str h1 (cls_app (q_ne h1) r hn), List.drop_append_of_le_length hm.1, h4]
        rfl
    · by_cases h2 : x = o
      · rw [blk_open h1 h2] at h
        obtain ⟨a, ha, rfl⟩ := Option.map_eq_some_iff.1 h
        obtain ⟨h3, h4, h5⟩ := blk_mono k r (by omega) ha
        exact ⟨by omega, by omega, by rw [blk_open h1 h2, h5]; rfl⟩
      · by_cases h3 : x = c
        · by_cases h4 : lv - 1 = 0
          · rw [blk_end h1 h2 h3 h4] at h
            injection h with h
            subst h
            exact ⟨by omega, by omega, blk_end h1 h2 h3 h4⟩
          · rw [blk_close h1 h2 h3 h4] at h
            obtain ⟨a, ha, rfl⟩ := Option.map_eq_some_iff.1 h
            obtain ⟨h5, h6, h7⟩ := blk_mono k r (by omega) ha
            exact ⟨by omega, by omega, by rw [blk_close h1 h2 h3 h4, h7]; rfl⟩
        · rw [blk_no h1 h2 h3] at h
          obtain ⟨a, ha, rfl⟩ := Option.map_eq_some_iff.1 h
          obtain ⟨h5, h6, h7⟩ := blk_mono k r (by omega) ha
          exact ⟨by omega, by omega, by rw [blk_no h1 h2 h3, h7]; rfl⟩

/-! ### pieces of a text -/
def seg (s : ByteArray) (i j : Nat) : Tx := ((tx s).drop i).take (j - i)
theorem seg_len {s : ByteArray} {i j : Nat} (h : j ≤ s.size) : (seg s i j).length = j - i := by
  unfold seg
  rw [List.length_take, List.length_drop, tx_len]
  omega
theorem seg_app {s : ByteArray} {i j k : Nat} (h1 : i ≤ j) (h2 : j ≤ k) : seg s i k = seg s i j ++ seg s j k := by
  unfold seg
  rw [show k - i = (j - i) + (k - j) by omega, List.take_add, List.drop_drop, show i + (j - i) = j by omega]
theorem seg_self (s : ByteArray) (i : Nat) : seg s i i = [] := by unfold seg; rw [Nat.sub_self, List.take_zero]
theorem seg_one {s : ByteArray} {i : Nat} (h : i < s.size) : ∃ c : UInt8, seg s i (i + 1) = [c] ∧ (c.toNat : Int) = bt s i := by
  obtain ⟨c, h1, h2, _⟩ := tx_at s i h
  refine ⟨c, ?_, h2⟩
  unfold seg
  rw [h1, show i + 1 - i = 1 by omega]
  rfl
theorem seg_cons {s : ByteArray} {i j : Nat} (h : i < j) (hj : j ≤ s.size) : ∃ c : UInt8, seg s i j = c :: seg s (i + 1) j ∧ (c.toNat : Int) = bt s i := by
  obtain ⟨c, h1, h2⟩ := seg_one (s := s) (i := i) (by omega)
  exact ⟨c, by rw [seg_app (j := i + 1) (by omega) (by omega), h1]; rfl, h2⟩
theorem seg_all (s : ByteArray) (i : Nat) : seg s i s.size = (tx s).drop i := by
  unfold seg
  exact List.take_of_length_le (by rw [List.length_drop, tx_len]; exact Nat.le_refl _)
theorem seg_drop {s : ByteArray} {i j : Nat} (h1 : i ≤ j) (h2 : j ≤ s.size) : (tx s).drop i = seg s i j ++ (tx s).drop j := by
  rw [← seg_all, ← seg_all, seg_app h1 h2]

/-! ### the inside of a string -/
/-- A string's inside with its closing mark: the search ends behind it. -/
def Clo (a : Tx) : Prop := ∀ r, cls 34 (a ++ r) = some a.length
theorem clo_one {c : UInt8} (h : c = 34) : Clo [c] := fun r => by rw [h]; exact cls_q (by decide) r
theorem clo_cons {c : UInt8} {a : Tx} (h1 : c ≠ 92) (h2 : c ≠ 34) (h : Clo a) : Clo (c :: a) := fun r => by
  rw [List.cons_append, cls_no h1 h2, h r]
  rfl
theorem clo_esc {c d : UInt8} {a : Tx} (h1 : c = 92) (h : Clo a) : Clo (c :: d :: a) := fun r => by
  rw [h1, List.cons_append, List.cons_append, cls_bs, h r]
  rfl
theorem hex_no {c : UInt8} {x : Int} (h : (c.toNat : Int) = x) (hx : isHex x = true) : c ≠ 92 ∧ c ≠ 34 := by
  refine ⟨fun e => ?_, fun e => ?_⟩
  · rw [(u8 h 92).1 e] at hx; revert hx; decide
  · rw [(u8 h 34).1 e] at hx; revert hx; decide
theorem str_clo {s : ByteArray} : ∀ {k i j : Nat}, strN s k i = some j → Clo (seg s i j)
  | 0, _, _, h => by cases h
  | k + 1, i, j, h => by
    have hstep := strN_step h
    unfold strN at h
    split at h
    · rename_i hlt
      obtain ⟨c, hc, hcx⟩ := seg_cons hstep.1 hstep.2
      split at h
      · rename_i h34
        injection h with h
        subst h
        obtain ⟨c, hc, hcx⟩ := seg_one hlt
        rw [hc]
        exact clo_one ((u8 hcx 34).2 h34)
      · rename_i h34
        split at h
        · cases h
        · split at h
          · rename_i h92
            split at h
            · rename_i l hl
              have h2 := escAt_step hl
              have h3 := strN_step h
              have ih := str_clo h
              obtain ⟨d, hd, hdx⟩ := seg_cons (s := s) (i := i + 1) (j := j) (by omega) hstep.2
              rw [hc, hd]
              refine clo_esc ((u8 hcx 92).2 h92) ?_
              unfold escAt at hl
              split at hl
              · injection hl with hl
                rw [hl]
                exact ih
              · split at hl
                · split at hl
                  · rename_i hh
                    injection hl with hl
                    obtain ⟨c1, e1, x1⟩ := seg_cons (s := s) (i := i + 1 + 1) (j := j) (by omega) hstep.2
                    obtain ⟨c2, e2, x2⟩ := seg_cons (s := s) (i := i + 1 + 1 + 1) (j := j) (by omega) hstep.2
                    obtain ⟨c3, e3, x3⟩ := seg_cons (s := s) (i := i + 1 + 1 + 1 + 1) (j := j) (by omega) hstep.2
                    obtain ⟨c4, e4, x4⟩ := seg_cons (s := s) (i := i + 1 + 1 + 1 + 1 + 1) (j := j) (by omega) hstep.2
                    rw [e1, e2, e3, e4]
                    have n1 := hex_no x1 hh.1
                    have n2 := hex_no x2 hh.2.1
                    have n3 := hex_no x3 hh.2.2.1
                    have n4 := hex_no x4 hh.2.2.2
                    refine clo_cons n1.1 n1.2 (clo_cons n2.1 n2.2 (clo_cons n3.1 n3.2 (clo_cons n4.1 n4.2 ?_)))
                    rw [show i + 1 + 1 + 1 + 1 + 1 + 1 = l by omega]
                    exact ih
                  · cases hl
                · cases hl
            · cases h
          · rename_i h92
            rw [hc]
            exact clo_cons (fun e => h92 ((u8 hcx 92).1 e)) (fun e => h34 ((u8 hcx 34).1 e)) (str_clo h)
    · cases h

/-! ### pieces that a search for a block's end goes over -/
def Neu (o c : UInt8) (a : Tx) : Prop := ∀ sq lv r, 0 < lv → blk sq o c lv (a ++ r) = (blk sq o c lv r).map (· + a.length)
theorem neu_nil (o c : UInt8) : Neu o c [] := fun sq lv r h => by
  rw [List.nil_append]
  cases blk sq o c lv r <;> rfl
theorem neu_app {o c : UInt8} {a b : Tx} (ha : Neu o c a) (hb : Neu o c b) : Neu o c (a ++ b) := fun sq lv r h => by
  rw [List.append_assoc, ha sq lv _ h, hb sq lv _ h, map_add, List.length_append]
/-- Both kinds of blocks. -/
def Neu2 (a : Tx) : Prop := Neu 91 93 a ∧ Neu 123 125 a
theorem neu2_nil : Neu2 [] := ⟨neu_nil _ _, neu_nil _ _⟩
theorem neu2_app {a b : Tx} (ha : Neu2 a) (hb : Neu2 b) : Neu2 (a ++ b) := ⟨neu_app ha.1 hb.1, neu_app ha.2 hb.2⟩
theorem neu_one {o c x : UInt8} (h1 : x ≠ 34) (h2 : x ≠ 39) (h3 : x ≠ o) (h4 : x ≠ c) : Neu o c [x] := fun sq lv r h => by
  have hq : ¬ (x = 34 ∨ (x = 39 ∧ sq = true)) := by
    rintro (e | ⟨e, _⟩)
    · exact h1 e
    · exact h2 e
  rw [List.singleton_append, blk_no hq h3 h4]
  rfl
/-- A byte that stands for itself alone. -/
def pln (x : Int) : Bool := decide (x ≠ 34) && decide (x ≠ 39) && decide (x ≠ 91) && decide (x ≠ 93) && decide (x ≠ 123) && decide (x ≠ 125)
theorem neu2_one {x : UInt8} {y : Int} (hx : (x.toNat : Int) = y) (h : pln y = true) : Neu2 [x] := by
  simp only [pln, Bool.and_eq_true, decide_eq_true_eq] at h
  obtain ⟨⟨⟨⟨⟨h1, h2⟩, h3⟩, h4⟩, h5⟩, h6⟩ := h
  exact ⟨neu_one (fun e => h1 ((u8 hx 34).1 e)) (fun e => h2 ((u8 hx 39).1 e)) (fun e => h3 ((u8 hx 91).1 e)) (fun e => h4 ((u8 hx 93).1 e)),
    neu_one (fun e => h1 ((u8 hx 34).1 e)) (fun e => h2 ((u8 hx 39).1 e)) (fun e => h5 ((u8 hx 123).1 e)) (fun e => h6 ((u8 hx 125).1 e))⟩
/-- A piece of such bytes. -/
def Pls (s : ByteArray) (i j : Nat) : Prop := ∀ k : Nat, i ≤ k → k < j → pln (bt s k) = true
theorem neu2_pls {s : ByteArray} : ∀ {d i j : Nat}, j - i ≤ d → j ≤ s.size → Pls s i j → Neu2 (seg s i j)
  | 0, i, j, hd, hj, h => by
    have : seg s i j = [] := List.eq_nil_of_length_eq_zero (by rw [seg_len hj]; omega)
    rw [this]
    exact neu2_nil
  | d + 1, i, j, hd, hj, h => by
    by_cases hlt : i < j
    · obtain ⟨c, hc, hcx⟩ := seg_cons hlt hj
      rw [hc, ← List.singleton_append]
      exact neu2_app (neu2_one hcx (h i (Nat.le_refl _) hlt)) (neu2_pls (d := d) (by omega) hj fun k h1 h2 => h k (by omega) h2)
    · have : seg s i j = [] := List.eq_nil_of_length_eq_zero (by rw [seg_len hj]; omega)
      rw [this]
      exact neu2_nil
theorem neu_str {o c x : UInt8} {a : Tx} (hx : x = 34) (h : Clo a) : Neu o c (x :: a) := fun sq lv r hl => by
  subst hx
  rw [List.cons_append, blk_str (.inl rfl) (h r), List.drop_left]
  rfl
theorem neu2_str {x : UInt8} {a : Tx} (hx : x = 34) (h : Clo a) : Neu2 (x :: a) := ⟨neu_str hx h, neu_str hx h⟩

/-! ### runs of bytes -/
theorem skip_run {p : Int → Bool} {s : ByteArray} : ∀ {d i : Nat}, s.size - i ≤ d → ∀ k : Nat, i ≤ k → k < L.skip p s i → p (bt s k) = true
  | 0, i, hd, k, h1, h2 => by
    rw [skip_no (by omega)] at h2
    omega
  | d + 1, i, hd, k, h1, h2 => by
    by_cases hc : i < s.size ∧ p (bt s i) = true
    · rw [skip_yes hc.1 hc.2] at h2
      by_cases he : k = i
      · rw [he]; exact hc.2
      · exact skip_run (d := d) (by omega) k (by omega) h2
    · rw [skip_no hc] at h2
      omega
theorem pls_skip {p : Int → Bool} {s : ByteArray} (hp : ∀ x, p x = true → pln x = true) (i : Nat) : Pls s i (L.skip p s i) := fun k h1 h2 => hp _ (skip_run (Nat.le_refl _) k h1 h2)
theorem pln_blank (x : Int) (h : isBlank x = true) : pln x = true := by
  simp only [isBlank, Bool.or_eq_true, beq_iff_eq] at h
  simp only [pln, Bool.and_eq_true, decide_eq_true_eq]
  omega
theorem pln_digit (x : Int) (h : isDigit x = true) : pln x = true := by
  simp only [isDigit, Bool.and_eq_true, decide_eq_true_eq] at h
  simp only [pln, Bool.and_eq_true, decide_eq_true_eq]
  omega
theorem pls_app {s : ByteArray} {i j k : Nat} (h1 : Pls s i j) (h2 : Pls s j k) : Pls s i k := fun m a b => by
  by_cases h : m < j
  · exact h1 m a h
  · exact h2 m (by omega) b
theorem pls_nil {s : ByteArray} {i j : Nat} (h : j ≤ i) : Pls s i j := fun m a b => by omega
theorem pls_one {s : ByteArray} {i : Nat} {x : Int} (hx : bt s i = x) (h : pln x = true) : Pls s i (i + 1) := fun m a b => by
  obtain rfl : m = i := by omega
  rw [hx]; exact h
theorem pls_digits {s : ByteArray} {i j : Nat} (h : digitsAt s i = some j) : Pls s i j := by
  unfold digitsAt at h
  split at h
  · injection h with h
    rw [← h]
    exact pls_skip pln_digit i
  · cases h
theorem pls_num {s : ByteArray} {i j : Nat} (h : numAt s i = some j) : Pls s i j := by
  unfold numAt at h
  simp only [Option.bind_eq_some_iff] at h
  obtain ⟨a, h1, b, h2, h3⟩ := h
  have p0 : Pls s i (if bt s i = 45 then i + 1 else i) := by
    split
    · rename_i h; exact pls_one h (by decide)
    · exact pls_nil (Nat.le_refl _)
  have p1 : Pls s (if bt s i = 45 then i + 1 else i) a := by
    generalize (if bt s i = 45 then i + 1 else i) = m at h1
    unfold numInt at h1
    split at h1
    · rename_i h
      injection h1 with h1
      rw [← h1]
      exact pls_one h (by decide)
    · exact pls_digits h1
  have p2 : Pls s a b := by
    unfold numFrac at h2
    split at h2
    · rename_i h
      exact pls_app (pls_one h (by decide)) (pls_digits h2)
    · injection h2 with h2
      exact pls_nil (by omega)
  have p3 : Pls s b j := by
    unfold numExp at h3
    split at h3
    · rename_i h
      refine pls_app (j := b + 1) ?_ (pls_app (j := numSign s (b + 1)) ?_ (pls_digits h3))
      · rcases h with h | h <;> exact pls_one h (by decide)
      · unfold numSign
        split
        · rename_i h
          rcases h with h | h <;> exact pls_one h (by decide)
        · exact pls_nil (Nat.le_refl _)
    · injection h3 with h3
      exact pls_nil (by omega)
  exact pls_app (pls_app (pls_app p0 p1) p2) p3
theorem word_bt {s t : ByteArray} {i : Nat} (h : wordAt s i t = true) (k : Nat) (hk : k < t.size) : bt s (i + k : Nat) = bt t k := by
  have hz := wordAt_step h
  unfold wordAt at h
  simp only [Bool.and_eq_true, decide_eq_true_eq] at h
  have := bt_ext s i (i + t.size) k (by omega) (by rw [size_ext]; omega)
  rw [h.2] at this
  rw [this]
  congr 1
theorem pls_word {s t : ByteArray} {i : Nat} (h : wordAt s i t = true) (ht : ∀ k : Nat, k < t.size → pln (bt t k) = true) : Pls s i (i + t.size) := fun m a b => by
  have := word_bt h (m - i) (by omega)
  rw [show i + (m - i) = m by omega] at this
  rw [this]
  exact ht _ (by omega)
theorem pln_null : ∀ k : Nat, k < nullT.size → pln (bt nullT k) = true := by
  intro k hk
  have : nullT.size = 4 := rfl
  rcases (by omega : k = 0 ∨ k = 1 ∨ k = 2 ∨ k = 3) with rfl | rfl | rfl | rfl <;> rfl
theorem pln_true : ∀ k : Nat, k < trueT.size → pln (bt trueT k) = true := by
  intro k hk
  have : trueT.size = 4 := rfl
  rcases (by omega : k = 0 ∨ k = 1 ∨ k = 2 ∨ k = 3) with rfl | rfl | rfl | rfl <;> rfl
theorem pln_false : ∀ k : Nat, k < falseT.size → pln (bt falseT k) = true := by
  intro k hk
  have : falseT.size = 5 := rfl
  rcases (by omega : k = 0 ∨ k = 1 ∨ k = 2 ∨ k = 3 ∨ k = 4) with rfl | rfl | rfl | rfl | rfl <;> rfl

/-! ### values -/
/-- What is known of a value that is read at i. -/
def VOk (s : ByteArray) (i j : Nat) (p : Pl) : Prop :=
  i < j ∧ j ≤ s.size ∧ Neu2 (seg s i j) ∧ p.b = i ∧ p.e = j ∧
  (p.kind = 5 → bt s i = 91 ∧ ∀ sq r, blk sq 91 93 0 (seg s i j ++ r) = some (j - i)) ∧
  (p.kind = 6 → bt s i = 123 ∧ ∀ sq r, blk sq 123 125 0 (seg s i j ++ r) = some (j - i)) ∧
  (p.kind = 4 → bt s i = 34 ∧ i + 1 < j ∧ Clo (seg s (i + 1) j)) ∧
  (p.kind ≤ 3 → Pls s i j) ∧ p.kind ≤ 6
theorem neu2_blanks (s : ByteArray) {i : Nat} (h : i ≤ s.size) : Neu2 (seg s i (L.skip isBlank s i)) := neu2_pls (Nat.le_refl _) (skip_top _ _ h) (pls_skip pln_blank i)
theorem neu2_at {s : ByteArray} {i : Nat} {x : Int} (hx : bt s i = x) (h : pln x = true) (h0 : x ≠ 0) : Neu2 (seg s i (i + 1)) :=
  neu2_pls (d := 1) (by omega) (by have := lt_of_bt (s := s) (i := i) (by omega); omega) (pls_one hx h)
theorem elems_neu {s : ByteArray} {f : Nat → Option (Nat × Pl)} (hf : ∀ i j p, i ≤ s.size → f i = some (j, p) → VOk s i j p) : ∀ {k i : Nat} {acc : List Pl} {j : Nat} {ps : List Pl}, i ≤ s.size → elemsN f s k i acc = some (j, ps) →
    i < j ∧ j ≤ s.size ∧ Neu2 (seg s i (j - 1)) ∧ bt s (j - 1 : Nat) = 93
  | 0, _, _, _, _, _, h => by cases h
  | k + 1, i, acc, j, ps, hi, h => by
    unfold elemsN at h
    split at h
    · cases h
    · rename_i l p hl
      obtain ⟨g1, g2, g3, -⟩ := hf i l p hi hl
      have h2 := skip_le isBlank s l
      have h3 := skip_top isBlank s g2
      have n1 : Neu2 (seg s i (L.skip isBlank s l)) := by
        rw [seg_app (j := l) (by omega) h2]
        exact neu2_app g3 (neu2_blanks s g2)
      split at h
      · rename_i hc
        have := lt_of_bt (s := s) (i := L.skip isBlank s l) (by omega)
        simp only [Option.some.injEq, Prod.mk.injEq] at h
        obtain ⟨rfl, rfl⟩ := h
        refine ⟨by omega, by omega, ?_, ?_⟩
        · rw [Nat.add_sub_cancel]; exact n1
        · rw [Nat.add_sub_cancel]; exact hc
      · split at h
        · rename_i hc
          have h4 := lt_of_bt (s := s) (i := L.skip isBlank s l) (by omega)
          have h5 := skip_le isBlank s (L.skip isBlank s l + 1)
          have h6 := skip_top isBlank s (i := L.skip isBlank s l + 1) (by omega)
          obtain ⟨a1, a2, a3, a4⟩ := elems_neu hf h6 h
          refine ⟨by omega, a2, ?_, a4⟩
          rw [seg_app (j := L.skip isBlank s l) (by omega) (by omega), seg_app (i := L.skip isBlank s l) (j := L.skip isBlank s l + 1) (by omega) (by omega),
            seg_app (i := L.skip isBlank s l + 1) (j := L.skip isBlank s (L.skip isBlank s l + 1)) (by omega) (by omega)]
          exact neu2_app n1 (neu2_app (neu2_at hc (by decide) (by decide)) (neu2_app (neu2_blanks s (by omega)) a3))
        · cases h
theorem strAt_neu {s : ByteArray} {i j : Nat} (h34 : bt s i = 34) (h : strAt s i = some j) : i + 1 < j ∧ j ≤ s.size ∧ Neu2 (seg s i j) ∧ Clo (seg s (i + 1) j) := by
  have h1 := strAt_step h
  have hc : Clo (seg s (i + 1) j) := str_clo h
  refine ⟨h1.1, h1.2, ?_, hc⟩
  obtain ⟨c, e, hx⟩ := seg_cons (s := s) (i := i) (j := j) (by omega) h1.2
  rw [e]
  exact neu2_str ((u8 hx 34).2 h34) hc
theorem membs_neu {s : ByteArray} {f : Nat → Option (Nat × Pl)} (hf : ∀ i j p, i ≤ s.size → f i = some (j, p) → VOk s i j p) : ∀ {k i : Nat} {ns : List (Nat × Nat)} {ks : List Pl} {j : Nat} {r : List (Nat × Nat) × List Pl}, i ≤ s.size → membsN f s k i ns ks = some (j, r) →
    i < j ∧ j ≤ s.size ∧ Neu2 (seg s i (j - 1)) ∧ bt s (j - 1 : Nat) = 125
  | 0, _, _, _, _, _, _, h => by cases h
  | k + 1, i, ns, ks, j, r, hi, h => by
    unfold membsN at h
    split at h
    · rename_i hq
      split at h
      · cases h
      · rename_i m hm
        obtain ⟨h1, h1', n1, -⟩ := strAt_neu hq hm
        have h2 := skip_le isBlank s m
        have h3 := skip_top isBlank s h1'
        split at h
        · rename_i hcol
          have h4 := lt_of_bt (s := s) (i := L.skip isBlank s m) (by omega)
          have h5 := skip_le isBlank s (L.skip isBlank s m + 1)
          have h6 := skip_top isBlank s (i := L.skip isBlank s m + 1) (by omega)
          split at h
          · cases h
          · rename_i l p hl
            obtain ⟨g1, g2, g3, -⟩ := hf _ l p h6 hl
            have g4 := skip_le isBlank s l
            have g5 := skip_top isBlank s g2
            have n2 : Neu2 (seg s i (L.skip isBlank s l)) := by
              rw [seg_app (j := m) (by omega) (by omega), seg_app (i := m) (j := L.skip isBlank s m) (by omega) (by omega), seg_app (i := L.skip isBlank s m) (j := L.skip isBlank s m + 1) (by omega) (by omega),
                seg_app (i := L.skip isBlank s m + 1) (j := L.skip isBlank s (L.skip isBlank s m + 1)) (by omega) (by omega), seg_app (i := L.skip isBlank s (L.skip isBlank s m + 1)) (j := l) (by omega) (by omega)]
              exact neu2_app n1 (neu2_app (neu2_blanks s h1') (neu2_app (neu2_at hcol (by decide) (by decide)) (neu2_app (neu2_blanks s (by omega)) (neu2_app g3 (neu2_blanks s g2)))))
            split at h
            · rename_i hc
              have := lt_of_bt (s := s) (i := L.skip isBlank s l) (by omega)
              simp only [Option.some.injEq, Prod.mk.injEq] at h
              obtain ⟨rfl, rfl⟩ := h
              refine ⟨by omega, by omega, ?_, ?_⟩
              · rw [Nat.add_sub_cancel]; exact n2
              · rw [Nat.add_sub_cancel]; exact hc
            · split at h
              · rename_i hc
                have g6 := lt_of_bt (s := s) (i := L.skip isBlank s l) (by omega)
                have g7 := skip_le isBlank s (L.skip isBlank s l + 1)
                have g8 := skip_top isBlank s (i := L.skip isBlank s l + 1) (by omega)
                obtain ⟨a1, a2, a3, a4⟩ := membs_neu hf g8 h
                refine ⟨by omega, a2, ?_, a4⟩
                rw [seg_app (j := L.skip isBlank s l) (by omega) (by omega), seg_app (i := L.skip isBlank s l) (j := L.skip isBlank s l + 1) (by omega) (by omega),
                  seg_app (i := L.skip isBlank s l + 1) (j := L.skip isBlank s (L.skip isBlank s l + 1)) (by omega) (by omega)]
                exact neu2_app n2 (neu2_app (neu2_at hc (by decide) (by decide)) (neu2_app (neu2_blanks s (by omega)) a3))
              · cases h
        · cases h
    · cases h
/-- A block: its mark, an inside, its closing mark. -/
theorem block_neu {o c x y : UInt8} {a : Tx} (hx : x = o) (hy : y = c) (ho : ¬ (o = 34 ∨ o = 39)) (hc : ¬ (c = 34 ∨ c = 39)) (hoc : ¬ c = o) (h : Neu o c a) :
    Neu o c (x :: (a ++ [y])) ∧ ∀ sq r, blk sq o c 0 (x :: (a ++ [y]) ++ r) = some (a.length + 2) := by
  subst hx hy
  have ho' : ∀ sq : Bool, ¬ (x = 34 ∨ (x = 39 ∧ sq = true)) := fun sq h => ho (h.imp id And.left)
  have hc' : ∀ sq : Bool, ¬ (y = 34 ∨ (y = 39 ∧ sq = true)) := fun sq h => hc (h.imp id And.left)
  refine ⟨fun sq lv r hl => ?_, fun sq r => ?_⟩
  · rw [List.cons_append, List.append_assoc, blk_open (ho' sq) rfl, h sq _ _ (by omega), List.singleton_append, blk_close (hc' sq) hoc rfl (by omega), show lv + 1 - 1 = lv by omega, map_add, map_add]
    simp only [List.length_cons, List.length_append, List.length_nil]
    rw [show 1 + a.length + 1 = a.length + (0 + 1) + 1 by omega]
  · rw [List.cons_append, List.append_assoc, blk_open (ho' sq) rfl, h sq _ _ (by omega), List.singleton_append, blk_end (hc' sq) hoc rfl (by omega)]
    simp only [Option.map_some]
    congr 1
    omega
theorem neu_both {o c x y : UInt8} {a : Tx} (h : Neu o c a) (hx : Neu o c [x]) (hy : Neu o c [y]) : Neu o c (x :: (a ++ [y])) := by
  have := neu_app hx (neu_app h hy)
  exact this
theorem vok {s : ByteArray} : ∀ (n : Nat) (i j : Nat) (p : Pl), i ≤ s.size → valN s n i = some (j, p) → VOk s i j p
  | 0, i, j, p, hi, h => by cases h
  | n + 1, i, j, p, hi, h => by
    have hst := valN_fwd s (n + 1) i j p hi h
    have ih := vok (s := s) n
    unfold valN at h
    split at h
    · rename_i hb
      have h0 := lt_of_bt (s := s) (i := i) (by omega)
      simp only [Option.map_eq_some_iff, Prod.mk.injEq] at h
      obtain ⟨⟨a, b⟩, h1, rfl, rfl⟩ := h
      have hm : Neu2 (seg s (i + 1) (a - 1)) ∧ i + 1 < a ∧ bt s (a - 1 : Nat) = 125 := by
        unfold membsAt at h1
        have k1 := skip_le isBlank s (i + 1)
        have k2 := skip_top isBlank s (i := i + 1) (by omega)
        split at h1
        · rename_i hc
          simp only [Option.some.injEq, Prod.mk.injEq] at h1
          obtain ⟨rfl, rfl⟩ := h1
          rw [Nat.add_sub_cancel]
          exact ⟨neu2_blanks s (by omega), by omega, hc⟩
        · obtain ⟨a1, a2, a3, a4⟩ := membs_neu ih k2 h1
          refine ⟨?_, by omega, a4⟩
          rw [seg_app (j := L.skip isBlank s (i + 1)) k1 (by omega)]
          exact neu2_app (neu2_blanks s (by omega)) a3
      obtain ⟨hm, hlt, h125⟩ := hm
      obtain ⟨c, e, hx⟩ := seg_cons (s := s) (i := i) (j := a) (by omega) hst.2
      obtain ⟨d, e2, hy⟩ := seg_one (s := s) (i := a - 1) (by omega)
      rw [show a - 1 + 1 = a by omega] at e2
      have e3 : seg s i a = c :: (seg s (i + 1) (a - 1) ++ [d]) := by
        rw [e, seg_app (i := i + 1) (j := a - 1) (k := a) (by omega) (by omega), e2]
      have hc : c = 123 := (u8 hx 123).2 hb
      have hd : d = 125 := (u8 hy 125).2 h125
      obtain ⟨b1, b2⟩ := block_neu (o := 123) (c := 125) hc hd (by decide) (by decide) (by decide) hm.2
      have b3 : Neu 91 93 (c :: (seg s (i + 1) (a - 1) ++ [d])) := neu_both hm.1 (by subst hc; exact neu_one (by decide) (by decide) (by decide) (by decide)) (by subst hd; exact neu_one (by decide) (by decide) (by decide) (by decide))
      rw [← e3] at b1 b2 b3
      refine ⟨by omega, hst.2, ⟨b3, b1⟩, rfl, rfl, (fun h => by cases h), fun _ => ⟨hb, fun sq r => ?_⟩, (fun h => by cases h), (fun h => by exact absurd h (by simp [Pl.kind])), by simp [Pl.kind]⟩
      rw [b2 sq r, seg_len (by omega)]
      congr 1
      omega
    · split at h
      · rename_i hnb hb
        have h0 := lt_of_bt (s := s) (i := i) (by omega)
        simp only [Option.map_eq_some_iff, Prod.mk.injEq] at h
        obtain ⟨⟨a, b⟩, h1, rfl, rfl⟩ := h
        have hm : Neu2 (seg s (i + 1) (a - 1)) ∧ i + 1 < a ∧ bt s (a - 1 : Nat) = 93 := by
          unfold elemsAt at h1
          have k1 := skip_le isBlank s (i + 1)
          have k2 := skip_top isBlank s (i := i + 1) (by omega)
          split at h1
          · rename_i hc
            simp only [Option.some.injEq, Prod.mk.injEq] at h1
            obtain ⟨rfl, rfl⟩ := h1
            rw [Nat.add_sub_cancel]
            exact ⟨neu2_blanks s (by omega), by omega, hc⟩
          · obtain ⟨a1, a2, a3, a4⟩ := elems_neu ih k2 h1
            refine ⟨?_, by omega, a4⟩
            rw [seg_app (j := L.skip isBlank s (i + 1)) k1 (by omega)]
            exact neu2_app (neu2_blanks s (by omega)) a3
        obtain ⟨hm, hlt, h93⟩ := hm
        obtain ⟨c, e, hx⟩ := seg_cons (s := s) (i := i) (j := a) (by omega) hst.2
        obtain ⟨d, e2, hy⟩ := seg_one (s := s) (i := a - 1) (by omega)
        rw [show a - 1 + 1 = a by omega] at e2
        have e3 : seg s i a = c :: (seg s (i + 1) (a - 1) ++ [d]) := by
          rw [e, seg_app (i := i + 1) (j := a - 1) (k := a) (by omega) (by omega), e2]
        have hc : c = 91 := (u8 hx 91).2 hb
        have hd : d = 93 := (u8 hy 93).2 h93
        obtain ⟨b1, b2⟩ := block_neu (o := 91) (c := 93) hc hd (by decide) (by decide) (by decide) hm.1
        have b3 : Neu 123 125 (c :: (seg s (i + 1) (a - 1) ++ [d])) := neu_both hm.2 (by subst hc; exact neu_one (by decide) (by decide) (by decide) (by decide)) (by subst hd; exact neu_one (by decide) (by decide) (by decide) (by decide))
        rw [← e3] at b1 b2 b3
        refine ⟨by omega, hst.2, ⟨b1, b3⟩, rfl, rfl, fun _ => ⟨hb, fun sq r => ?_⟩, (fun h => by cases h), (fun h => by cases h), (fun h => by exact absurd h (by simp [Pl.kind])), by simp [Pl.kind]⟩
        rw [b2 sq r, seg_len (by omega)]
        congr 1
        omega
      · split at h
        · rename_i hb
          simp only [Option.map_eq_some_iff, Prod.mk.injEq] at h
          obtain ⟨a, h1, rfl, rfl⟩ := h
          obtain ⟨k1, k2, k3, k4⟩ := strAt_neu hb h1
          exact ⟨by omega, k2, k3, rfl, rfl, (fun h => by cases h), (fun h => by cases h), fun _ => ⟨hb, k1, k4⟩, (fun h => by exact absurd h (by simp [Pl.kind])), by simp [Pl.kind]⟩
        · split at h
          · simp only [Option.map_eq_some_iff, Prod.mk.injEq] at h
            obtain ⟨a, h1, rfl, rfl⟩ := h
            have hp := pls_num h1
            exact ⟨by omega, hst.2, neu2_pls (Nat.le_refl _) hst.2 hp, rfl, rfl, (fun h => by cases h), (fun h => by cases h), (fun h => by cases h), fun _ => hp, by simp [Pl.kind]⟩
          · split at h
            · rename_i hw
              simp only [Option.some.injEq, Prod.mk.injEq] at h
              obtain ⟨rfl, rfl⟩ := h
              have hp := pls_word hw pln_null
              exact ⟨by omega, hst.2, neu2_pls (Nat.le_refl _) hst.2 hp, rfl, rfl, (fun h => by cases h), (fun h => by cases h), (fun h => by cases h), fun _ => hp, by simp [Pl.kind]⟩
            · split at h
              · rename_i hw
                simp only [Option.some.injEq, Prod.mk.injEq] at h
                obtain ⟨rfl, rfl⟩ := h
                have hp := pls_word hw pln_false
                exact ⟨by omega, hst.2, neu2_pls (Nat.le_refl _) hst.2 hp, rfl, rfl, (fun h => by cases h), (fun h => by cases h), (fun h => by cases h), fun _ => hp, by simp [Pl.kind]⟩
              · split at h
                · rename_i hw
                  simp only [Option.some.injEq, Prod.mk.injEq] at h
                  obtain ⟨rfl, rfl⟩ := h
                  have hp := pls_word hw pln_true
                  exact ⟨by omega, hst.2, neu2_pls (Nat.le_refl _) hst.2 hp, rfl, rfl, (fun h => by cases h), (fun h => by cases h), (fun h => by cases h), fun _ => hp, by simp [Pl.kind]⟩
                · cases h
end Go.Proofs.YtkdkdhcjpgmjdaaGreatDoor.Jp
