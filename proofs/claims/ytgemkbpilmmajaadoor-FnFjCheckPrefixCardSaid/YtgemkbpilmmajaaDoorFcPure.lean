/- What fastjson's check of a value computes, in plain Lean: no program in sight. -/
import Derived.Test.YtgemkbpilmmajaaDoorP16b
namespace Go.Proofs.YtgemkbpilmmajaaDoor.Fc
set_option linter.unusedVariables false
set_option linter.unusedSimpArgs false
set_option linter.unusedSectionVars false

abbrev Tx := List UInt8
def blank (c : UInt8) : Bool := c == 32 || c == 10 || c == 9 || c == 13
def dig (c : UInt8) : Bool := decide (48 ≤ c.toNat) && decide (c.toNat ≤ 57)
def skip (l : Tx) : Tx := l.dropWhile blank
/-- An optional sign, struck. -/
def sg : Tx → Tx
  | [] => []
  | c :: t => if c = 43 ∨ c = 45 then t else c :: t
def exp : Tx → Option Tx
  | [] => some []
  | c :: t => if c = 101 ∨ c = 69 then (if (sg t).takeWhile dig = [] then none else some ((sg t).dropWhile dig)) else some (c :: t)
def frac : Tx → Option Tx
  | [] => some []
  | c :: t => if c = 46 then (if t.takeWhile dig = [] then none else exp (t.dropWhile dig)) else exp (c :: t)
/-- An optional minus, struck. -/
def mi : Tx → Tx
  | [] => []
  | c :: t => if c = 45 then t else c :: t
def num (l : Tx) : Option Tx :=
  if (mi l).takeWhile dig = [] then none
  else if (mi l).head? = some 48 ∧ ((mi l).takeWhile dig).length ≠ 1 then none
  else frac ((mi l).dropWhile dig)
/-- How many backslashes a text ends with. -/
def bsl (l : Tx) : Nat := (l.reverse.takeWhile (· == 92)).length
/-- Whether a string's closing quotation mark stands at n. -/
def endAt (l : Tx) (n : Nat) : Bool := l[n]? == some 34 && bsl (l.take n) % 2 == 0
def rawEnd (l : Tx) : Option Nat := (List.range l.length).find? (endAt l)
def simple (c : UInt8) : Bool := c == 34 || c == 92 || c == 47 || c == 98 || c == 102 || c == 110 || c == 114 || c == 116
/-- The escapes of a string's inside; what is left behind the last. -/
def escs (hex4 : Tx → Bool) : Nat → Tx → Option Tx
  | 0, _ => none
  | k + 1, l => match l.dropWhile (· != 92) with
    | [] => some l
    | [_] => none
    | _ :: c :: t => if simple c then escs hex4 k t else if c = 117 then (if t.length < 4 then none else if hex4 (t.take 4) then escs hex4 k (t.drop 4) else none) else none
def hexC (c : UInt8) : Bool := L.isHex (c.toNat : Int)
def hex4 (l : Tx) : Bool := l.all hexC
def strV (raw : Tx) : Option Tx := escs hex4 (raw.length + 1) raw
/-- A string behind its opening quotation mark: what the check gives for its inside, and what is behind it. -/
def str (l : Tx) : Option (Tx × Tx) := match rawEnd l with
  | none => none
  | some n => match strV (l.take n) with
    | none => none
    | some a => some (a, l.drop (n + 1))
def ctl (l : Tx) : Bool := l.any (fun c => decide (c.toNat < 32))
def word (w l : Tx) : Option Tx := if l.take w.length = w then some (l.drop w.length) else none
def items (P : Tx → Option Tx) : Nat → Tx → Option Tx
  | 0, _ => none
  | k + 1, l => match P (skip l) with
    | none => none
    | some a => match skip a with
      | [] => none
      | c :: u => if c = 44 then items P k u else if c = 93 then some u else none
def arr (P : Tx → Option Tx) (k : Nat) (l : Tx) : Option Tx := match skip l with
  | [] => none
  | c :: u => if c = 93 then some u else items P k (c :: u)
def mems (P : Tx → Option Tx) : Nat → Tx → Option Tx
  | 0, _ => none
  | k + 1, l => match skip l with
    | [] => none
    | q :: t => if q = 34 then (match str t with
      | none => none
      | some (a, b) => if ctl a then none else match skip b with
        | [] => none
        | c :: u => if c = 58 then (match P (skip u) with
          | none => none
          | some v => match skip v with
            | [] => none
            | d :: z => if d = 44 then mems P k z else if d = 125 then some z else none) else none) else none
def obj (P : Tx → Option Tx) (k : Nat) (l : Tx) : Option Tx := match skip l with
  | [] => none
  | c :: u => if c = 125 then some u else mems P k (c :: u)
def quo (t : Tx) : Option Tx := match str t with
  | none => none
  | some (a, b) => if ctl a then none else some b
def val : Nat → Tx → Option Tx
  | 0, _ => none
  | k + 1, l => match l with
    | [] => none
    | c :: t => if c = 123 then obj (val k) k t else if c = 91 then arr (val k) k t else if c = 34 then quo t
      else if c = 116 then word [116, 114, 117, 101] (c :: t) else if c = 102 then word [102, 97, 108, 115, 101] (c :: t) else if c = 110 then word [110, 117, 108, 108] (c :: t)
      else num (c :: t)

/-! ### cut where it ends -/
/-- It takes a piece off the front, and takes that piece alone, too. -/
def Good (P : Tx → Option Tx) : Prop := ∀ l l', P l = some l' → (∃ a, a ≠ [] ∧ l = a ++ l') ∧ ∀ x r y, l = x ++ r → l' = y ++ r → P x = some y
/-- The same, of what may take nothing. -/
def Soft (P : Tx → Option Tx) : Prop := ∀ l l', P l = some l' → (∃ a, l = a ++ l') ∧ ∀ x r y, l = x ++ r → l' = y ++ r → P x = some y
theorem dw_cut (p : UInt8 → Bool) : ∀ (u r y : Tx), (u ++ r).dropWhile p = y ++ r → u.dropWhile p = y ∧ (u ++ r).takeWhile p = u.takeWhile p
  | [], r, y, h => by
    simp only [List.nil_append] at h ⊢
    have h1 := List.takeWhile_append_dropWhile (p := p) (l := r)
    have h2 := congrArg List.length h1
    rw [h] at h2
    simp only [List.length_append] at h2
    have hy : y = [] := List.eq_nil_of_length_eq_zero (by omega)
    have ht : r.takeWhile p = [] := List.eq_nil_of_length_eq_zero (by omega)
    exact ⟨by rw [hy]; rfl, by rw [ht]; rfl⟩
  | a :: u, r, y, h => by
    simp only [List.cons_append] at h ⊢
    cases hp : p a with
    | true =>
      rw [List.dropWhile_cons_of_pos hp] at h
      obtain ⟨h1, h2⟩ := dw_cut p u r y h
      rw [List.dropWhile_cons_of_pos hp, List.takeWhile_cons_of_pos hp, List.takeWhile_cons_of_pos hp, h2]
      exact ⟨h1, rfl⟩
    | false =>
      rw [List.dropWhile_cons_of_neg (by simp [hp])] at h
      rw [List.dropWhile_cons_of_neg (by simp [hp]), List.takeWhile_cons_of_neg (by simp [hp]), List.takeWhile_cons_of_neg (by simp [hp])]
      have : (a :: u) ++ r = y ++ r := h
      exact ⟨List.append_cancel_right this, rfl⟩
theorem dw_suf (p : UInt8 → Bool) (l : Tx) : ∃ a, l = a ++ l.dropWhile p := ⟨l.takeWhile p, (List.takeWhile_append_dropWhile).symm⟩
theorem dw_len (p : UInt8 → Bool) (l : Tx) : (l.dropWhile p).length + (l.takeWhile p).length = l.length := by
  have := congrArg List.length (List.takeWhile_append_dropWhile (p := p) (l := l))
  simp only [List.length_append] at this
  omega
theorem skip_suf (l : Tx) : ∃ a, l = a ++ skip l := dw_suf _ _
theorem skip_cut {u r y : Tx} (h : skip (u ++ r) = y ++ r) : skip u = y := (dw_cut _ u r y h).1
theorem exp_cons (c : UInt8) (t : Tx) : exp (c :: t) = if c = 101 ∨ c = 69 then (if (sg t).takeWhile dig = [] then none else some ((sg t).dropWhile dig)) else some (c :: t) := rfl
theorem frac_cons (c : UInt8) (t : Tx) : frac (c :: t) = if c = 46 then (if t.takeWhile dig = [] then none else exp (t.dropWhile dig)) else exp (c :: t) := rfl
theorem sg_cons (c : UInt8) (t : Tx) : sg (c :: t) = if c = 43 ∨ c = 45 then t else c :: t := rfl
theorem mi_cons (c : UInt8) (t : Tx) : mi (c :: t) = if c = 45 then t else c :: t := rfl
theorem sg_len (l : Tx) : (sg l).length ≤ l.length := by
  cases l with
  | nil => simp [sg]
  | cons c t => rw [sg_cons]; split <;> simp
theorem sg_suf (l : Tx) : ∃ a, l = a ++ sg l := by
  cases l with
  | nil => exact ⟨[], rfl⟩
  | cons c t =>
    rw [sg_cons]
    split
    · exact ⟨[c], rfl⟩
    · exact ⟨[], rfl⟩
theorem sg_app (c : UInt8) (t r : Tx) : sg (c :: t ++ r) = sg (c :: t) ++ r := by
  rw [List.cons_append, sg_cons, sg_cons]
  split <;> rfl
theorem mi_app (c : UInt8) (t r : Tx) : mi (c :: t ++ r) = mi (c :: t) ++ r := by
  rw [List.cons_append, mi_cons, mi_cons]
  split <;> rfl
theorem mi_suf (l : Tx) : ∃ a, l = a ++ mi l := by
  cases l with
  | nil => exact ⟨[], rfl⟩
  | cons c t =>
    rw [mi_cons]
    split
    · exact ⟨[c], rfl⟩
    · exact ⟨[], rfl⟩
theorem suf_trans {a b c : Tx} (h : ∃ x, a = x ++ b) (h' : ∃ x, b = x ++ c) : ∃ x, a = x ++ c := by
  obtain ⟨x, rfl⟩ := h
  obtain ⟨y, rfl⟩ := h'
  exact ⟨x ++ y, by rw [List.append_assoc]⟩
theorem suf_len {a b : Tx} (h : ∃ x, a = x ++ b) : b.length ≤ a.length := by
  obtain ⟨x, rfl⟩ := h
  simp
theorem exp_soft : Soft exp := by
  intro l l' h
  cases l with
  | nil =>
    simp only [exp, Option.some.injEq] at h
    subst h
    refine ⟨⟨[], rfl⟩, fun x r y hx hy => ?_⟩
    have h1 := (List.append_eq_nil_iff.1 hx.symm).1
    have h2 := (List.append_eq_nil_iff.1 hy.symm).1
    rw [h1, h2]; rfl
  | cons c t =>
    rw [exp_cons] at h
    by_cases hc : c = 101 ∨ c = 69
    · rw [if_pos hc] at h
      by_cases ht : (sg t).takeWhile dig = []
      · rw [if_pos ht] at h; exact absurd h (by simp)
      · rw [if_neg ht] at h
        have h := Option.some.inj h
        have hl1 := dw_len dig (sg t)
        have hl2 : 0 < ((sg t).takeWhile dig).length := List.length_pos_iff.2 ht
        have hl3 := sg_len t
        refine ⟨?_, fun x r y hx hy => ?_⟩
        · obtain ⟨a, ha⟩ := suf_trans (sg_suf t) (dw_suf dig (sg t))
          rw [← h]
          exact ⟨c :: a, by rw [List.cons_append, ← ha]⟩
        · rw [h] at hl1
          rw [hy] at h hl1
          simp only [List.length_append] at hl1
          rcases x with _ | ⟨e, x⟩
          · simp only [List.nil_append] at hx
            have := congrArg List.length hx
            simp only [List.length_cons] at this
            omega
          · simp only [List.cons_append, List.cons.injEq] at hx
            obtain ⟨rfl, hx⟩ := hx
            rcases x with _ | ⟨f, x⟩
            · simp only [List.nil_append] at hx
              rw [hx] at hl3 hl1 hl2
              omega
            · rw [hx, sg_app] at h ht
              obtain ⟨h1, h2⟩ := dw_cut dig _ r y h
              rw [exp_cons]
              rw [if_pos hc, if_neg (by rw [← h2]; exact ht), h1]
    · rw [if_neg hc] at h
      have h := Option.some.inj h
      subst h
      refine ⟨⟨[], rfl⟩, fun x r y hx hy => ?_⟩
      have hxy : x = y := List.append_cancel_right (hx.symm.trans hy)
      subst hxy
      rcases x with _ | ⟨e, x⟩
      · rfl
      · simp only [List.cons_append, List.cons.injEq] at hx
        obtain ⟨rfl, hx⟩ := hx
        rw [exp_cons]
        rw [if_neg hc]
theorem frac_soft : Soft frac := by
  intro l l' h
  cases l with
  | nil =>
    simp only [frac, Option.some.injEq] at h
    subst h
    refine ⟨⟨[], rfl⟩, fun x r y hx hy => ?_⟩
    have h1 := (List.append_eq_nil_iff.1 hx.symm).1
    have h2 := (List.append_eq_nil_iff.1 hy.symm).1
    rw [h1, h2]; rfl
  | cons c t =>
    rw [frac_cons] at h
    by_cases hc : c = 46
    · rw [if_pos hc] at h
      by_cases ht : t.takeWhile dig = []
      · rw [if_pos ht] at h; exact absurd h (by simp)
      · rw [if_neg ht] at h
        obtain ⟨h1, h2⟩ := exp_soft _ _ h
        have hl1 := dw_len dig t
        have hl2 : 0 < (t.takeWhile dig).length := List.length_pos_iff.2 ht
        have hs := suf_trans (dw_suf dig t) h1
        refine ⟨?_, fun x r y hx hy => ?_⟩
        · obtain ⟨a, ha⟩ := hs
          exact ⟨c :: a, by rw [List.cons_append, ← ha]⟩
        · have hl4 := suf_len h1
          rw [hy] at hl4 h1
          simp only [List.length_append] at hl4
          obtain ⟨b, hb⟩ := h1
          rcases x with _ | ⟨e, x⟩
          · simp only [List.nil_append] at hx
            have := congrArg List.length hx
            simp only [List.length_cons] at this
            omega
          · simp only [List.cons_append, List.cons.injEq] at hx
            obtain ⟨rfl, hx⟩ := hx
            rw [← List.append_assoc] at hb
            rw [hx] at hb ht
            obtain ⟨h3, h4⟩ := dw_cut dig _ r _ hb
            rw [frac_cons]
            rw [if_pos hc, if_neg (by rw [← h4]; exact ht), h3]
            refine h2 _ r _ ?_ hy
            rw [hx]; exact hb
    · rw [if_neg hc] at h
      obtain ⟨h1, h2⟩ := exp_soft _ _ h
      refine ⟨h1, fun x r y hx hy => ?_⟩
      have h3 := h2 x r y hx hy
      rcases x with _ | ⟨e, x⟩
      · exact h3
      · simp only [List.cons_append, List.cons.injEq] at hx
        obtain ⟨rfl, hx⟩ := hx
        rw [frac_cons]
        rw [if_neg hc]; exact h3
theorem num_good : Good num := by
  intro l l' h
  unfold num at h
  by_cases ht : (mi l).takeWhile dig = []
  · rw [if_pos ht] at h; exact absurd h (by simp)
  rw [if_neg ht] at h
  by_cases hz : (mi l).head? = some 48 ∧ ((mi l).takeWhile dig).length ≠ 1
  · rw [if_pos hz] at h; exact absurd h (by simp)
  rw [if_neg hz] at h
  obtain ⟨h1, h2⟩ := frac_soft _ _ h
  have hl1 := dw_len dig (mi l)
  have hl2 : 0 < ((mi l).takeWhile dig).length := List.length_pos_iff.2 ht
  have hl3 := suf_len (mi_suf l)
  have hl4 := suf_len h1
  have hs := suf_trans (mi_suf l) (suf_trans (dw_suf dig (mi l)) h1)
  refine ⟨?_, fun x r y hx hy => ?_⟩
  · obtain ⟨a, ha⟩ := hs
    refine ⟨a, ?_, ha⟩
    rintro rfl
    have := congrArg List.length ha
    simp only [List.nil_append] at this
    omega
  · rw [hy] at hl4 h1
    simp only [List.length_append] at hl4
    obtain ⟨b, hb⟩ := h1
    rcases x with _ | ⟨e, x⟩
    · simp only [List.nil_append] at hx
      rw [hx] at hl3
      rw [hx] at hl4 hl1 hl2
      omega
    · subst hx
      rw [mi_app] at hb ht hz h h2
      rw [← List.append_assoc] at hb
      obtain ⟨h3, h4⟩ := dw_cut dig _ r _ hb
      unfold num
      rw [if_neg (by rw [← h4]; exact ht), if_neg, h3]
      · exact h2 _ r _ hb hy
      · rintro ⟨z1, z2⟩
        refine hz ⟨?_, by rw [h4]; exact z2⟩
        rcases hm : mi (e :: x) with _ | ⟨f, m⟩
        · rw [hm] at z1; exact absurd z1 (by simp)
        · rw [hm] at z1; exact z1
/-! ### strings -/
theorem find_cut {p q : Nat → Bool} : ∀ {m n : Nat}, (∀ i, i ≤ n → p i = q i) → (List.range m).find? p = some n → ∀ {j : Nat}, n < j → (List.range j).find? q = some n := by
  intro m n hpq h j hj
  have h1 := List.find?_some h
  have h2 := h
  rw [List.find?_range_eq_some] at h2
  rw [List.find?_range_eq_some]
  refine ⟨by rw [← hpq n (Nat.le_refl _)]; exact h1, by simpa using hj, fun i hi => ?_⟩
  rw [← hpq i (by omega)]
  exact h2.2.2 i hi
theorem rawEnd_lt {l : Tx} {n : Nat} (h : rawEnd l = some n) : n < l.length := by
  have := List.mem_of_find?_eq_some h
  simpa using this
theorem rawEnd_cut {x r : Tx} {n : Nat} (h : rawEnd (x ++ r) = some n) (hn : n < x.length) : rawEnd x = some n := by
  unfold rawEnd at h ⊢
  refine find_cut (fun i hi => ?_) h hn
  unfold endAt
  rw [List.getElem?_append_left (by omega), List.take_append_of_le_length (by omega)]
theorem str_cut {l a b : Tx} (h : str l = some (a, b)) : (∃ p, p ≠ [] ∧ l = p ++ b) ∧ ∀ x r y, l = x ++ r → b = y ++ r → str x = some (a, y) := by
  unfold str at h
  cases hn : rawEnd l with
  | none => rw [hn] at h; exact absurd h (by simp)
  | some n =>
    rw [hn] at h
    dsimp only at h
    cases hv : strV (l.take n) with
    | none => rw [hv] at h; exact absurd h (by simp)
    | some a' =>
      rw [hv] at h
      dsimp only at h
      obtain ⟨rfl, hb⟩ := Prod.mk.inj (Option.some.inj h)
      have hlt := rawEnd_lt hn
      refine ⟨⟨l.take (n + 1), ?_, by rw [← hb, List.take_append_drop]⟩, fun x r y hx hy => ?_⟩
      · intro e
        have := congrArg List.length e
        simp only [List.length_take, List.length_nil] at this
        omega
      · have hl := congrArg List.length (hb.trans hy)
        simp only [List.length_drop, List.length_append] at hl
        have hl2 := congrArg List.length hx
        simp only [List.length_append] at hl2
        have hnx : n < x.length := by omega
        subst hx
        unfold str
        rw [rawEnd_cut hn hnx]
        dsimp only
        rw [List.take_append_of_le_length (by omega)] at hv
        rw [hv]
        dsimp only
        rw [List.drop_append_of_le_length (by omega)] at hb
        rw [List.append_cancel_right (hb.trans hy)]
theorem quo_good : Good quo := by
  intro l l' h
  unfold quo at h
  cases hs : str l with
  | none => rw [hs] at h; exact absurd h (by simp)
  | some p =>
    obtain ⟨a, b⟩ := p
    rw [hs] at h
    dsimp only at h
    by_cases hc : ctl a = true
    · rw [if_pos hc] at h; exact absurd h (by simp)
    rw [if_neg hc] at h
    have h := Option.some.inj h
    subst h
    obtain ⟨h1, h2⟩ := str_cut hs
    refine ⟨h1, fun x r y hx hy => ?_⟩
    unfold quo
    rw [h2 x r y hx hy]
    dsimp only
    rw [if_neg hc]
theorem word_good {w : Tx} (hw : w ≠ []) : Good (word w) := by
  intro l l' h
  unfold word at h
  by_cases hp : l.take w.length = w
  · rw [if_pos hp] at h
    have h := Option.some.inj h
    have hlw : 0 < w.length := List.length_pos_iff.2 hw
    have hll := congrArg List.length hp
    simp only [List.length_take] at hll
    refine ⟨⟨w, hw, ?_⟩, fun x r y hx hy => ?_⟩
    · rw [← h]
      conv => lhs; rw [← List.take_append_drop w.length l]
      rw [hp]
    · have hl := congrArg List.length (h.trans hy)
      have hl2 := congrArg List.length hx
      simp only [List.length_drop, List.length_append] at hl hl2
      subst hx
      unfold word
      rw [List.take_append_of_le_length (by omega)] at hp
      rw [List.drop_append_of_le_length (by omega)] at h
      rw [if_pos hp, List.append_cancel_right (h.trans hy)]
  · rw [if_neg hp] at h; exact absurd h (by simp)
/-! ### arrays and objects -/
theorem app_of {l a b r y : Tx} (h : ∃ p, l = p ++ b) (hb : b = y ++ r) : ∃ q, l = (q ++ y) ++ r ∧ l = q ++ b := by
  obtain ⟨p, rfl⟩ := h
  exact ⟨p, by rw [hb, List.append_assoc], rfl⟩
theorem Good.suf {P : Tx → Option Tx} (h : Good P) {l l' : Tx} (e : P l = some l') : ∃ a, l = a ++ l' := by
  obtain ⟨a, -, ha⟩ := (h l l' e).1
  exact ⟨a, ha⟩
theorem good_mk {P : Tx → Option Tx} (h1 : ∀ l l', P l = some l' → ∃ a, a ≠ [] ∧ l = a ++ l') (h2 : ∀ x r y, P (x ++ r) = some (y ++ r) → P x = some y) : Good P :=
  fun l l' h => ⟨h1 l l' h, fun x r y hx hy => by subst hx; subst hy; exact h2 x r y h⟩
theorem cons_suf {c : UInt8} {u l : Tx} (h : ∃ a, l = a ++ c :: u) : ∃ a, a ≠ [] ∧ l = a ++ u := by
  obtain ⟨a, rfl⟩ := h
  exact ⟨a ++ [c], by simp, by simp⟩
theorem suf_ne {a b c : Tx} (h : ∃ x, a = x ++ b) (h' : ∃ x, x ≠ [] ∧ b = x ++ c) : ∃ x, x ≠ [] ∧ a = x ++ c := by
  obtain ⟨x, rfl⟩ := h
  obtain ⟨y, hy, rfl⟩ := h'
  exact ⟨x ++ y, by simp [hy], by rw [List.append_assoc]⟩
theorem ne_suf {a b : Tx} (h : ∃ x, x ≠ [] ∧ a = x ++ b) : ∃ x, a = x ++ b := by
  obtain ⟨x, -, h⟩ := h
  exact ⟨x, h⟩
theorem items_good {P : Tx → Option Tx} (hP : Good P) : ∀ k, Good (items P k)
  | 0 => fun l l' h => absurd h (by simp [items])
  | k + 1 => by
    have ih := items_good hP k
    have key : ∀ {l l' : Tx}, items P (k + 1) l = some l' → ∃ a c u, P (skip l) = some a ∧ skip a = c :: u ∧ (c = 44 ∧ items P k u = some l' ∨ c ≠ 44 ∧ c = 93 ∧ u = l') := by
      intro l l' h
      simp only [items] at h
      cases ha : P (skip l) with
      | none => rw [ha] at h; exact absurd h (by simp)
      | some a =>
        rw [ha] at h
        dsimp only at h
        cases hs : skip a with
        | nil => rw [hs] at h; exact absurd h (by simp)
        | cons c u =>
          rw [hs] at h
          dsimp only at h
          by_cases h44 : c = 44
          · rw [if_pos h44] at h
            exact ⟨a, c, u, rfl, hs, .inl ⟨h44, h⟩⟩
          · rw [if_neg h44] at h
            by_cases h93 : c = 93
            · rw [if_pos h93] at h
              exact ⟨a, c, u, rfl, hs, .inr ⟨h44, h93, Option.some.inj h⟩⟩
            · rw [if_neg h93] at h; exact absurd h (by simp)
    have tail : ∀ {c : UInt8} {u l' : Tx}, (c = 44 ∧ items P k u = some l' ∨ c ≠ 44 ∧ c = 93 ∧ u = l') → ∃ p, u = p ++ l' := by
      rintro c u l' (⟨-, h⟩ | ⟨-, -, h⟩)
      · exact ih.suf h
      · exact ⟨[], h⟩
    refine good_mk (fun l l' h => ?_) (fun x r y h => ?_)
    · obtain ⟨a, c, u, h1, h2, h3⟩ := key h
      have hu := tail h3
      have ha : ∃ p, p ≠ [] ∧ a = p ++ u := cons_suf (by rw [← h2]; exact skip_suf a)
      obtain ⟨p, hp, ha⟩ := ha
      obtain ⟨q, hq⟩ := hu
      exact suf_ne (skip_suf l) (suf_ne (hP.suf h1) ⟨p ++ q, by simp [hp], by rw [ha, hq, List.append_assoc]⟩)
    · obtain ⟨a, c, u, h1, h2, h3⟩ := key h
      obtain ⟨q, hu⟩ := tail h3
      rw [← List.append_assoc] at hu
      obtain ⟨p, ha⟩ := skip_suf a
      rw [h2, hu] at ha
      have ha' : a = (p ++ c :: (q ++ y)) ++ r := by rw [ha]; simp
      obtain ⟨d, hd⟩ := hP.suf h1
      rw [ha', ← List.append_assoc] at hd
      have e1 := skip_cut hd
      have e2 := (hP _ _ h1).2 _ r _ hd ha'
      rw [ha', hu] at h2
      have e3 : skip (p ++ c :: (q ++ y)) = c :: (q ++ y) := skip_cut (r := r) (by rw [h2]; simp)
      simp only [items]
      rw [e1, e2]
      dsimp only
      rw [e3]
      dsimp only
      rcases h3 with ⟨h44, h4⟩ | ⟨h44, h93, h4⟩
      · rw [if_pos h44]
        exact (ih _ _ h4).2 _ r _ hu rfl
      · rw [if_neg h44, if_pos h93]
        rw [h4] at hu
        exact congrArg some (List.append_cancel_right hu).symm
theorem arr_good {P : Tx → Option Tx} (hP : Good P) (k : Nat) : Good (arr P k) := by
  have hi := items_good hP k
  have key : ∀ {l l' : Tx}, arr P k l = some l' → ∃ c u, skip l = c :: u ∧ (c = 93 ∧ u = l' ∨ c ≠ 93 ∧ items P k (c :: u) = some l') := by
    intro l l' h
    unfold arr at h
    cases hs : skip l with
    | nil => rw [hs] at h; exact absurd h (by simp)
    | cons c u =>
      rw [hs] at h
      dsimp only at h
      by_cases h93 : c = 93
      · rw [if_pos h93] at h
        exact ⟨c, u, rfl, .inl ⟨h93, Option.some.inj h⟩⟩
      · rw [if_neg h93] at h
        exact ⟨c, u, rfl, .inr ⟨h93, h⟩⟩
  refine good_mk (fun l l' h => ?_) (fun x r y h => ?_)
  · obtain ⟨c, u, h1, ⟨-, rfl⟩ | ⟨-, h2⟩⟩ := key h
    · exact cons_suf (by rw [← h1]; exact skip_suf l)
    · exact suf_ne (skip_suf l) (by rw [h1]; exact (hi _ _ h2).1)
  · obtain ⟨c, u, h1, ⟨h93, rfl⟩ | ⟨h93, h2⟩⟩ := key h
    · have e1 : skip x = c :: y := skip_cut (r := r) (by rw [h1]; simp)
      unfold arr
      rw [e1]
      dsimp only
      rw [if_pos h93]
    · obtain ⟨d, hd⟩ := hi.suf h2
      obtain ⟨dn, hdn, -⟩ := (hi _ _ h2).1
      rcases d with _ | ⟨e, d⟩
      · exfalso
        obtain ⟨b, hb, hb2⟩ := (hi _ _ h2).1
        have l1 := congrArg List.length hd
        have l2 := congrArg List.length hb2
        have l3 := List.length_pos_iff.2 hb
        simp only [List.length_append, List.nil_append] at l1 l2
        omega
      · simp only [List.cons_append, List.cons.injEq] at hd
        obtain ⟨rfl, hd⟩ := hd
        rw [← List.append_assoc] at hd
        subst hd
        have e1 : skip x = c :: (d ++ y) := skip_cut (r := r) (by rw [h1]; simp)
        unfold arr
        rw [e1]
        dsimp only
        rw [if_neg h93]
        exact (hi _ _ h2).2 _ r _ (by simp) rfl
theorem mems_key {P : Tx → Option Tx} {k : Nat} {l l' : Tx} (h : mems P (k + 1) l = some l') :
    ∃ t a b u v d z, skip l = 34 :: t ∧ str t = some (a, b) ∧ ctl a = false ∧ skip b = 58 :: u ∧ P (skip u) = some v ∧ skip v = d :: z ∧ (d = 44 ∧ mems P k z = some l' ∨ d ≠ 44 ∧ d = 125 ∧ z = l') := by
  simp only [mems] at h
  cases h1 : skip l with
  | nil => rw [h1] at h; exact absurd h (by simp)
  | cons q t =>
    rw [h1] at h
    dsimp only at h
    by_cases hq : q = 34
    · rw [if_pos hq] at h
      subst hq
      cases h2 : str t with
      | none => rw [h2] at h; exact absurd h (by simp)
      | some p =>
        obtain ⟨a, b⟩ := p
        rw [h2] at h
        dsimp only at h
        cases h3 : ctl a with
        | true => rw [h3, if_pos rfl] at h; exact absurd h (by simp)
        | false =>
          rw [h3, if_neg (by simp)] at h
          cases h4 : skip b with
          | nil => rw [h4] at h; exact absurd h (by simp)
          | cons c u =>
            rw [h4] at h
            dsimp only at h
            by_cases hc : c = 58
            · rw [if_pos hc] at h
              subst hc
              cases h5 : P (skip u) with
              | none => rw [h5] at h; exact absurd h (by simp)
              | some v =>
                rw [h5] at h
                dsimp only at h
                cases h6 : skip v with
                | nil => rw [h6] at h; exact absurd h (by simp)
                | cons d z =>
                  rw [h6] at h
                  dsimp only at h
                  by_cases h44 : d = 44
                  · rw [if_pos h44] at h
                    exact ⟨t, a, b, u, v, d, z, rfl, h2, h3, h4, h5, h6, .inl ⟨h44, h⟩⟩
                  · rw [if_neg h44] at h
                    by_cases h93 : d = 125
                    · rw [if_pos h93] at h
                      exact ⟨t, a, b, u, v, d, z, rfl, h2, h3, h4, h5, h6, .inr ⟨h44, h93, Option.some.inj h⟩⟩
                    · rw [if_neg h93] at h; exact absurd h (by simp)
            · rw [if_neg hc] at h; exact absurd h (by simp)
    · rw [if_neg hq] at h; exact absurd h (by simp)
theorem mems_of {P : Tx → Option Tx} {k : Nat} {l l' t a b u v z : Tx} {d : UInt8} (h1 : skip l = 34 :: t) (h2 : str t = some (a, b)) (h3 : ctl a = false) (h4 : skip b = 58 :: u) (h5 : P (skip u) = some v)
    (h6 : skip v = d :: z) (h7 : d = 44 ∧ mems P k z = some l' ∨ d ≠ 44 ∧ d = 125 ∧ z = l') : mems P (k + 1) l = some l' := by
  simp only [mems]
  rw [h1]; dsimp only; rw [if_pos rfl, h2]; dsimp only; rw [h3, if_neg (by simp), h4]; dsimp only; rw [if_pos rfl, h5]; dsimp only; rw [h6]; dsimp only
  rcases h7 with ⟨e, h⟩ | ⟨e, e', h⟩
  · rw [if_pos e]; exact h
  · rw [if_neg e, if_pos e', h]
theorem mems_good {P : Tx → Option Tx} (hP : Good P) : ∀ k, Good (mems P k)
  | 0 => fun l l' h => absurd h (by simp [mems])
  | k + 1 => by
    have ih := mems_good hP k
    have tail : ∀ {d : UInt8} {z l' : Tx}, (d = 44 ∧ mems P k z = some l' ∨ d ≠ 44 ∧ d = 125 ∧ z = l') → ∃ p, z = p ++ l' := by
      rintro c u l' (⟨-, h⟩ | ⟨-, -, h⟩)
      · exact ih.suf h
      · exact ⟨[], h⟩
    refine good_mk (fun l l' h => ?_) (fun x r y h => ?_)
    · obtain ⟨t, a, b, u, v, d, z, h1, h2, h3, h4, h5, h6, h7⟩ := mems_key h
      have s1 : ∃ p, v = p ++ l' := suf_trans (ne_suf (cons_suf (by rw [← h6]; exact skip_suf v))) (tail h7)
      have s2 : ∃ p, b = p ++ l' := suf_trans (ne_suf (cons_suf (by rw [← h4]; exact skip_suf b))) (suf_trans (skip_suf u) (suf_trans (hP.suf h5) s1))
      have s3 : ∃ p, t = p ++ l' := suf_trans (ne_suf (str_cut h2).1) s2
      obtain ⟨p, hp, ht⟩ := cons_suf (l := l) (c := 34) (u := t) (by rw [← h1]; exact skip_suf l)
      obtain ⟨q, hq⟩ := s3
      exact ⟨p ++ q, by simp [hp], by rw [ht, hq, List.append_assoc]⟩
    · obtain ⟨t, a, b, u, v, d, z, h1, h2, h3, h4, h5, h6, h7⟩ := mems_key h
      obtain ⟨q, hz⟩ := tail h7
      rw [← List.append_assoc] at hz
      obtain ⟨p, hv⟩ := skip_suf v
      rw [h6, hz] at hv
      have hv' : v = (p ++ d :: (q ++ y)) ++ r := by rw [hv]; simp
      obtain ⟨m, hu⟩ := hP.suf h5
      rw [hv', ← List.append_assoc] at hu
      have e5 := (hP _ _ h5).2 _ r _ hu hv'
      have e6 : skip (p ++ d :: (q ++ y)) = d :: (q ++ y) := skip_cut (r := r) (by rw [← hv', h6, hz]; simp)
      obtain ⟨m2, hu2⟩ := skip_suf u
      rw [hu, ← List.append_assoc] at hu2
      have e5' := skip_cut (u := m2 ++ (m ++ (p ++ d :: (q ++ y)))) (r := r) (y := m ++ (p ++ d :: (q ++ y))) (by rw [← hu2]; exact hu)
      obtain ⟨m3, hb⟩ := skip_suf b
      rw [h4, hu2] at hb
      have hb' : b = (m3 ++ 58 :: (m2 ++ (m ++ (p ++ d :: (q ++ y))))) ++ r := by rw [hb]; simp
      have e4 := skip_cut (u := m3 ++ 58 :: (m2 ++ (m ++ (p ++ d :: (q ++ y))))) (r := r) (y := 58 :: (m2 ++ (m ++ (p ++ d :: (q ++ y))))) (by rw [← hb', h4, hu2]; simp)
      obtain ⟨m4, ht⟩ := ne_suf (str_cut h2).1
      rw [hb', ← List.append_assoc] at ht
      have e2 := (str_cut h2).2 _ r _ ht hb'
      have e1 := skip_cut (u := x) (r := r) (y := 34 :: (m4 ++ (m3 ++ 58 :: (m2 ++ (m ++ (p ++ d :: (q ++ y))))))) (by rw [h1, ht]; simp)
      refine mems_of e1 e2 h3 e4 (by rw [e5']; exact e5) e6 ?_
      rcases h7 with ⟨h44, h⟩ | ⟨h44, h125, h⟩
      · exact .inl ⟨h44, (ih _ _ h).2 _ r _ hz rfl⟩
      · refine .inr ⟨h44, h125, ?_⟩
        rw [h] at hz
        exact (List.append_cancel_right hz).symm
theorem obj_good {P : Tx → Option Tx} (hP : Good P) (k : Nat) : Good (obj P k) := by
  have hi := mems_good hP k
  have key : ∀ {l l' : Tx}, obj P k l = some l' → ∃ c u, skip l = c :: u ∧ (c = 125 ∧ u = l' ∨ c ≠ 125 ∧ mems P k (c :: u) = some l') := by
    intro l l' h
    unfold obj at h
    cases hs : skip l with
    | nil => rw [hs] at h; exact absurd h (by simp)
    | cons c u =>
      rw [hs] at h
      dsimp only at h
      by_cases h93 : c = 125
      · rw [if_pos h93] at h
        exact ⟨c, u, rfl, .inl ⟨h93, Option.some.inj h⟩⟩
      · rw [if_neg h93] at h
        exact ⟨c, u, rfl, .inr ⟨h93, h⟩⟩
  refine good_mk (fun l l' h => ?_) (fun x r y h => ?_)
  · obtain ⟨c, u, h1, ⟨-, rfl⟩ | ⟨-, h2⟩⟩ := key h
    · exact cons_suf (by rw [← h1]; exact skip_suf l)
    · exact suf_ne (skip_suf l) (by rw [h1]; exact (hi _ _ h2).1)
  · obtain ⟨c, u, h1, ⟨h93, rfl⟩ | ⟨h93, h2⟩⟩ := key h
    · have e1 : skip x = c :: y := skip_cut (r := r) (by rw [h1]; simp)
      unfold obj
      rw [e1]
      dsimp only
      rw [if_pos h93]
    · obtain ⟨d, hd⟩ := hi.suf h2
      rcases d with _ | ⟨e, d⟩
      · exfalso
        obtain ⟨b, hb, hb2⟩ := (hi _ _ h2).1
        have l1 := congrArg List.length hd
        have l2 := congrArg List.length hb2
        have l3 := List.length_pos_iff.2 hb
        simp only [List.length_append, List.nil_append] at l1 l2
        omega
      · simp only [List.cons_append, List.cons.injEq] at hd
        obtain ⟨rfl, hd⟩ := hd
        rw [← List.append_assoc] at hd
        subst hd
        have e1 : skip x = c :: (d ++ y) := skip_cut (r := r) (by rw [h1]; simp)
        unfold obj
        rw [e1]
        dsimp only
        rw [if_neg h93]
        exact (hi _ _ h2).2 _ r _ (by simp) rfl
/-- One byte ahead. -/
theorem good_cons {P Q : Tx → Option Tx} (c : UInt8) (hP : Good P) {t l' : Tx} (h : P t = some l') (hQ : ∀ t, Q (c :: t) = P t) : (∃ a, a ≠ [] ∧ c :: t = a ++ l') ∧ ∀ x r y, c :: t = x ++ r → l' = y ++ r → Q x = some y := by
  obtain ⟨⟨a, ha, hl⟩, h2⟩ := hP _ _ h
  refine ⟨⟨c :: a, by simp, by rw [hl]; rfl⟩, fun x r y hx hy => ?_⟩
  rcases x with _ | ⟨e, x⟩
  · exfalso
    have l1 := congrArg List.length hx
    have l2 := congrArg List.length hl
    have l3 := congrArg List.length hy
    simp only [List.length_append, List.nil_append, List.length_cons] at l1 l2 l3
    omega
  · simp only [List.cons_append, List.cons.injEq] at hx
    obtain ⟨rfl, hx⟩ := hx
    rw [hQ]
    exact h2 x r y hx hy
theorem val_cons (k : Nat) (c : UInt8) (t : Tx) : val (k + 1) (c :: t) = if c = 123 then obj (val k) k t else if c = 91 then arr (val k) k t else if c = 34 then quo t
      else if c = 116 then word [116, 114, 117, 101] (c :: t) else if c = 102 then word [102, 97, 108, 115, 101] (c :: t) else if c = 110 then word [110, 117, 108, 108] (c :: t)
      else num (c :: t) := rfl
/-- Where the first byte says by what a text is read. -/
theorem good_head {P Q : Tx → Option Tx} {c : UInt8} (hP : Good P) {t l' : Tx} (h : P (c :: t) = some l') (hQ : ∀ t, Q (c :: t) = P (c :: t)) : (∃ a, a ≠ [] ∧ c :: t = a ++ l') ∧ ∀ x r y, c :: t = x ++ r → l' = y ++ r → Q x = some y := by
  obtain ⟨⟨a, ha, hl⟩, h2⟩ := hP _ _ h
  refine ⟨⟨a, ha, hl⟩, fun x r y hx hy => ?_⟩
  rcases x with _ | ⟨e, x⟩
  · exfalso
    have l1 := congrArg List.length hx
    have l2 := congrArg List.length hl
    have l3 := congrArg List.length hy
    have l4 := List.length_pos_iff.2 ha
    simp only [List.length_append, List.nil_append, List.length_cons] at l1 l2 l3
    omega
  · have hx' := hx
    simp only [List.cons_append, List.cons.injEq] at hx'
    obtain ⟨rfl, -⟩ := hx'
    rw [hQ]
    exact h2 _ r y hx hy
theorem val_good : ∀ k, Good (val k)
  | 0 => fun l l' h => absurd h (by simp [val])
  | k + 1 => by
    have ih := val_good k
    intro l l' h
    cases l with
    | nil => exact absurd h (by simp [val])
    | cons c t =>
      rw [val_cons] at h
      by_cases h1 : c = 123
      · rw [if_pos h1] at h
        exact good_cons c (obj_good ih k) h fun t => by rw [val_cons, if_pos h1]
      rw [if_neg h1] at h
      by_cases h2 : c = 91
      · rw [if_pos h2] at h
        exact good_cons c (arr_good ih k) h fun t => by rw [val_cons, if_neg h1, if_pos h2]
      rw [if_neg h2] at h
      by_cases h3 : c = 34
      · rw [if_pos h3] at h
        exact good_cons c quo_good h fun t => by rw [val_cons, if_neg h1, if_neg h2, if_pos h3]
      rw [if_neg h3] at h
      by_cases h4 : c = 116
      · rw [if_pos h4] at h
        exact good_head (word_good (by simp)) h fun t => by rw [val_cons, if_neg h1, if_neg h2, if_neg h3, if_pos h4]
      rw [if_neg h4] at h
      by_cases h5 : c = 102
      · rw [if_pos h5] at h
        exact good_head (word_good (by simp)) h fun t => by rw [val_cons, if_neg h1, if_neg h2, if_neg h3, if_neg h4, if_pos h5]
      rw [if_neg h5] at h
      by_cases h6 : c = 110
      · rw [if_pos h6] at h
        exact good_head (word_good (by simp)) h fun t => by rw [val_cons, if_neg h1, if_neg h2, if_neg h3, if_neg h4, if_neg h5, if_pos h6]
      rw [if_neg h6] at h
      exact good_head num_good h fun t => by rw [val_cons, if_neg h1, if_neg h2, if_neg h3, if_neg h4, if_neg h5, if_neg h6]
end Go.Proofs.YtgemkbpilmmajaaDoor.Fc
