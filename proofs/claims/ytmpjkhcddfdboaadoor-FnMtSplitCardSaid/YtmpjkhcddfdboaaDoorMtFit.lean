/- Patterns: their terms, what fits them. No program in sight. -/
import Derived.Test.YtmpjkhcddfdboaaDoorMtPure
namespace Go.Proofs.YtmpjkhcddfdboaaDoor.M
open Go.Lib
set_option linter.unusedVariables false

inductive Gl where
  | star | one | chr (c : Nat)
deriving DecidableEq
def glOf (k : List UInt8) : Gl := if k = [42] then .star else if k = [63] then .one else .chr (ch k)
def parse : List (List UInt8) → Option (List Gl)
  | [] => some []
  | [k] => if k = [92] then none else some [glOf k]
  | k :: j :: ks => if k = [92] then (parse ks).map (.chr (ch j) :: ·) else (parse (j :: ks)).map (glOf k :: ·)
theorem parse_nil : parse [] = some [] := by unfold parse; rfl
theorem parse_esc (j : List UInt8) (ks : List (List UInt8)) : parse ([92] :: j :: ks) = (parse ks).map (.chr (ch j) :: ·) := by rw [parse]; rw [if_pos rfl]
theorem parse_esc_end : parse [[92]] = none := by rw [parse, if_pos rfl]
theorem parse_cons {k : List UInt8} (h : k ≠ [92]) (ks : List (List UInt8)) : parse (k :: ks) = (parse ks).map (glOf k :: ·) := by
  cases ks with
  | nil => rw [parse_nil]; unfold parse; rw [if_neg h]; rfl
  | cons j ks => rw [parse, if_neg h]
theorem parse_app : ∀ (n : Nat) (A B : List (List UInt8)) (ta : List Gl), A.length ≤ n → parse A = some ta → parse (A ++ B) = (parse B).map (ta ++ ·)
  | _, [], B, ta, _, h => by
    rw [parse_nil] at h
    injection h with h
    subst h
    show parse B = _
    cases parse B <;> rfl
  | 0, _ :: _, _, _, hn, _ => by simp at hn
  | n + 1, k :: A, B, ta, hn, h => by
    by_cases hk : k = [92]
    · subst hk
      match A with
      | [] => rw [parse_esc_end] at h; cases h
      | j :: A =>
        rw [parse_esc] at h
        obtain ⟨t, ht, rfl⟩ := Option.map_eq_some_iff.1 h
        rw [List.cons_append, List.cons_append, parse_esc, parse_app n A B t (by simp at hn; omega) ht]
        cases parse B <;> rfl
    · rw [parse_cons hk] at h
      obtain ⟨t, ht, rfl⟩ := Option.map_eq_some_iff.1 h
      rw [List.cons_append, parse_cons hk, parse_app n A B t (by simp at hn; omega) ht]
      cases parse B <;> rfl
theorem parse_nb : ∀ (n : Nat) (A : List (List UInt8)) (x : List UInt8), A.length ≤ n → x ≠ [92] → ∃ t, parse (A ++ [x]) = some t
  | _, [], x, _, hx => ⟨[glOf x], by rw [List.nil_append, parse_cons hx, parse_nil]; rfl⟩
  | 0, _ :: _, _, hn, _ => by simp at hn
  | n + 1, k :: A, x, hn, hx => by
    by_cases hk : k = [92]
    · subst hk
      match A with
      | [] => exact ⟨[.chr (ch x)], by rw [List.cons_append, List.nil_append, parse_esc, parse_nil]; rfl⟩
      | j :: A =>
        obtain ⟨t, ht⟩ := parse_nb n A x (by simp at hn; omega) hx
        exact ⟨_, by rw [List.cons_append, List.cons_append, parse_esc, ht]; rfl⟩
    · obtain ⟨t, ht⟩ := parse_nb n A x (by simp at hn; omega) hx
      exact ⟨_, by rw [List.cons_append, parse_cons hk, ht]; rfl⟩
theorem parse_reps : ∀ (m : Nat), parse (List.replicate (2 * m) [92]) = some (List.replicate m (.chr (ch [92])))
  | 0 => parse_nil
  | m + 1 => by
    rw [show 2 * (m + 1) = 2 * m + 1 + 1 from rfl, List.replicate_succ, List.replicate_succ, parse_esc, parse_reps m]; rfl
/-- What ends a pattern: i backslashes ahead of the last character z; ahead of them none. -/
theorem parse_last {A : List (List UInt8)} {x z : List UInt8} {i : Nat} {t : List Gl} (hx : x ≠ [92]) (h : parse (A ++ [x] ++ List.replicate i [92] ++ [z]) = some t) :
    (i % 2 = 0 → z ≠ [92] ∧ ∃ t0, parse (A ++ [x] ++ List.replicate i [92]) = some t0 ∧ t = t0 ++ [glOf z]) ∧
    (i % 2 = 1 → ∃ t0, parse (A ++ [x] ++ List.replicate (i - 1) [92]) = some t0 ∧ t = t0 ++ [.chr (ch z)]) := by
  obtain ⟨ta, hta⟩ := parse_nb A.length A x (Nat.le_refl _) hx
  constructor
  · intro hi
    obtain ⟨m, rfl⟩ : ∃ m, i = 2 * m := ⟨i / 2, by omega⟩
    have h0 := (parse_app _ _ (List.replicate (2 * m) [92]) ta (Nat.le_refl _) hta).trans (by rw [parse_reps, Option.map_some])
    rw [parse_app _ _ [z] _ (Nat.le_refl _) h0] at h
    by_cases hz : z = [92]
    · subst hz; rw [parse_esc_end] at h; cases h
    · rw [parse_cons hz, parse_nil] at h
      refine ⟨hz, _, h0, ?_⟩
      simpa using h.symm
  · intro hi
    obtain ⟨m, rfl⟩ : ∃ m, i = 2 * m + 1 := ⟨i / 2, by omega⟩
    have h0 := (parse_app _ _ (List.replicate (2 * m) [92]) ta (Nat.le_refl _) hta).trans (by rw [parse_reps, Option.map_some])
    have e : A ++ [x] ++ List.replicate (2 * m + 1) [92] ++ [z] = (A ++ [x] ++ List.replicate (2 * m) [92]) ++ [[92], z] := by
      rw [List.replicate_succ']
      simp
    rw [e, parse_app _ _ [[92], z] _ (Nat.le_refl _) h0, parse_esc, parse_nil] at h
    refine ⟨_, h0, ?_⟩
    simpa using h.symm

/-- Characters are what terms say. -/
def Fit : List Nat → List Gl → Prop
  | cs, [] => cs = []
  | cs, .star :: ts => ∃ a b, cs = a ++ b ∧ Fit b ts
  | cs, .one :: ts => ∃ c b, cs = c :: b ∧ Fit b ts
  | cs, .chr x :: ts => ∃ b, cs = x :: b ∧ Fit b ts
theorem Fit.app : ∀ {t1 : List Gl} {cs : List Nat} {t2 : List Gl}, Fit cs (t1 ++ t2) ↔ ∃ a b, cs = a ++ b ∧ Fit a t1 ∧ Fit b t2
  | [], cs, t2 => by
    constructor
    · intro h; exact ⟨[], cs, rfl, rfl, h⟩
    · rintro ⟨a, b, rfl, h1, h2⟩
      simp only [Fit] at h1
      subst h1; exact h2
  | .star :: t1, cs, t2 => by
    simp only [List.cons_append, Fit]
    constructor
    · rintro ⟨a, b, rfl, h⟩
      obtain ⟨c, d, rfl, h1, h2⟩ := Fit.app.1 h
      exact ⟨a ++ c, d, by simp, ⟨a, c, rfl, h1⟩, h2⟩
    · rintro ⟨a, b, rfl, ⟨c, d, rfl, h1⟩, h2⟩
      exact ⟨c, d ++ b, by simp, Fit.app.2 ⟨d, b, rfl, h1, h2⟩⟩
  | .one :: t1, cs, t2 => by
    simp only [List.cons_append, Fit]
    constructor
    · rintro ⟨a, b, rfl, h⟩
      obtain ⟨c, d, rfl, h1, h2⟩ := Fit.app.1 h
      exact ⟨a :: c, d, by simp, ⟨a, c, rfl, h1⟩, h2⟩
    · rintro ⟨a, b, rfl, ⟨c, d, rfl, h1⟩, h2⟩
      exact ⟨c, d ++ b, by simp, Fit.app.2 ⟨d, b, rfl, h1, h2⟩⟩
  | .chr x :: t1, cs, t2 => by
    simp only [List.cons_append, Fit]
    constructor
    · rintro ⟨b, rfl, h⟩
      obtain ⟨c, d, rfl, h1, h2⟩ := Fit.app.1 h
      exact ⟨x :: c, d, by simp, ⟨c, rfl, h1⟩, h2⟩
    · rintro ⟨a, b, rfl, ⟨d, rfl, h1⟩, h2⟩
      exact ⟨d ++ b, by simp, Fit.app.2 ⟨d, b, rfl, h1, h2⟩⟩
theorem fit_star_star {cs : List Nat} {ts : List Gl} : Fit cs (.star :: .star :: ts) ↔ Fit cs (.star :: ts) := by
  simp only [Fit]
  constructor
  · rintro ⟨a, b, rfl, c, d, rfl, h⟩; exact ⟨a ++ c, d, by simp, h⟩
  · rintro ⟨a, b, rfl, h⟩; exact ⟨[], a ++ b, rfl, a, b, rfl, h⟩
theorem fit_star_last (cs : List Nat) : Fit cs [.star] := ⟨cs, [], by simp, rfl⟩
theorem fit_star_nil {ts : List Gl} : Fit [] (.star :: ts) ↔ Fit [] ts := by
  simp only [Fit]
  constructor
  · rintro ⟨a, b, h, h2⟩
    have : b = [] := by cases b <;> simp_all
    rw [this] at h2; exact h2
  · intro h; exact ⟨[], [], rfl, h⟩
theorem fit_star_step {c : Nat} {b : List Nat} {ts : List Gl} : Fit (c :: b) (.star :: ts) ↔ Fit (c :: b) ts ∨ Fit b (.star :: ts) := by
  simp only [Fit]
  constructor
  · rintro ⟨a, d, h, h2⟩
    cases a with
    | nil => left; rw [h]; exact h2
    | cons x a =>
      right
      simp only [List.cons_append, List.cons.injEq] at h
      exact ⟨a, d, h.2, h2⟩
  · rintro (h | ⟨a, d, rfl, h⟩)
    · exact ⟨[], c :: b, rfl, h⟩
    · exact ⟨c :: a, d, rfl, h⟩
theorem fit_snoc_chr {cs : List Nat} {c x : Nat} {ts : List Gl} : Fit (cs ++ [c]) (ts ++ [.chr x]) ↔ x = c ∧ Fit cs ts := by
  rw [Fit.app]
  constructor
  · rintro ⟨a, b, h, h1, h2⟩
    simp only [Fit] at h2
    obtain ⟨b', rfl, rfl⟩ := h2
    obtain ⟨rfl, h3⟩ := List.append_inj' h rfl
    simp only [List.cons.injEq, and_true] at h3
    exact ⟨h3.symm, h1⟩
  · rintro ⟨rfl, h⟩; exact ⟨cs, [x], rfl, h, [], rfl, rfl⟩
theorem fit_snoc_one {cs : List Nat} {c : Nat} {ts : List Gl} : Fit (cs ++ [c]) (ts ++ [.one]) ↔ Fit cs ts := by
  rw [Fit.app]
  constructor
  · rintro ⟨a, b, h, h1, h2⟩
    simp only [Fit] at h2
    obtain ⟨d, b', rfl, rfl⟩ := h2
    obtain ⟨rfl, h⟩ := List.append_inj' h rfl
    exact h1
  · intro h; exact ⟨cs, [c], rfl, h, c, [], rfl, rfl⟩
theorem fit_cons_chr {c x : Nat} {cs : List Nat} {ts : List Gl} : Fit (c :: cs) (.chr x :: ts) ↔ c = x ∧ Fit cs ts := by
  simp only [Fit]
  constructor
  · rintro ⟨b, h, h2⟩
    injection h with h1 h3
    subst h3; exact ⟨h1, h2⟩
  · rintro ⟨rfl, h⟩; exact ⟨cs, rfl, h⟩
theorem fit_cons_one {c : Nat} {cs : List Nat} {ts : List Gl} : Fit (c :: cs) (.one :: ts) ↔ Fit cs ts := by
  simp only [Fit]
  constructor
  · rintro ⟨d, b, h, h2⟩
    injection h with h1 h3
    subst h3; exact h2
  · intro h; exact ⟨c, cs, rfl, h⟩
theorem fit_nil_chr {x : Nat} {ts : List Gl} : ¬ Fit [] (.chr x :: ts) := by simp [Fit]
theorem fit_nil_one {ts : List Gl} : ¬ Fit [] (.one :: ts) := by simp [Fit]

open Classical in
/-- The same as a Bool. -/
noncomputable def fitB (cs : List Nat) (ts : List Gl) : Bool := decide (Fit cs ts)
theorem fitB_iff {cs : List Nat} {ts : List Gl} : fitB cs ts = true ↔ Fit cs ts := by unfold fitB; simp
theorem fitB_congr {cs cs' : List Nat} {ts ts' : List Gl} (h : Fit cs ts ↔ Fit cs' ts') : fitB cs ts = fitB cs' ts' := by
  rw [Bool.eq_iff_iff, fitB_iff, fitB_iff]; exact h
theorem fitB_no {cs : List Nat} {ts : List Gl} (h : ¬ Fit cs ts) : fitB cs ts = false := by
  cases hb : fitB cs ts with
  | false => rfl
  | true => exact absurd (fitB_iff.1 hb) h

/-! ### the last character -/
theorem get_list (l : List UInt8) (i : Nat) : (⟨l.toArray⟩ : ByteArray).get! i = l.getD i 0 := by
  show l.toArray[i]! = _
  rw [List.getElem!_toArray, List.getD_eq_getElem?_getD, List.getElem!_eq_getElem?_getD]
  rfl
theorem decodeL_dcd (l : List UInt8) : decodeL l = dcd l := by
  unfold decodeL dcd
  rw [decode_at]
  simp only [get_list, Nat.zero_add, Nat.sub_zero]
  rfl
theorem decode_last {l k : List UInt8} {ks : List (List UInt8)} (h : Cut l (ks ++ [k])) : decodeLastL l = (ch k, k.length) := by
  have hk := h.init.2
  have hl : l = ks.flatten ++ k := by rw [h.2]; simp
  have hp := hk.pos
  have h4 := hk.len4
  have hn : l ≠ [] := by intro e; rw [e] at hl; have := congrArg List.length hl; simp at this; omega
  have hlen : l.length = ks.flatten.length + k.length := by rw [hl]; simp
  have hget : ∀ j, j < k.length → l.getD (l.length - (k.length - j)) 0 = k.getD j 0 := fun j hj => by
    rw [hlen, hl]
    rw [List.getD_eq_getElem?_getD, List.getD_eq_getElem?_getD, List.getElem?_append_right (by omega)]
    congr 2
    omega
  unfold decodeLastL
  rw [if_neg hn]
  by_cases h1 : k.length = 1
  · have e : l.getD (l.length - 1) 0 = k.getD 0 0 := by have := hget 0 hp; rw [h1] at this; exact this
    have hs : (k.getD 0 0).toNat < 128 := by have := hk.ok; omega
    rw [e, if_pos hs]
    obtain ⟨a, rfl⟩ : ∃ a, k = [a] := ⟨k.getD 0 0, hk.small (by omega) hs⟩
    simp only [List.getD_cons_zero] at hs ⊢
    rw [ch_one hs]; rfl
  · have ht : (l.getD (l.length - 1) 0).toNat / 64 = 2 := by
      have := hget (k.length - 1) (by omega)
      rw [show k.length - (k.length - 1) = 1 by omega] at this
      rw [this]; exact hk.tail (by omega) (by omega)
    rw [if_neg (by omega)]
    have hst : lastStart l = ks.flatten.length := by
      have hh := hk.head
      rw [← hget 0 hp] at hh
      have g2 := fun (h : 2 < k.length) => hget (k.length - 2) (by omega)
      have g3 := fun (h : 3 < k.length) => hget (k.length - 3) (by omega)
      unfold lastStart
      dsimp only
      rw [if_neg (show ¬ l.length < 2 by omega)]
      obtain h2 | h3 | h4 : k.length = 2 ∨ k.length = 3 ∨ k.length = 4 := by omega
      · rw [h2] at hh
        rw [if_pos (show runeStartB (l.getD (l.length - 2) 0) = true by simpa [runeStartB] using hh)]; omega
      · rw [h3] at hh
        have t2 : (l.getD (l.length - 2) 0).toNat / 64 = 2 := by
          have := g2 (by omega)
          rw [show k.length - (k.length - 2) = 2 by omega] at this
          rw [this]; exact hk.tail (by omega) (by omega)
        rw [if_neg (show ¬ runeStartB (l.getD (l.length - 2) 0) = true by simpa [runeStartB] using t2), if_neg (show ¬ l.length < 3 by omega), if_pos (show runeStartB (l.getD (l.length - 3) 0) = true by simpa [runeStartB] using hh)]; omega
      · rw [h4] at hh
        have t2 : (l.getD (l.length - 2) 0).toNat / 64 = 2 := by
          have := g2 (by omega)
          rw [show k.length - (k.length - 2) = 2 by omega] at this
          rw [this]; exact hk.tail (by omega) (by omega)
        have t3 : (l.getD (l.length - 3) 0).toNat / 64 = 2 := by
          have := g3 (by omega)
          rw [show k.length - (k.length - 3) = 3 by omega] at this
          rw [this]; exact hk.tail (by omega) (by omega)
        rw [if_neg (show ¬ runeStartB (l.getD (l.length - 2) 0) = true by simpa [runeStartB] using t2), if_neg (show ¬ l.length < 3 by omega), if_neg (show ¬ runeStartB (l.getD (l.length - 3) 0) = true by simpa [runeStartB] using t3), if_neg (show ¬ l.length < 4 by omega), if_pos (show runeStartB (l.getD (l.length - 4) 0) = true by simpa [runeStartB] using hh)]; omega
    have hd : decodeL (l.drop (lastStart l)) = (ch k, k.length) := by
      rw [hst, decodeL_dcd, hl, List.drop_left]
      exact Prod.ext rfl hk.all
    simp only [hd]
    rw [hst, if_pos hlen.symm]
end Go.Proofs.YtmpjkhcddfdboaaDoor.M
