/- The places that can be reached behind each term. No program in sight. -/
import Derived.Test.YtmpjkhcddfdboaaDoorMtFit
namespace Go.Proofs.YtmpjkhcddfdboaaDoor.M
open Go.Lib
set_option linter.unusedVariables false

/-- Which places are reached behind the terms T. -/
noncomputable def reach (cs : List Nat) (T : List Gl) : List Bool := (List.range (cs.length + 1)).map fun k => fitB (cs.take k) T
/-- .. as far as place k. -/
noncomputable def upTo (cs : List Nat) (T : List Gl) (k : Nat) : List Bool := (List.range (cs.length + 1)).map fun i => if i < k then fitB (cs.take i) T else false
theorem reach_len (cs : List Nat) (T : List Gl) : (reach cs T).length = cs.length + 1 := by simp [reach]
theorem upTo_len (cs : List Nat) (T : List Gl) (k : Nat) : (upTo cs T k).length = cs.length + 1 := by simp [upTo]
theorem reach_at (cs : List Nat) (T : List Gl) {k : Nat} (h : k ≤ cs.length) : (reach cs T).getD k false = fitB (cs.take k) T := by
  unfold reach
  rw [List.getD_eq_getElem?_getD, List.getElem?_map, List.getElem?_range (by omega)]
  rfl
theorem upTo_at (cs : List Nat) (T : List Gl) {k i : Nat} (h : i ≤ cs.length) (hk : i < k) : (upTo cs T k).getD i false = fitB (cs.take i) T := by
  unfold upTo
  rw [List.getD_eq_getElem?_getD, List.getElem?_map, List.getElem?_range (by omega)]
  simp [hk]
theorem upTo_zero (cs : List Nat) (T : List Gl) : upTo cs T 0 = List.replicate (cs.length + 1) false := by
  unfold upTo
  apply List.ext_getElem?
  intro i
  rw [List.getElem?_map, List.getElem?_replicate]
  by_cases h : i < cs.length + 1
  · rw [List.getElem?_range h]; simp [h]
  · rw [List.getElem?_eq_none (by simp; omega)]; simp [h]
theorem upTo_all (cs : List Nat) (T : List Gl) : upTo cs T (cs.length + 1) = reach cs T := by
  unfold upTo reach
  apply List.map_congr_left
  intro i hi
  rw [if_pos (by simpa using hi)]
theorem upTo_set (cs : List Nat) (T : List Gl) {k : Nat} (h : k ≤ cs.length) {b : Bool} (hb : b = fitB (cs.take k) T) : (upTo cs T k).set k b = upTo cs T (k + 1) := by
  unfold upTo
  apply List.ext_getElem?
  intro i
  rw [List.getElem?_set, List.getElem?_map, List.getElem?_map]
  by_cases hi : i < cs.length + 1
  · rw [List.getElem?_range hi]
    by_cases hk : k = i
    · subst hk
      rw [if_pos rfl, if_pos (by simp; omega)]
      simp [hb]
    · rw [if_neg hk]
      simp only [Option.map_some]
      congr 1
      by_cases h1 : i < k
      · rw [if_pos h1, if_pos (by omega)]
      · rw [if_neg h1, if_neg (by omega)]
  · rw [List.getElem?_eq_none (by simp; omega)]
    by_cases hk : k = i
    · omega
    · rw [if_neg hk]; rfl
theorem upTo_skip (cs : List Nat) (T : List Gl) {k : Nat} (h : k ≤ cs.length) (hb : fitB (cs.take k) T = false) : upTo cs T k = upTo cs T (k + 1) := by
  rw [← upTo_set cs T h hb.symm]
  unfold upTo
  apply List.ext_getElem?
  intro i
  rw [List.getElem?_set, List.getElem?_map]
  by_cases hk : k = i
  · subst hk
    rw [if_pos rfl, if_pos (by simp; omega), List.getElem?_range (by omega)]
    simp
  · rw [if_neg hk]
theorem reach_start (cs : List Nat) : (List.replicate (cs.length + 1) false).set 0 true = reach cs [] := by
  unfold reach
  apply List.ext_getElem?
  intro i
  rw [List.getElem?_set, List.getElem?_map, List.getElem?_replicate]
  by_cases hi : i < cs.length + 1
  · rw [List.getElem?_range hi]
    by_cases h0 : 0 = i
    · subst h0
      rw [if_pos rfl, if_pos (by simp)]
      simp only [List.take_zero, Option.map_some, Option.some.injEq]
      exact (fitB_iff.2 (show Fit [] [] by simp [Fit])).symm
    · rw [if_neg h0, if_pos hi]
      simp only [Option.map_some, Option.some.injEq]
      exact (fitB_no fun h => by
        have h2 : cs.take i = [] := h
        have := congrArg List.length h2
        simp at this
        rcases this with h3 | h3
        · omega
        · rw [h3] at hi; simp at hi; omega).symm
  · rw [List.getElem?_eq_none (by simp; omega)]
    by_cases h0 : 0 = i
    · omega
    · rw [if_neg h0, if_neg hi]; rfl
theorem reach_end (cs : List Nat) (T : List Gl) : (reach cs T).getD cs.length false = fitB cs T := by
  rw [reach_at cs T (Nat.le_refl _), List.take_length]
theorem take_snoc' (cs : List Nat) {k : Nat} (h : k < cs.length) : cs.take (k + 1) = cs.take k ++ [cs.getD k 0] := by
  rw [List.take_succ_eq_append_getElem h, List.getD_eq_getElem?_getD, List.getElem?_eq_getElem h]; rfl
/-- The rules, term by term. -/
theorem dp_star0 (cs : List Nat) (T : List Gl) : fitB (cs.take 0) (T ++ [.star]) = fitB (cs.take 0) T := by
  apply fitB_congr
  rw [Fit.app]
  simp only [List.take_zero]
  constructor
  · rintro ⟨a, b, h, h1, _⟩
    have : a = [] := by cases a <;> simp_all
    rw [this] at h1; exact h1
  · intro h; exact ⟨[], [], rfl, h, fit_star_last []⟩
theorem dp_star (cs : List Nat) (T : List Gl) {k : Nat} (h : k < cs.length) : fitB (cs.take (k + 1)) (T ++ [.star]) = (fitB (cs.take (k + 1)) T || fitB (cs.take k) (T ++ [.star])) := by
  rw [Bool.eq_iff_iff, Bool.or_eq_true, fitB_iff, fitB_iff, fitB_iff, Fit.app, Fit.app]
  constructor
  · rintro ⟨a, b, he, h1, h2⟩
    rcases List.eq_nil_or_concat b with rfl | ⟨b', x, rfl⟩
    · left; rw [he, List.append_nil]; exact h1
    · right
      rw [take_snoc' cs h, List.concat_eq_append, ← List.append_assoc] at he
      obtain ⟨he, _⟩ := List.append_inj' he rfl
      exact ⟨a, b', he, h1, fit_star_last _⟩
  · rintro (h1 | ⟨a, b, he, h1, h2⟩)
    · exact ⟨cs.take (k + 1), [], by simp, h1, fit_star_last _⟩
    · exact ⟨a, b ++ [cs.getD k 0], by rw [take_snoc' cs h, he]; simp, h1, fit_star_last _⟩
theorem dp_one0 (cs : List Nat) (T : List Gl) : fitB (cs.take 0) (T ++ [.one]) = false := fitB_no fun h => by
  rw [Fit.app] at h
  obtain ⟨a, b, he, h1, c, d, rfl, _⟩ := h
  simp at he
theorem dp_chr0 (cs : List Nat) (T : List Gl) (x : Nat) : fitB (cs.take 0) (T ++ [.chr x]) = false := fitB_no fun h => by
  rw [Fit.app] at h
  obtain ⟨a, b, he, h1, d, rfl, _⟩ := h
  simp at he
theorem dp_one (cs : List Nat) (T : List Gl) {k : Nat} (h : k < cs.length) : fitB (cs.take (k + 1)) (T ++ [.one]) = fitB (cs.take k) T := by
  apply fitB_congr
  rw [take_snoc' cs h, fit_snoc_one]
theorem dp_chr (cs : List Nat) (T : List Gl) (x : Nat) {k : Nat} (h : k < cs.length) : fitB (cs.take (k + 1)) (T ++ [.chr x]) = (fitB (cs.take k) T && decide (x = cs.getD k 0)) := by
  rw [Bool.eq_iff_iff, Bool.and_eq_true, fitB_iff, fitB_iff, take_snoc' cs h, fit_snoc_chr, decide_eq_true_eq]
  exact ⟨fun h => ⟨h.2, h.1⟩, fun h => ⟨h.2, h.1⟩⟩
end Go.Proofs.YtmpjkhcddfdboaaDoor.M
