/- What the printed functions of spec (Characters, Globs) say of texts as pieces, second part. -/
import Derived.Test.YtmpjkhcddfdboaaDoorMtSpec
import Derived.Test.YtmpjkhcddfdboaaDoorMtTxt
namespace Go.Proofs.YtmpjkhcddfdboaaDoor.M
open Go.Lib Go.RowKit Go.Proofs.YtmpjkhcddfdboaaDoorW.PrintWords Go.Proofs.YtmpjkhcddfdboaaDoor.PFnMtSplit
set_option linter.unusedVariables false
set_option linter.unusedSimpArgs false

theorem bts_drop (s : ByteArray) (i j : Nat) : (bts s i).drop j = bts s (i + j) := by unfold bts; simp
theorem bts_end (s : ByteArray) : bts s s.size = [] := by unfold bts; simp
theorem bts_zero (s : ByteArray) : bts s 0 = s.data.toList := rfl
/-- A step over the character at i. -/
theorem piece_at {s : ByteArray} {i : Nat} (h : okD (bts s i)) : ∃ K, Enc K ∧ K.length = (dcd (bts s i)).2 ∧ ch K = (dcd (bts s i)).1 ∧ bts s i = K ++ bts s (i + K.length) ∧ i + K.length ≤ s.size := by
  obtain ⟨k, r, hl, hk, hd⟩ := h.enc
  have hr : bts s (i + k.length) = r := by rw [← bts_drop, hl]; simp
  refine ⟨k, hk, hd, ?_, by rw [hr]; exact hl, ?_⟩
  · unfold ch; rw [hl, dcd_app hk]
  · have h1 := bts_len s i
    rw [hl] at h1
    simp at h1
    have := hk.pos
    omega
def chI (k : List UInt8) : Int := (ch k : Int)
def gS : Gl → S39
  | .star => ⟨true, false, 0⟩
  | .one => ⟨false, true, 0⟩
  | .chr c => ⟨false, false, (c : Int)⟩
theorem cut_step {s : ByteArray} {i : Nat} {K : List UInt8} (hK : Enc K) (hl : bts s i = K ++ bts s (i + K.length)) {ks : List (List UInt8)} (h : Cut (bts s i) ks) : ∃ ks', ks = K :: ks' ∧ Cut (bts s (i + K.length)) ks' := by
  cases ks with
  | nil =>
    have := h.nil_iff.2 rfl
    have hp := hK.pos
    rw [hl, List.append_eq_nil_iff] at this
    rw [this.1] at hp
    exact absurd hp (by decide)
  | cons k ks =>
    have h1 := h.dcd
    have h2 : dcd (bts s i) = dcd K := by rw [hl, dcd_app hK]
    have e : k = K := h1.2.inj hK (by unfold ch; rw [← h1.1, h2])
    subst e
    refine ⟨ks, rfl, ?_⟩
    have := h.tail
    rw [bts_drop] at this
    exact this
theorem cut_mk {s : ByteArray} {i : Nat} {K : List UInt8} (hK : Enc K) (hl : bts s i = K ++ bts s (i + K.length)) {ks : List (List UInt8)} (h : Cut (bts s (i + K.length)) ks) : Cut (bts s i) (K :: ks) := by
  rw [hl]; exact Cut.cons hK h

theorem chars_l0 (s : ByteArray) (hs : s.size ≤ 4294967296) : ∀ (d k : Nat) (acc : List Int) (i : Nat), s.size - i ≤ d → i ≤ s.size → acc.length ≤ i →
    (∀ ks, Cut (bts s i) ks → spec_Characters.l0 (k + d + 10) s acc (i : Int) = some (acc ++ ks.map chI, true)) ∧
    ((¬ ∃ ks, Cut (bts s i) ks) → spec_Characters.l0 (k + d + 10) s acc (i : Int) = some ([], false)) := by
  have hend : ∀ (k : Nat) (acc : List Int) (i : Nat), i = s.size → (∀ ks, Cut (bts s i) ks → spec_Characters.l0 (k + 1) s acc (i : Int) = some (acc ++ ks.map chI, true)) ∧ ((¬ ∃ ks, Cut (bts s i) ks) → spec_Characters.l0 (k + 1) s acc (i : Int) = some ([], false)) := by
    intro k acc i hi
    subst hi
    rw [bts_end]
    constructor
    · intro ks h
      obtain rfl := h.nil_iff.1 rfl
      rw [spec_Characters.l0, if_neg (by omega)]
      simp
    · intro h; exact absurd ⟨[], Cut.nil⟩ h
  intro d
  induction d with
  | zero =>
    intro k acc i hd hi ha
    exact hend (k + 9) acc i (by omega)
  | succ d ih =>
    intro k acc i hd hi ha
    by_cases he : i = s.size
    · exact hend (k + d + 10) acc i he
    have hlt : i < s.size := by omega
    have hf := char_f (s := s) (i := i) (k + d + 1) (by omega) hlt
    have hstep : spec_Characters.l0 (k + (d + 1) + 10) s acc (i : Int) = (spec_Character.f (k + d + 1 + 9) s (i : Int)).bind fun bt104 => (if bt104.2.2 = true then (if acc.length < 17592186044416 then (spec_Characters.l0 (k + d + 10) s (acc ++ [bt104.1]) (wrap64 ((i : Int) + bt104.2.1))) else (none)) else (some (([] : List Int), false))) := by
      rw [show k + (d + 1) + 10 = (k + d + 10) + 1 by omega, spec_Characters.l0, if_pos (by omega)]
    rw [hstep, hf]
    by_cases hok : okD (bts s i)
    · rw [if_pos hok]
      simp only [Option.bind_some, if_true]
      rw [if_pos (by omega)]
      obtain ⟨K, hK, hw, hc, hl, hle⟩ := piece_at hok
      rw [← hw, ← hc]
      have hp := hK.pos
      have e : wrap64 ((i : Int) + (K.length : Int)) = ((i + K.length : Nat) : Int) := by rw [w64 (by omega) (by omega)]; omega
      rw [e]
      clear e
      obtain ⟨h1, h2⟩ := ih k (acc ++ [(ch K : Int)]) (i + K.length) (by omega) hle (by simp; omega)
      constructor
      · intro ks h
        obtain ⟨ks', rfl, h'⟩ := cut_step hK hl h
        rw [h1 ks' h']
        simp [chI]
      · intro h
        exact h2 fun ⟨ks', h'⟩ => h ⟨_, cut_mk hK hl h'⟩
    · rw [if_neg hok]
      simp only [Option.bind_some]
      constructor
      · intro ks h
        have hne : bts s i ≠ [] := by intro h; have := bts_len s i; rw [h] at this; simp at this; omega
        exact (no_cut hne hok h).elim
      · intro _; rfl

theorem globs_l0 (s : ByteArray) (hs : s.size ≤ 4294967296) : ∀ (d k : Nat) (acc : List S39) (i : Nat), s.size - i ≤ d → i ≤ s.size → acc.length ≤ i →
    (∀ ks ts, Cut (bts s i) ks → parse ks = some ts → spec_Globs.l0 (k + d + 10) s acc (i : Int) = some (acc ++ ts.map gS, true)) ∧
    ((¬ ∃ ks ts, Cut (bts s i) ks ∧ parse ks = some ts) → spec_Globs.l0 (k + d + 10) s acc (i : Int) = some ([], false)) := by
  have hend : ∀ (k : Nat) (acc : List S39) (i : Nat), i = s.size → (∀ ks ts, Cut (bts s i) ks → parse ks = some ts → spec_Globs.l0 (k + 1) s acc (i : Int) = some (acc ++ ts.map gS, true)) ∧ ((¬ ∃ ks ts, Cut (bts s i) ks ∧ parse ks = some ts) → spec_Globs.l0 (k + 1) s acc (i : Int) = some ([], false)) := by
    intro k acc i hi
    subst hi
    rw [bts_end]
    constructor
    · intro ks ts h hp
      obtain rfl := h.nil_iff.1 rfl
      rw [parse_nil] at hp
      injection hp with hp
      subst hp
      rw [spec_Globs.l0, if_neg (by omega)]
      simp
    · intro h; exact absurd ⟨[], [], Cut.nil, parse_nil⟩ h
  intro d
  induction d using Nat.strongRecOn with
  | ind d ih =>
    intro k acc i hd hi ha
    by_cases he : i = s.size
    · exact hend (k + d + 9) acc i he
    have hlt : i < s.size := by omega
    obtain ⟨d, rfl⟩ : ∃ d', d = d' + 1 := ⟨d - 1, by omega⟩
    have hf := char_f (s := s) (i := i) (k + d + 1) (by omega) hlt
    have hstep : spec_Globs.l0 (k + (d + 1) + 10) s acc (i : Int) = (spec_Character.f (k + d + 1 + 9) s (i : Int)).bind fun bt110 => (if bt110.2.2 = true then (if bt110.1 = 42 then (if acc.length < 8796093022208 then (spec_Globs.l0 (k + d + 10) s (acc ++ [(⟨true, false, 0⟩ : S39)]) (wrap64 ((i : Int) + bt110.2.1))) else (none)) else (if bt110.1 = 63 then (if acc.length < 8796093022208 then (spec_Globs.l0 (k + d + 10) s (acc ++ [(⟨false, true, 0⟩ : S39)]) (wrap64 ((i : Int) + bt110.2.1))) else (none)) else (if bt110.1 = 92 then (if (wrap64 ((i : Int) + bt110.2.1)) = (s.size : Int) then (some (([] : List (S39)), false)) else ((spec_Character.f (k + d + 10) s (wrap64 ((i : Int) + bt110.2.1))).bind fun bt119 => (if bt119.2.2 = true then (if acc.length < 8796093022208 then (spec_Globs.l0 (k + d + 10) s (acc ++ [(⟨false, false, bt119.1⟩ : S39)]) (wrap64 ((wrap64 ((i : Int) + bt110.2.1)) + bt119.2.1))) else (none)) else (some (([] : List (S39)), false))))) else (if acc.length < 8796093022208 then (spec_Globs.l0 (k + d + 10) s (acc ++ [(⟨false, false, bt110.1⟩ : S39)]) (wrap64 ((i : Int) + bt110.2.1))) else (none))))) else (some (([] : List (S39)), false))) := by
      rw [show k + (d + 1) + 10 = (k + d + 10) + 1 by omega, spec_Globs.l0, if_pos (by omega)]
    rw [hstep, hf]
    clear hstep hf
    have hne : ∀ {i : Nat}, i < s.size → bts s i ≠ [] := by
      intro i hlt h
      have := bts_len s i
      rw [h] at this; simp at this; omega
    by_cases hok : okD (bts s i)
    · rw [if_pos hok]
      simp only [Option.bind_some, if_true]
      obtain ⟨K, hK, hw, hc, hl, hle⟩ := piece_at hok
      rw [← hw, ← hc]
      have hp := hK.pos
      have e : wrap64 ((i : Int) + (K.length : Int)) = ((i + K.length : Nat) : Int) := by rw [w64 (by omega) (by omega)]; omega
      rw [e]
      clear e
      have h42 := hK.ascii (a := 42) (by decide)
      have h63 := hK.ascii (a := 63) (by decide)
      have h92 := hK.ascii (a := 92) (by decide)
      have n42 : (42 : UInt8).toNat = 42 := rfl
      have n63 : (63 : UInt8).toNat = 63 := rfl
      have n92 : (92 : UInt8).toNat = 92 := rfl
      rw [n42] at h42
      rw [n63] at h63
      rw [n92] at h92
      -- a term of its own
      have plain : ∀ (g : Gl), K ≠ [92] → glOf K = g → (∀ ks ts, Cut (bts s i) ks → parse ks = some ts → spec_Globs.l0 (k + d + 10) s (acc ++ [gS g]) ((i + K.length : Nat) : Int) = some (acc ++ ts.map gS, true)) ∧ ((¬ ∃ ks ts, Cut (bts s i) ks ∧ parse ks = some ts) → spec_Globs.l0 (k + d + 10) s (acc ++ [gS g]) ((i + K.length : Nat) : Int) = some ([], false)) := by
        intro g hn hg
        obtain ⟨h1, h2⟩ := ih d (by omega) k (acc ++ [gS g]) (i + K.length) (by omega) hle (by simp; omega)
        constructor
        · intro ks ts h hpr
          obtain ⟨ks', rfl, h'⟩ := cut_step hK hl h
          rw [parse_cons hn] at hpr
          obtain ⟨t, ht, rfl⟩ := Option.map_eq_some_iff.1 hpr
          rw [h1 ks' t h' ht, hg]
          simp
        · intro h
          exact h2 fun ⟨ks', ts', h', hp'⟩ => h ⟨_, _, cut_mk hK hl h', by rw [parse_cons hn, hp']; rfl⟩
      by_cases c42 : (ch K : Int) = 42
      · rw [if_pos c42, if_pos (by omega)]
        have hk : K = [42] := h42.1 (by omega)
        exact plain .star (by rw [hk]; decide) (by unfold glOf; rw [if_pos hk])
      · rw [if_neg c42]
        by_cases c63 : (ch K : Int) = 63
        · rw [if_pos c63, if_pos (by omega)]
          have hk : K = [63] := h63.1 (by omega)
          exact plain .one (by rw [hk]; decide) (by unfold glOf; rw [if_neg (by rw [hk]; decide), if_pos hk])
        · rw [if_neg c63]
          by_cases c92 : (ch K : Int) = 92
          · rw [if_pos c92]
            have hk : K = [92] := h92.1 (by omega)
            subst hk
            simp only [List.length_cons, List.length_nil, Nat.zero_add] at hl hle ⊢
            by_cases hend2 : i + 1 = s.size
            · rw [if_pos (by omega)]
              constructor
              · intro ks ts h hpr
                obtain ⟨ks', rfl, h'⟩ := cut_step hK hl h
                simp only [List.length_cons, List.length_nil, Nat.zero_add] at h'
                rw [hend2, bts_end] at h'
                obtain rfl := h'.nil_iff.1 rfl
                rw [parse_esc_end] at hpr; cases hpr
              · intro _; rfl
            · rw [if_neg (by omega), show k + d + 10 = k + d + 1 + 9 by omega, char_f (s := s) (i := i + 1) (k + d + 1) (by omega) (by omega)]
              by_cases hok2 : okD (bts s (i + 1))
              · rw [if_pos hok2]
                simp only [Option.bind_some, if_true]
                rw [if_pos (by omega)]
                obtain ⟨J, hJ, hw2, hc2, hl2, hle2⟩ := piece_at hok2
                rw [← hw2, ← hc2]
                have hp2 := hJ.pos
                have e : wrap64 (((i + 1 : Nat) : Int) + (J.length : Int)) = ((i + 1 + J.length : Nat) : Int) := by rw [w64 (by omega) (by omega)]; omega
                rw [e]
                clear e
                have hd1 : ∃ d1, d = d1 + 1 := ⟨d - 1, by omega⟩
                obtain ⟨d1, rfl⟩ := hd1
                obtain ⟨h1, h2⟩ := ih d1 (by omega) (k + 1) (acc ++ [gS (.chr (ch J))]) (i + 1 + J.length) (by omega) hle2 (by simp; omega)
                rw [show k + 1 + d1 + 10 = k + (d1 + 1) + 1 + 9 by omega] at h1 h2
                constructor
                · intro ks ts h hpr
                  obtain ⟨ks', rfl, h'⟩ := cut_step hK hl h
                  obtain ⟨ks'', rfl, h''⟩ := cut_step hJ hl2 h'
                  rw [parse_esc] at hpr
                  obtain ⟨t, ht, rfl⟩ := Option.map_eq_some_iff.1 hpr
                  refine (h1 ks'' t h'' ht).trans ?_
                  simp
                · intro h
                  exact h2 fun ⟨ks', ts', h', hp'⟩ => h ⟨_, _, cut_mk hK hl (cut_mk hJ hl2 h'), by rw [parse_esc, hp']; rfl⟩
              · rw [if_neg hok2]
                simp only [Option.bind_some]
                constructor
                · intro ks ts h hpr
                  obtain ⟨ks', rfl, h'⟩ := cut_step hK hl h
                  exact (no_cut (hne (by omega)) hok2 h').elim
                · intro _; rfl
          · rw [if_neg c92, if_pos (by omega)]
            exact plain (.chr (ch K)) (fun hk => c92 (by have := h92.2 hk; omega)) (by unfold glOf; rw [if_neg (fun hk => c42 (by have := h42.2 hk; omega)), if_neg (fun hk => c63 (by have := h63.2 hk; omega))])
    · rw [if_neg hok]
      simp only [Option.bind_some]
      constructor
      · intro ks ts h _
        exact (no_cut (hne hlt) hok h).elim
      · intro _; rfl

theorem chars_yes {s : ByteArray} (hs : s.size ≤ 4294967296) {ks : List (List UInt8)} (h : Txt s ks) : spec_Characters.f (s.size + 10) s = some (ks.map chI, true) := by
  have := (chars_l0 s hs s.size 0 [] 0 (by omega) (by omega) (by simp)).1 ks h
  unfold spec_Characters.f
  rw [show 0 + s.size + 10 = s.size + 10 by omega] at this
  simpa using this
theorem chars_no {s : ByteArray} (hs : s.size ≤ 4294967296) (h : ¬ ∃ ks, Txt s ks) : spec_Characters.f (s.size + 10) s = some ([], false) := by
  have := (chars_l0 s hs s.size 0 [] 0 (by omega) (by omega) (by simp)).2 h
  unfold spec_Characters.f
  rw [show 0 + s.size + 10 = s.size + 10 by omega] at this
  exact this
theorem globs_yes {s : ByteArray} (hs : s.size ≤ 4294967296) {ks : List (List UInt8)} {ts : List Gl} (h : Txt s ks) (hp : parse ks = some ts) : spec_Globs.f (s.size + 10) s = some (ts.map gS, true) := by
  have := (globs_l0 s hs s.size 0 [] 0 (by omega) (by omega) (by simp)).1 ks ts h hp
  unfold spec_Globs.f
  rw [show 0 + s.size + 10 = s.size + 10 by omega] at this
  simpa using this
theorem globs_no {s : ByteArray} (hs : s.size ≤ 4294967296) (h : ¬ ∃ ks ts, Txt s ks ∧ parse ks = some ts) : spec_Globs.f (s.size + 10) s = some ([], false) := by
  have := (globs_l0 s hs s.size 0 [] 0 (by omega) (by omega) (by simp)).2 h
  unfold spec_Globs.f
  rw [show 0 + s.size + 10 = s.size + 10 by omega] at this
  exact this
end Go.Proofs.YtmpjkhcddfdboaaDoor.M
