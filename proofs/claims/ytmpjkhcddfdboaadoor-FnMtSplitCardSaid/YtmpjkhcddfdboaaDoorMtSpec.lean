/- What the printed functions of spec (Character, Characters, Globs) say of texts as pieces. -/
import Derived.Test.YtmpjkhcddfdboaaDoorMtFit
import Derived.Test.YtmpjkhcddfdboaaDoorPFnMtSplitx1
import Derived.Test.YtmpjkhcddfdboaaDoorPFnMtSplitx2
namespace Go.Proofs.YtmpjkhcddfdboaaDoor.M
open Go.Lib Go.RowKit Go.Proofs.YtmpjkhcddfdboaaDoorW.PrintWords Go.Proofs.YtmpjkhcddfdboaaDoor.PFnMtSplit
set_option linter.unusedVariables false
set_option linter.unusedSimpArgs false

theorem w64 {i : Int} (h0 : -9223372036854775808 ≤ i) (h : i ≤ 9223372036854775807) : wrap64 i = i := by
  unfold wrap64; omega
/-- Whether a character stands at the head. -/
def okD (l : List UInt8) : Prop := 0 < l.length ∧ (1 < (dcd l).2 ∨ (l.getD 0 0).toNat < 128)
instance (l : List UInt8) : Decidable (okD l) := inferInstanceAs (Decidable (_ ∧ _))
theorem Enc.okD {k : List UInt8} (h : Enc k) (r : List UInt8) : okD (k ++ r) := by
  refine ⟨by have := h.pos; simp; omega, ?_⟩
  rw [dcd_app h, h.all]
  rcases h.ok with h1 | h1
  · exact .inl h1
  · right
    have hp := h.pos
    rw [List.getD_eq_getElem?_getD, List.getElem?_append_left hp, ← List.getD_eq_getElem?_getD]; exact h1
theorem len2 {l : List UInt8} (h : 1 < l.length) : ∃ a b r, l = a :: b :: r := by
  match l, h with
  | a :: b :: r, _ => exact ⟨a, b, r, rfl⟩
theorem len3 {l : List UInt8} (h : 2 < l.length) : ∃ a b c r, l = a :: b :: c :: r := by
  match l, h with
  | a :: b :: c :: r, _ => exact ⟨a, b, c, r, rfl⟩
theorem len4 {l : List UInt8} (h : 3 < l.length) : ∃ a b c d r, l = a :: b :: c :: d :: r := by
  match l, h with
  | a :: b :: c :: d :: r, _ => exact ⟨a, b, c, d, r, rfl⟩
/-- A character that stands at the head is a piece. -/
theorem okD.enc {l : List UInt8} (h : okD l) : ∃ k r, l = k ++ r ∧ Enc k ∧ k.length = (dcd l).2 := by
  obtain ⟨hp, h⟩ := h
  have hb := decodeN_le l.length (l.getD 0 0).toNat (l.getD 1 0).toNat (l.getD 2 0).toNat (l.getD 3 0).toNat
  by_cases h1 : (l.getD 0 0).toNat < 128
  · match l, hp with
    | a :: r, _ =>
      refine ⟨[a], r, rfl, .one (by simpa using h1), ?_⟩
      unfold dcd
      rw [one_mk (by simpa using h1)]; rfl
  · have h2 : 1 < (dcd l).2 := by omega
    have hd : (dcd l).2 = 2 ∨ (dcd l).2 = 3 ∨ (dcd l).2 = 4 := by
      have := hb.2
      have e : (dcd l).2 = (decodeN l.length (l.getD 0 0).toNat (l.getD 1 0).toNat (l.getD 2 0).toNat (l.getD 3 0).toNat).2 := rfl
      omega
    rcases hd with hd | hd | hd
    · have g := two_of (show (decodeN _ _ _ _ _).2 = 2 from hd)
      obtain ⟨a, b, r, rfl⟩ := len2 g.2.1
      refine ⟨[a, b], r, rfl, ⟨by simp, ?_, .inl (by simp)⟩, by rw [hd]; rfl⟩
      simp only [List.getD_cons_zero, List.getD_cons_succ] at g
      unfold dcd
      simp only [List.getD_cons_zero, List.getD_cons_succ]
      rw [two_mk g.1 (by simp) g.2.2.1 g.2.2.2.1]; rfl
    · have g := three_of (show (decodeN _ _ _ _ _).2 = 3 from hd)
      obtain ⟨a, b, c, r, rfl⟩ := len3 g.2.1
      refine ⟨[a, b, c], r, rfl, ⟨by simp, ?_, .inl (by simp)⟩, by rw [hd]; rfl⟩
      simp only [List.getD_cons_zero, List.getD_cons_succ] at g
      unfold dcd
      simp only [List.getD_cons_zero, List.getD_cons_succ]
      rw [three_mk g.1 (by simp) g.2.2.1 g.2.2.2.1 g.2.2.2.2.1 g.2.2.2.2.2.1]; rfl
    · have g := four_of (show (decodeN _ _ _ _ _).2 = 4 from hd)
      obtain ⟨a, b, c, d, r, rfl⟩ := len4 g.2.1
      refine ⟨[a, b, c, d], r, rfl, ⟨by simp, ?_, .inl (by simp)⟩, by rw [hd]; rfl⟩
      simp only [List.getD_cons_zero, List.getD_cons_succ] at g
      unfold dcd
      simp only [List.getD_cons_zero, List.getD_cons_succ]
      rw [four_mk g.1 (by simp) g.2.2.1 g.2.2.2.1 g.2.2.2.2.1 g.2.2.2.2.2.1 g.2.2.2.2.2.2.1]; rfl
theorem no_cut {l : List UInt8} (hn : l ≠ []) (h : ¬ okD l) {ks : List (List UInt8)} (hc : Cut l ks) : False := by
  cases ks with
  | nil => exact hn (hc.nil_iff.2 rfl)
  | cons k ks =>
    have := hc.dcd.2.okD ks.flatten
    rw [← List.flatten_cons, ← hc.2] at this
    exact h this

/-! ### Character -/
def bts (s : ByteArray) (i : Nat) : List UInt8 := s.data.toList.drop i
theorem bts_len (s : ByteArray) (i : Nat) : (bts s i).length = s.size - i := by unfold bts; simp
theorem bts_get (s : ByteArray) (i j : Nat) : bt s ((i + j : Nat) : Int) = (((bts s i).getD j 0).toNat : Int) := by
  unfold bt bts
  rw [List.getD_eq_getElem?_getD, List.getElem?_drop]
  by_cases h : i + j < s.size
  · rw [dif_pos (by omega), List.getElem?_eq_getElem (by simpa using h)]
    rfl
  · rw [dif_neg (by omega), List.getElem?_eq_none (by simpa using h)]
    rfl
section
variable {s : ByteArray} {i : Nat}
/-- One round over a byte behind the first. -/
theorem l0_step {k : Nat} {c more least : Int} {j b : Nat} (hs : s.size ≤ 4611686018427387904) (hi : i + j < s.size) (hb : bt s ((i + j : Nat) : Int) = (b : Int)) (hj : (j : Int) ≤ more) (hb1 : 128 ≤ b) (hb2 : b ≤ 191) (hc : 0 ≤ c) (hc2 : c ≤ 1073741824) (hj4 : j ≤ 4) :
    spec_Character.l0 (k + 1) s (i : Int) c more least (j : Int) = spec_Character.l0 k s (i : Int) (c * 64 + b - 128) more least ((j + 1 : Nat) : Int) := by
  have e1 : wrap64 ((i : Int) + (j : Int)) = ((i + j : Nat) : Int) := by rw [w64 (by omega) (by omega)]; omega
  have e2 : wrap64 (b : Int) = (b : Int) := w64 (by omega) (by omega)
  have e3 : wrap64 (c * 64) = c * 64 := w64 (by omega) (by omega)
  have e4 : wrap64 (c * 64 + (b : Int)) = c * 64 + b := w64 (by omega) (by omega)
  have e5 : wrap64 (c * 64 + (b : Int) - 128) = c * 64 + b - 128 := w64 (by omega) (by omega)
  have e6 : wrap64 ((j : Int) + 1) = ((j + 1 : Nat) : Int) := by rw [w64 (by omega) (by omega)]; omega
  rw [spec_Character.l0]
  simp only [e1, hb, e2, e3, e4, e5, e6]
  clear e1 e2 e3 e4 e5 e6
  rw [if_pos hj, if_pos (by omega), if_pos (by omega), if_neg (by omega), if_neg (by omega)]
theorem l0_bad {k : Nat} {c more least : Int} {j b : Nat} (hs : s.size ≤ 4611686018427387904) (hi : i + j < s.size) (hb : bt s ((i + j : Nat) : Int) = (b : Int)) (hj : (j : Int) ≤ more) (hb1 : ¬ (128 ≤ b ∧ b ≤ 191)) (hb3 : b < 256) (hj4 : j ≤ 4) :
    spec_Character.l0 (k + 1) s (i : Int) c more least (j : Int) = some (65533, 1, false) := by
  have e1 : wrap64 ((i : Int) + (j : Int)) = ((i + j : Nat) : Int) := by rw [w64 (by omega) (by omega)]; omega
  have e2 : wrap64 (b : Int) = (b : Int) := w64 (by omega) (by omega)
  rw [spec_Character.l0]
  simp only [e1, hb, e2]
  clear e1 e2
  rw [if_pos hj, if_pos (by omega), if_pos (by omega)]
  by_cases h : (b : Int) < 128
  · rw [if_pos h]
  · rw [if_neg h, if_pos (by omega)]
theorem l0_end {k : Nat} {c more least : Int} {j : Nat} (hj : ¬ (j : Int) ≤ more) (hm : 0 ≤ more) (hm2 : more ≤ 4) :
    spec_Character.l0 (k + 1) s (i : Int) c more least (j : Int) = if least ≤ c ∧ c ≤ 1114111 ∧ (c < 55296 ∨ 57344 ≤ c) then some (c, more + 1, true) else some (65533, 1, false) := by
  have e6 : wrap64 (more + 1) = more + 1 := w64 (by omega) (by omega)
  rw [spec_Character.l0]
  rw [if_neg hj]
  simp only [spec_high.f, spec_low.f, e6]
  clear e6
  by_cases h1 : c < least
  · rw [if_pos h1, if_neg (by omega)]
  · rw [if_neg h1]
    by_cases h2 : c > 1114111
    · rw [if_pos h2, if_neg (by omega)]
    · rw [if_neg h2]
      by_cases h3 : 55296 ≤ c
      · rw [if_pos h3]
        simp only [Option.bind_some, decide_eq_true_eq]
        by_cases h4 : c ≤ 56319
        · rw [if_pos h4, if_neg (by omega)]
        · rw [if_neg h4, if_pos (show 56320 ≤ c by omega)]
          simp only [Option.bind_some, decide_eq_true_eq]
          by_cases h5 : c ≤ 57343
          · rw [if_pos h5, if_neg (by omega)]
          · rw [if_neg h5, if_pos (by omega)]
      · rw [if_neg h3]
        simp only [Option.bind_some]
        rw [if_neg (by decide), if_neg (show ¬ 56320 ≤ c by omega)]
        simp only [Option.bind_some]
        rw [if_neg (by decide), if_pos (by omega)]
theorem j2_eq {k : Nat} {c more least : Int} (hs : s.size ≤ 4611686018427387904) (hi : i < s.size) :
    spec_Character.j2 (k + 1) s (i : Int) c more least = if (s.size : Int) - i ≤ more then some (65533, 1, false) else spec_Character.l0 k s (i : Int) c more least ((1 : Nat) : Int) := by
  have e1 : wrap64 ((s.size : Int) - i) = (s.size : Int) - i := w64 (by omega) (by omega)
  rw [spec_Character.j2]
  simp only [e1]; rfl
theorem f_eq {k b : Nat} (hi : i < s.size) (hb : bt s (i : Int) = (b : Int)) (hb3 : b < 256) :
    spec_Character.f (k + 2) s (i : Int) = if b < 128 then some ((b : Int), 1, true) else if 194 ≤ b ∧ b ≤ 223 then spec_Character.j2 (k + 1) s (i : Int) ((b : Int) - 192) 1 128
      else if 224 ≤ b ∧ b ≤ 239 then spec_Character.j2 k s (i : Int) ((b : Int) - 224) 2 2048 else if 240 ≤ b ∧ b ≤ 244 then spec_Character.j2 k s (i : Int) ((b : Int) - 240) 3 65536 else some (65533, 1, false) := by
  have e2 : wrap64 (b : Int) = (b : Int) := w64 (by omega) (by omega)
  have e3 : wrap64 ((b : Int) - 192) = (b : Int) - 192 := w64 (by omega) (by omega)
  have e4 : wrap64 ((b : Int) - 224) = (b : Int) - 224 := w64 (by omega) (by omega)
  have e5 : wrap64 ((b : Int) - 240) = (b : Int) - 240 := w64 (by omega) (by omega)
  unfold spec_Character.f
  simp only [hb, e2]
  simp only [spec_Character.j0, spec_Character.j1, e3, e4, e5, decide_eq_true_eq]
  clear e2 e3 e4 e5
  rw [if_pos (show 0 ≤ (i : Int) by omega), if_pos (show (i : Int) < (s.size : Int) by omega)]
  by_cases h1 : b < 128
  · rw [if_pos (show (b : Int) < 128 by omega), if_pos h1]
  · rw [if_neg (show ¬ (b : Int) < 128 by omega), if_neg h1]
    by_cases h2 : 194 ≤ b
    · rw [if_pos (show (194 : Int) ≤ (b : Int) by omega)]
      by_cases h3 : b ≤ 223
      · rw [if_pos (show (b : Int) ≤ 223 by omega), if_pos (show 194 ≤ b ∧ b ≤ 223 from ⟨h2, h3⟩)]
      · rw [if_neg (show ¬ (b : Int) ≤ 223 by omega), if_neg (show ¬ (194 ≤ b ∧ b ≤ 223) by omega), if_pos (show (224 : Int) ≤ (b : Int) by omega)]
        by_cases h4 : b ≤ 239
        · rw [if_pos (show (b : Int) ≤ 239 by omega), if_pos (show 224 ≤ b ∧ b ≤ 239 by omega)]
        · rw [if_neg (show ¬ (b : Int) ≤ 239 by omega), if_neg (show ¬ (224 ≤ b ∧ b ≤ 239) by omega), if_pos (show (240 : Int) ≤ (b : Int) by omega)]
          by_cases h5 : b ≤ 244
          · rw [if_pos (show (b : Int) ≤ 244 by omega), if_pos (show 240 ≤ b ∧ b ≤ 244 by omega)]
          · rw [if_neg (show ¬ (b : Int) ≤ 244 by omega), if_neg (show ¬ (240 ≤ b ∧ b ≤ 244) by omega)]
    · rw [if_neg (show ¬ (194 : Int) ≤ (b : Int) by omega), if_neg (show ¬ (194 ≤ b ∧ b ≤ 223) by omega), if_neg (show ¬ (224 ≤ b ∧ b ≤ 239) by omega), if_neg (show ¬ (240 ≤ b ∧ b ≤ 244) by omega)]
      rw [if_neg (by decide), if_neg (show ¬ (224 : Int) ≤ (b : Int) by omega), if_neg (by decide), if_neg (show ¬ (240 : Int) ≤ (b : Int) by omega)]
theorem char_core (k : Nat) {n b0 b1 b2 b3 : Nat} (hs : s.size ≤ 4611686018427387904) (hi : i < s.size) (hl : n = s.size - i) (g0 : bt s ((i + 0 : Nat) : Int) = (b0 : Int)) (g1 : bt s ((i + 1 : Nat) : Int) = (b1 : Int)) (g2 : bt s ((i + 2 : Nat) : Int) = (b2 : Int)) (g3 : bt s ((i + 3 : Nat) : Int) = (b3 : Int))
    (p0 : b0 < 256) (p1 : b1 < 256) (p2 : b2 < 256) (p3 : b3 < 256) :
    spec_Character.f (k + 9) s (i : Int) = if 0 < n ∧ (1 < (decodeN n b0 b1 b2 b3).2 ∨ b0 < 128) then some (((decodeN n b0 b1 b2 b3).1 : Int), ((decodeN n b0 b1 b2 b3).2 : Int), true) else some (65533, 1, false) := by
  simp only [Nat.add_zero] at g0
  rw [f_eq (k := k + 7) hi g0 (by omega)]
  by_cases h1 : b0 < 128
  · rw [if_pos h1, one_mk h1, if_pos ⟨by omega, .inr h1⟩]; rfl
  rw [if_neg h1]
  have hno : ∀ {x : Option (Int × Int × Bool)}, (decodeN n b0 b1 b2 b3).2 = 1 → x = some (65533, 1, false) → x = if 0 < n ∧ (1 < (decodeN n b0 b1 b2 b3).2 ∨ b0 < 128) then some (((decodeN n b0 b1 b2 b3).1 : Int), ((decodeN n b0 b1 b2 b3).2 : Int), true) else some (65533, 1, false) := fun hw hx => by
    rw [hx, if_neg (by omega)]
  have hle := decodeN_le n b0 b1 b2 b3
  have hw1 : ∀ {x : Option (Int × Int × Bool)}, ¬ (decodeN n b0 b1 b2 b3).2 = 2 → ¬ (decodeN n b0 b1 b2 b3).2 = 3 → ¬ (decodeN n b0 b1 b2 b3).2 = 4 → x = some (65533, 1, false) → x = if 0 < n ∧ (1 < (decodeN n b0 b1 b2 b3).2 ∨ b0 < 128) then some (((decodeN n b0 b1 b2 b3).1 : Int), ((decodeN n b0 b1 b2 b3).2 : Int), true) else some (65533, 1, false) := fun w2 w3 w4 hx => hno (by omega) hx
  by_cases hC : 194 ≤ b0 ∧ b0 ≤ 223
  · rw [if_pos hC, j2_eq hs hi]
    by_cases hn : (s.size : Int) - i ≤ 1
    · rw [if_pos hn]
      exact hw1 (fun h => by have := two_of h; omega) (fun h => by have := three_of h; omega) (fun h => by have := four_of h; omega) rfl
    · rw [if_neg hn]
      by_cases hb : 128 ≤ b1 ∧ b1 ≤ 191
      · rw [l0_step (k := k + 6) hs (by omega) g1 (by omega) hb.1 hb.2 (by omega) (by omega) (by omega), l0_end (by omega) (by omega) (by omega), if_pos (by omega)]
        rw [two_mk (by omega) (by omega) (by omega) (by omega), if_pos ⟨by omega, .inl (show 1 < 2 by decide)⟩]
        simp only [Option.some.injEq, Prod.mk.injEq, and_true]
        omega
      · rw [l0_bad (k := k + 6) hs (by omega) g1 (by omega) hb (by omega) (by omega)]
        exact hw1 (fun h => by have := two_of h; omega) (fun h => by have := three_of h; omega) (fun h => by have := four_of h; omega) rfl
  rw [if_neg hC]
  by_cases hE : 224 ≤ b0 ∧ b0 ≤ 239
  · rw [if_pos hE, j2_eq (k := k + 6) hs hi]
    by_cases hn : (s.size : Int) - i ≤ 2
    · rw [if_pos hn]
      exact hw1 (fun h => by have := two_of h; omega) (fun h => by have := three_of h; omega) (fun h => by have := four_of h; omega) rfl
    · rw [if_neg hn]
      by_cases hb : 128 ≤ b1 ∧ b1 ≤ 191
      · rw [l0_step (k := k + 5) hs (by omega) g1 (by omega) hb.1 hb.2 (by omega) (by omega) (by omega)]
        by_cases hb' : 128 ≤ b2 ∧ b2 ≤ 191
        · rw [l0_step (k := k + 4) hs (by omega) g2 (by omega) hb'.1 hb'.2 (by omega) (by omega) (by omega), l0_end (by omega) (by omega) (by omega)]
          by_cases hv : b0 % 16 * 4096 + b1 % 64 * 64 + b2 % 64 ≥ 2048 ∧ (b0 % 16 * 4096 + b1 % 64 * 64 + b2 % 64 < 55296 ∨ 57344 ≤ b0 % 16 * 4096 + b1 % 64 * 64 + b2 % 64)
          · rw [if_pos (by omega), three_mk (by omega) (by omega) (by omega) (by omega) hv.1 hv.2, if_pos ⟨by omega, .inl (show 1 < 3 by decide)⟩]
            simp only [Option.some.injEq, Prod.mk.injEq, and_true]
            omega
          · rw [if_neg (by omega)]
            exact hw1 (fun h => by have := two_of h; omega) (fun h => by have := three_of h; omega) (fun h => by have := four_of h; omega) rfl
        · rw [l0_bad (k := k + 4) hs (by omega) g2 (by omega) hb' (by omega) (by omega)]
          exact hw1 (fun h => by have := two_of h; omega) (fun h => by have := three_of h; omega) (fun h => by have := four_of h; omega) rfl
      · rw [l0_bad (k := k + 5) hs (by omega) g1 (by omega) hb (by omega) (by omega)]
        exact hw1 (fun h => by have := two_of h; omega) (fun h => by have := three_of h; omega) (fun h => by have := four_of h; omega) rfl
  rw [if_neg hE]
  by_cases hF : 240 ≤ b0 ∧ b0 ≤ 244
  · rw [if_pos hF, j2_eq (k := k + 6) hs hi]
    by_cases hn : (s.size : Int) - i ≤ 3
    · rw [if_pos hn]
      exact hw1 (fun h => by have := two_of h; omega) (fun h => by have := three_of h; omega) (fun h => by have := four_of h; omega) rfl
    · rw [if_neg hn]
      by_cases hb : 128 ≤ b1 ∧ b1 ≤ 191
      · rw [l0_step (k := k + 5) hs (by omega) g1 (by omega) hb.1 hb.2 (by omega) (by omega) (by omega)]
        by_cases hb' : 128 ≤ b2 ∧ b2 ≤ 191
        · rw [l0_step (k := k + 4) hs (by omega) g2 (by omega) hb'.1 hb'.2 (by omega) (by omega) (by omega)]
          by_cases hb'' : 128 ≤ b3 ∧ b3 ≤ 191
          · rw [l0_step (k := k + 3) hs (by omega) g3 (by omega) hb''.1 hb''.2 (by omega) (by omega) (by omega), l0_end (by omega) (by omega) (by omega)]
            by_cases hv : b0 % 8 * 262144 + b1 % 64 * 4096 + b2 % 64 * 64 + b3 % 64 ≥ 65536 ∧ b0 % 8 * 262144 + b1 % 64 * 4096 + b2 % 64 * 64 + b3 % 64 ≤ 1114111
            · rw [if_pos (by omega), four_mk (by omega) (by omega) (by omega) (by omega) (by omega) hv.1 hv.2, if_pos ⟨by omega, .inl (show 1 < 4 by decide)⟩]
              simp only [Option.some.injEq, Prod.mk.injEq, and_true]
              omega
            · rw [if_neg (by omega)]
              exact hw1 (fun h => by have := two_of h; omega) (fun h => by have := three_of h; omega) (fun h => by have := four_of h; omega) rfl
          · rw [l0_bad (k := k + 3) hs (by omega) g3 (by omega) hb'' (by omega) (by omega)]
            exact hw1 (fun h => by have := two_of h; omega) (fun h => by have := three_of h; omega) (fun h => by have := four_of h; omega) rfl
        · rw [l0_bad (k := k + 4) hs (by omega) g2 (by omega) hb' (by omega) (by omega)]
          exact hw1 (fun h => by have := two_of h; omega) (fun h => by have := three_of h; omega) (fun h => by have := four_of h; omega) rfl
      · rw [l0_bad (k := k + 5) hs (by omega) g1 (by omega) hb (by omega) (by omega)]
        exact hw1 (fun h => by have := two_of h; omega) (fun h => by have := three_of h; omega) (fun h => by have := four_of h; omega) rfl
  rw [if_neg hF]
  exact hw1 (fun h => by have := two_of h; omega) (fun h => by have := three_of h; omega) (fun h => by have := four_of h; omega) rfl
/-- Character, as the pieces go. -/
theorem char_f (k : Nat) (hs : s.size ≤ 4611686018427387904) (hi : i < s.size) :
    spec_Character.f (k + 9) s (i : Int) = if okD (bts s i) then some (((dcd (bts s i)).1 : Int), ((dcd (bts s i)).2 : Int), true) else some (65533, 1, false) := by
  have h := char_core k hs hi (bts_len s i) (bts_get s i 0) (bts_get s i 1) (bts_get s i 2) (bts_get s i 3) ((bts s i).getD 0 0).toNat_lt ((bts s i).getD 1 0).toNat_lt ((bts s i).getD 2 0).toNat_lt ((bts s i).getD 3 0).toNat_lt
  rw [h]
  by_cases hok : okD (bts s i)
  · rw [if_pos hok]; exact if_pos hok
  · rw [if_neg hok]; exact if_neg hok
end
end Go.Proofs.YtmpjkhcddfdboaaDoor.M
