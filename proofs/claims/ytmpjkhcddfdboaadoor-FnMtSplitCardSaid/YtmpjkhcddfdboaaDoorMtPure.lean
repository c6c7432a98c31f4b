/- Characters of UTF-8 as pieces of bytes. No program in sight. -/
import Derived.Lib.DecodeN
import Derived.Lib.SpaceU
namespace Go.Proofs.YtmpjkhcddfdboaaDoor.M
open Go.Lib
set_option linter.unusedVariables false

/-- The character at the head of bytes, and its width. -/
def dcd (l : List UInt8) : Nat × Nat := decodeN l.length (l.getD 0 0).toNat (l.getD 1 0).toNat (l.getD 2 0).toNat (l.getD 3 0).toNat
/-- The bytes of one character. -/
structure Enc (k : List UInt8) : Prop where
  pos : 0 < k.length
  all : (dcd k).2 = k.length
  ok : 1 < k.length ∨ (k.getD 0 0).toNat < 128
def ch (k : List UInt8) : Nat := (dcd k).1

theorem decodeN_le (n a b c d : Nat) : 1 ≤ (decodeN n a b c d).2 ∧ (decodeN n a b c d).2 ≤ 4 := by
  unfold decodeN
  repeat' split
  all_goals simp only <;> omega
theorem Enc.cases {k : List UInt8} (h : Enc k) : (∃ a, k = [a] ∧ a.toNat < 128) ∨ (∃ a b, k = [a, b]) ∨ (∃ a b c, k = [a, b, c]) ∨ (∃ a b c d, k = [a, b, c, d]) := by
  have h1 := h.pos
  have h2 := h.all
  have h3 : (dcd k).2 ≤ 4 := (decodeN_le _ _ _ _ _).2
  have h4 := h.ok
  match k with
  | [] => simp at h1
  | [a] => exact .inl ⟨a, rfl, by simpa using h4⟩
  | [a, b] => exact .inr (.inl ⟨a, b, rfl⟩)
  | [a, b, c] => exact .inr (.inr (.inl ⟨a, b, c, rfl⟩))
  | [a, b, c, d] => exact .inr (.inr (.inr ⟨a, b, c, d, rfl⟩))
  | a :: b :: c :: d :: e :: r => simp at h2; omega

/-- What a sequence of two, three, four bytes is. -/
theorem two_of {a b c d n : Nat} (h : (decodeN n a b c d).2 = 2) : a / 32 = 6 ∧ 1 < n ∧ b / 64 = 2 ∧ a % 32 * 64 + b % 64 ≥ 128 ∧ (decodeN n a b c d).1 = a % 32 * 64 + b % 64 := by
  unfold decodeN at h ⊢
  repeat' split at h
  all_goals first | (simp only at h; omega) | skip
  rename_i h1 h2 h3
  rw [if_neg h1, if_pos h2, if_pos h3]
  exact ⟨h2.1, h2.2.1, h2.2.2, h3, rfl⟩
theorem three_of {a b c d n : Nat} (h : (decodeN n a b c d).2 = 3) : a / 16 = 14 ∧ 2 < n ∧ b / 64 = 2 ∧ c / 64 = 2 ∧ a % 16 * 4096 + b % 64 * 64 + c % 64 ≥ 2048 ∧ (a % 16 * 4096 + b % 64 * 64 + c % 64 < 55296 ∨ 57344 ≤ a % 16 * 4096 + b % 64 * 64 + c % 64) ∧ (decodeN n a b c d).1 = a % 16 * 4096 + b % 64 * 64 + c % 64 := by
  unfold decodeN at h ⊢
  repeat' split at h
  all_goals first | (simp only at h; omega) | skip
  rename_i h1 h2 h3 h4
  rw [if_neg h1, if_neg h2, if_pos h3, if_pos h4]
  exact ⟨h3.1, h3.2.2.1, h3.2.1.2, h3.2.2.2, h4.1, by omega, rfl⟩
theorem four_of {a b c d n : Nat} (h : (decodeN n a b c d).2 = 4) : a / 8 = 30 ∧ 3 < n ∧ b / 64 = 2 ∧ c / 64 = 2 ∧ d / 64 = 2 ∧ a % 8 * 262144 + b % 64 * 4096 + c % 64 * 64 + d % 64 ≥ 65536 ∧ a % 8 * 262144 + b % 64 * 4096 + c % 64 * 64 + d % 64 ≤ 1114111 ∧ (decodeN n a b c d).1 = a % 8 * 262144 + b % 64 * 4096 + c % 64 * 64 + d % 64 := by
  unfold decodeN at h ⊢
  repeat' split at h
  all_goals first | (simp only at h; omega) | skip
  rename_i h1 h2 h3 h4 h5
  rw [if_neg h1, if_neg h2, if_neg h3, if_pos h4, if_pos h5]
  exact ⟨h4.1, h4.2.2.2.1, h4.2.1.2, h4.2.2.1.2, h4.2.2.2.2, h5.1, by omega, rfl⟩
theorem two_mk {a b c d n : Nat} (h1 : a / 32 = 6) (h2 : 1 < n) (h3 : b / 64 = 2) (h4 : a % 32 * 64 + b % 64 ≥ 128) : decodeN n a b c d = (a % 32 * 64 + b % 64, 2) := by
  unfold decodeN
  rw [if_neg (by omega), if_pos ⟨h1, h2, h3⟩, if_pos h4]
theorem three_mk {a b c d n : Nat} (h1 : a / 16 = 14) (h2 : 2 < n) (h3 : b / 64 = 2) (h4 : c / 64 = 2) (h5 : a % 16 * 4096 + b % 64 * 64 + c % 64 ≥ 2048) (h6 : a % 16 * 4096 + b % 64 * 64 + c % 64 < 55296 ∨ 57344 ≤ a % 16 * 4096 + b % 64 * 64 + c % 64) : decodeN n a b c d = (a % 16 * 4096 + b % 64 * 64 + c % 64, 3) := by
  unfold decodeN
  rw [if_neg (by omega), if_neg (by omega), if_pos ⟨h1, ⟨by omega, h3⟩, h2, h4⟩, if_pos ⟨h5, by omega⟩]
theorem four_mk {a b c d n : Nat} (h1 : a / 8 = 30) (h2 : 3 < n) (h3 : b / 64 = 2) (h4 : c / 64 = 2) (h4' : d / 64 = 2) (h5 : a % 8 * 262144 + b % 64 * 4096 + c % 64 * 64 + d % 64 ≥ 65536) (h6 : a % 8 * 262144 + b % 64 * 4096 + c % 64 * 64 + d % 64 ≤ 1114111) : decodeN n a b c d = (a % 8 * 262144 + b % 64 * 4096 + c % 64 * 64 + d % 64, 4) := by
  unfold decodeN
  rw [if_neg (by omega), if_neg (by omega), if_neg (by omega), if_pos ⟨h1, ⟨by omega, h3⟩, ⟨by omega, h4⟩, h2, h4'⟩, if_pos ⟨h5, by omega⟩]
theorem one_mk {a b c d n : Nat} (h : a < 128) : decodeN n a b c d = (a, 1) := by
  unfold decodeN
  rw [if_pos h]

/-- Behind a character may stand what will. -/
theorem dcd_app {k : List UInt8} (h : Enc k) (r : List UInt8) : dcd (k ++ r) = dcd k := by
  have ha := h.all
  rcases h.cases with ⟨a, rfl, hk⟩ | ⟨a, b, rfl⟩ | ⟨a, b, c, rfl⟩ | ⟨a, b, c, d, rfl⟩
  · unfold dcd
    simp only [List.cons_append, List.nil_append, List.getD_cons_zero]
    rw [one_mk hk, one_mk hk]
  · have g := two_of (show (decodeN _ _ _ _ _).2 = 2 from ha)
    simp only [List.getD_cons_zero, List.getD_cons_succ] at g
    unfold dcd
    simp only [List.cons_append, List.nil_append, List.getD_cons_zero, List.getD_cons_succ]
    rw [two_mk g.1 (by simp) g.2.2.1 g.2.2.2.1, two_mk g.1 (by simp) g.2.2.1 g.2.2.2.1]
  · have g := three_of (show (decodeN _ _ _ _ _).2 = 3 from ha)
    simp only [List.getD_cons_zero, List.getD_cons_succ] at g
    unfold dcd
    simp only [List.cons_append, List.nil_append, List.getD_cons_zero, List.getD_cons_succ]
    rw [three_mk g.1 (by simp) g.2.2.1 g.2.2.2.1 g.2.2.2.2.1 g.2.2.2.2.2.1, three_mk g.1 (by simp) g.2.2.1 g.2.2.2.1 g.2.2.2.2.1 g.2.2.2.2.2.1]
  · have g := four_of (show (decodeN _ _ _ _ _).2 = 4 from ha)
    simp only [List.getD_cons_zero, List.getD_cons_succ] at g
    unfold dcd
    simp only [List.cons_append, List.nil_append, List.getD_cons_zero, List.getD_cons_succ]
    rw [four_mk g.1 (by simp) g.2.2.1 g.2.2.2.1 g.2.2.2.2.1 g.2.2.2.2.2.1 g.2.2.2.2.2.2.1, four_mk g.1 (by simp) g.2.2.1 g.2.2.2.1 g.2.2.2.2.1 g.2.2.2.2.2.1 g.2.2.2.2.2.2.1]
/-- The bytes of a character, one by one. -/
theorem Enc.bytes {k : List UInt8} (h : Enc k) : (∃ a, k = [a] ∧ a.toNat < 128 ∧ ch k = a.toNat) ∨
    (∃ a b, k = [a, b] ∧ a.toNat / 32 = 6 ∧ b.toNat / 64 = 2 ∧ a.toNat % 32 * 64 + b.toNat % 64 ≥ 128 ∧ ch k = a.toNat % 32 * 64 + b.toNat % 64) ∨
    (∃ a b c, k = [a, b, c] ∧ a.toNat / 16 = 14 ∧ b.toNat / 64 = 2 ∧ c.toNat / 64 = 2 ∧ a.toNat % 16 * 4096 + b.toNat % 64 * 64 + c.toNat % 64 ≥ 2048 ∧ ch k = a.toNat % 16 * 4096 + b.toNat % 64 * 64 + c.toNat % 64) ∨
    (∃ a b c d, k = [a, b, c, d] ∧ a.toNat / 8 = 30 ∧ b.toNat / 64 = 2 ∧ c.toNat / 64 = 2 ∧ d.toNat / 64 = 2 ∧ a.toNat % 8 * 262144 + b.toNat % 64 * 4096 + c.toNat % 64 * 64 + d.toNat % 64 ≥ 65536 ∧ a.toNat % 8 * 262144 + b.toNat % 64 * 4096 + c.toNat % 64 * 64 + d.toNat % 64 ≤ 1114111 ∧ ch k = a.toNat % 8 * 262144 + b.toNat % 64 * 4096 + c.toNat % 64 * 64 + d.toNat % 64) := by
  have ha := h.all
  rcases h.cases with ⟨a, rfl, hk⟩ | ⟨a, b, rfl⟩ | ⟨a, b, c, rfl⟩ | ⟨a, b, c, d, rfl⟩
  · refine .inl ⟨a, rfl, hk, ?_⟩
    unfold ch dcd
    rw [one_mk (by simpa using hk)]; rfl
  · have g := two_of (show (decodeN _ _ _ _ _).2 = 2 from ha)
    simp only [List.getD_cons_zero, List.getD_cons_succ] at g
    exact .inr (.inl ⟨a, b, rfl, g.1, g.2.2.1, g.2.2.2.1, g.2.2.2.2⟩)
  · have g := three_of (show (decodeN _ _ _ _ _).2 = 3 from ha)
    simp only [List.getD_cons_zero, List.getD_cons_succ] at g
    exact .inr (.inr (.inl ⟨a, b, c, rfl, g.1, g.2.2.1, g.2.2.2.1, g.2.2.2.2.1, g.2.2.2.2.2.2⟩))
  · have g := four_of (show (decodeN _ _ _ _ _).2 = 4 from ha)
    simp only [List.getD_cons_zero, List.getD_cons_succ] at g
    exact .inr (.inr (.inr ⟨a, b, c, d, rfl, g.1, g.2.2.1, g.2.2.2.1, g.2.2.2.2.1, g.2.2.2.2.2.1, g.2.2.2.2.2.2.1, g.2.2.2.2.2.2.2⟩))
theorem u8_inj {a b : UInt8} (h : a.toNat = b.toNat) : a = b := UInt8.toNat_inj.1 h
/-- One character has one encoding. -/
theorem Enc.inj {k l : List UInt8} (h : Enc k) (h' : Enc l) (e : ch k = ch l) : k = l := by
  rcases h.bytes with ⟨a, rfl, h1, hc⟩ | ⟨a, b, rfl, h1, h2, h3, hc⟩ | ⟨a, b, c, rfl, h1, h2, h3, h4, hc⟩ | ⟨a, b, c, d, rfl, h1, h2, h3, h4, h5, h6, hc⟩ <;>
  rcases h'.bytes with ⟨a', rfl, g1, gc⟩ | ⟨a', b', rfl, g1, g2, g3, gc⟩ | ⟨a', b', c', rfl, g1, g2, g3, g4, gc⟩ | ⟨a', b', c', d', rfl, g1, g2, g3, g4, g5, g6, gc⟩ <;>
  rw [hc, gc] at e
  all_goals first
    | (exfalso; omega)
    | (obtain rfl := u8_inj (a := a) (b := a') (by omega); rfl)
    | (obtain rfl := u8_inj (a := a) (b := a') (by omega); obtain rfl := u8_inj (a := b) (b := b') (by omega); rfl)
    | (obtain rfl := u8_inj (a := a) (b := a') (by omega); obtain rfl := u8_inj (a := b) (b := b') (by omega); obtain rfl := u8_inj (a := c) (b := c') (by omega); rfl)
    | (obtain rfl := u8_inj (a := a) (b := a') (by omega); obtain rfl := u8_inj (a := b) (b := b') (by omega); obtain rfl := u8_inj (a := c) (b := c') (by omega); obtain rfl := u8_inj (a := d) (b := d') (by omega); rfl)
theorem Enc.one {a : UInt8} (h : a.toNat < 128) : Enc [a] := ⟨by simp, by unfold dcd; rw [one_mk (by simpa using h)]; rfl, .inr (by simpa using h)⟩
theorem ch_one {a : UInt8} (h : a.toNat < 128) : ch [a] = a.toNat := by unfold ch dcd; rw [one_mk (by simpa using h)]; rfl
/-- An ASCII character is its byte. -/
theorem Enc.ascii {k : List UInt8} (h : Enc k) {a : UInt8} (ha : a.toNat < 128) : ch k = a.toNat ↔ k = [a] :=
  ⟨fun e => h.inj (.one ha) (by rw [e, ch_one ha]), fun e => by rw [e, ch_one ha]⟩
/-- No byte of a character but a lone one is below 128; the first is no continuation, all others are. -/
theorem Enc.small {k : List UInt8} (h : Enc k) {j : Nat} (hj : j < k.length) (hs : (k.getD j 0).toNat < 128) : k = [k.getD j 0] := by
  rcases h.bytes with ⟨a, rfl, h1, hc⟩ | ⟨a, b, rfl, h1, h2, h3, hc⟩ | ⟨a, b, c, rfl, h1, h2, h3, h4, hc⟩ | ⟨a, b, c, d, rfl, h1, h2, h3, h4, h5, h6, hc⟩
  · obtain rfl : j = 0 := by simpa using hj
    rfl
  · exfalso
    match j, hj with
    | 0, _ => simp at hs; omega
    | 1, _ => simp at hs; omega
  · exfalso
    match j, hj with
    | 0, _ => simp at hs; omega
    | 1, _ => simp at hs; omega
    | 2, _ => simp at hs; omega
  · exfalso
    match j, hj with
    | 0, _ => simp at hs; omega
    | 1, _ => simp at hs; omega
    | 2, _ => simp at hs; omega
    | 3, _ => simp at hs; omega
theorem Enc.head {k : List UInt8} (h : Enc k) : (k.getD 0 0).toNat / 64 ≠ 2 := by
  rcases h.bytes with ⟨a, rfl, h1, hc⟩ | ⟨a, b, rfl, h1, h2, h3, hc⟩ | ⟨a, b, c, rfl, h1, h2, h3, h4, hc⟩ | ⟨a, b, c, d, rfl, h1, h2, h3, h4, h5, h6, hc⟩ <;> simp <;> omega
theorem Enc.tail {k : List UInt8} (h : Enc k) {j : Nat} (h0 : 0 < j) (hj : j < k.length) : (k.getD j 0).toNat / 64 = 2 := by
  rcases h.bytes with ⟨a, rfl, h1, hc⟩ | ⟨a, b, rfl, h1, h2, h3, hc⟩ | ⟨a, b, c, rfl, h1, h2, h3, h4, hc⟩ | ⟨a, b, c, d, rfl, h1, h2, h3, h4, h5, h6, hc⟩
  · simp at hj; omega
  · match j, hj with
    | 1, _ => simpa using h2
  · match j, hj with
    | 1, _ => simpa using h2
    | 2, _ => simpa using h3
  · match j, hj with
    | 1, _ => simpa using h2
    | 2, _ => simpa using h3
    | 3, _ => simpa using h4
theorem Enc.len4 {k : List UInt8} (h : Enc k) : k.length ≤ 4 := by rw [← h.all]; exact (decodeN_le _ _ _ _ _).2

/-! ### texts as pieces -/
/-- Bytes made of characters. -/
def Cut (l : List UInt8) (ks : List (List UInt8)) : Prop := (∀ k ∈ ks, Enc k) ∧ l = ks.flatten
theorem Cut.nil : Cut [] [] := ⟨fun _ h => (by cases h), rfl⟩
theorem Cut.cons {k : List UInt8} {l : List UInt8} {ks : List (List UInt8)} (hk : Enc k) (h : Cut l ks) : Cut (k ++ l) (k :: ks) :=
  ⟨fun x hx => by
    rcases List.mem_cons.1 hx with rfl | hx
    · exact hk
    · exact h.1 x hx, by rw [h.2]; rfl⟩
theorem Cut.app {l m : List UInt8} {ks js : List (List UInt8)} (h : Cut l ks) (h' : Cut m js) : Cut (l ++ m) (ks ++ js) :=
  ⟨fun x hx => by
    rcases List.mem_append.1 hx with hx | hx
    · exact h.1 x hx
    · exact h'.1 x hx, by rw [h.2, h'.2]; simp⟩
theorem Cut.tail {l : List UInt8} {k : List UInt8} {ks : List (List UInt8)} (h : Cut l (k :: ks)) : Cut (l.drop k.length) ks :=
  ⟨fun x hx => h.1 x (List.mem_cons_of_mem _ hx), by rw [h.2]; simp⟩
theorem Cut.dcd {l : List UInt8} {k : List UInt8} {ks : List (List UInt8)} (h : Cut l (k :: ks)) : dcd l = dcd k ∧ Enc k := by
  have hk := h.1 k (List.mem_cons_self ..)
  refine ⟨?_, hk⟩
  rw [h.2, List.flatten_cons, dcd_app hk]
theorem Cut.init {l : List UInt8} {k : List UInt8} {ks : List (List UInt8)} (h : Cut l (ks ++ [k])) : Cut (l.take (l.length - k.length)) ks ∧ Enc k :=
  ⟨⟨fun x hx => h.1 x (List.mem_append_left _ hx), by rw [h.2]; simp⟩, h.1 k (by simp)⟩
theorem Cut.length_pos {l : List UInt8} {k : List UInt8} {ks : List (List UInt8)} (h : Cut l (k :: ks)) : 0 < l.length := by
  have := (h.1 k (by simp)).pos
  rw [h.2]; simp; omega
theorem Cut.nil_iff {l : List UInt8} {ks : List (List UInt8)} (h : Cut l ks) : l = [] ↔ ks = [] := by
  constructor
  · intro e
    cases ks with
    | nil => rfl
    | cons k ks => have := h.length_pos; rw [e] at this; simp at this
  · intro e; subst e; exact h.2
/-- The pieces are one way alone. -/
theorem Cut.uniq : ∀ {ks js : List (List UInt8)} {l : List UInt8}, Cut l ks → Cut l js → ks = js
  | [], js, l, h, h' => by
    have := h.nil_iff.2 rfl
    exact (h'.nil_iff.1 this).symm
  | k :: ks, [], l, h, h' => by
    have := h'.nil_iff.2 rfl
    exact absurd (h.nil_iff.1 this) (by simp)
  | k :: ks, j :: js, l, h, h' => by
    have h1 := h.dcd
    have h2 := h'.dcd
    have e : k.length = j.length := by rw [← h1.2.all, ← h1.1, h2.1, h2.2.all]
    have hkj : k = j := h1.2.inj h2.2 (by unfold ch; rw [← h1.1, h2.1])
    subst hkj
    rw [Cut.uniq h.tail h'.tail]
end Go.Proofs.YtmpjkhcddfdboaaDoor.M
