/- A value behind blanks in a text that is cut off, in plain Lean: no program in sight. -/
import Derived.Test.YtkdkdhcjpgmjdaaGreatDoorJpStreamP
namespace Go.Proofs.YtkdkdhcjpgmjdaaGreatDoor.Jp
open L
set_option linter.unusedVariables false
set_option linter.unusedSimpArgs false
set_option linter.unusedSectionVars false

theorem getT_blank (sq : Bool) {bl : Tx} (h : ∀ c ∈ bl, blankB c = true) : getT sq bl = none := by
  have e := tw_app (p := blankB) (a := bl) (r := []) h (.inl rfl)
  rw [List.append_nil] at e
  unfold getT nxt
  rw [e, if_neg (by omega)]
  rfl
theorem getT_piece (sq : Bool) {bl a : Tx} {c : UInt8} (h : ∀ c ∈ bl, blankB c = true) (hc : blankB c = false) : getT sq (bl ++ (c :: a)) = some (bl.length, gty sq (c :: a)) := by
  have e := tw_app (p := blankB) (a := bl) (r := c :: a) h (.inr ⟨c, a, rfl, hc⟩)
  unfold getT nxt
  rw [e, if_pos (by simp), Option.map_some, List.drop_left]
/-- The blanks ahead of what stands behind i. -/
theorem skip_blanks {s : ByteArray} {i : Nat} (hi : i ≤ s.size) : ∀ c ∈ seg s i (L.skip isBlank s i), blankB c = true := by
  have h1 := skip_tw s (i := i) (Nat.le_refl _)
  have e : seg s i (L.skip isBlank s i) = ((tx s).drop i).takeWhile blankB := by
    unfold seg
    rw [h1, Nat.add_sub_cancel_left]
    have e := congrArg (List.take (((tx s).drop i).takeWhile blankB).length) (List.takeWhile_append_dropWhile (p := blankB) (l := (tx s).drop i))
    rw [List.take_left] at e
    exact e.symm
  rw [e]
  intro c hc
  have := List.all_takeWhile (p := blankB) (l := (tx s).drop i)
  rw [List.all_eq_true] at this
  exact this c hc
theorem skip_head {s : ByteArray} {i : Nat} {c : UInt8} (hx : (c.toNat : Int) = bt s (L.skip isBlank s i)) (hl : L.skip isBlank s i < s.size) : blankB c = false := by
  have h1 := skip_tw s (i := i) (Nat.le_refl _)
  have htw := List.takeWhile_append_dropWhile (p := blankB) (l := (tx s).drop i)
  have hdw : ((tx s).drop i).dropWhile blankB = (tx s).drop (L.skip isBlank s i) := by
    have e := congrArg (List.drop (((tx s).drop i).takeWhile blankB).length) htw
    rw [List.drop_left, List.drop_drop, ← h1] at e
    exact e
  obtain ⟨d, h2, h3, _⟩ := tx_at s _ hl
  rw [h2] at hdw
  have := dw_head hdw
  have e : c = d := by
    rw [← UInt8.toNat_inj]
    omega
  rw [e]; exact this
/-- The text up to m. -/
theorem take_drop (l : Tx) (i m : Nat) : (l.take m).drop i = (l.drop i).take (m - i) := List.drop_take
/-- A value that is read behind blanks at i, in the text cut off at m. -/
theorem getT_kid {s : ByteArray} {n i m : Nat} {p : Pl} (sq : Bool) (hi : i ≤ s.size) (hlt : L.skip isBlank s i < s.size) (hv : valN s n (L.skip isBlank s i) = some (p.e, p)) :
    (m ≤ L.skip isBlank s i → getT sq (((tx s).take m).drop i) = none) ∧
    (L.skip isBlank s i < m → m < p.e → getT sq (((tx s).take m).drop i) = some (L.skip isBlank s i - i, cutGt p.kind (m - L.skip isBlank s i))) ∧
    (p.e ≤ m → (p.kind ≤ 3 → p.e = m ∨ Fol ((tx s).drop p.e)) → getT sq (((tx s).take m).drop i) = some (L.skip isBlank s i - i, .ok (jk p.kind) (p.e - L.skip isBlank s i))) := by
  obtain ⟨k1, k2, -⟩ := vok _ _ _ _ (by omega) hv
  have hle := skip_le isBlank s i
  have hbl := skip_blanks hi
  have hbl_len := seg_len (s := s) (i := i) (j := L.skip isBlank s i) (by omega)
  obtain ⟨c, hc, hx⟩ := seg_cons k1 k2
  have hnb := skip_head hx hlt
  have hsplit : (tx s).drop i = seg s i (L.skip isBlank s i) ++ (seg s (L.skip isBlank s i) p.e ++ (tx s).drop p.e) := by
    rw [← seg_drop (by omega) k2, ← seg_drop hle (by omega)]
  have hlen := seg_len (s := s) (i := L.skip isBlank s i) (j := p.e) k2
  refine ⟨fun hm => ?_, fun h1 h2 => ?_, fun h1 h2 => ?_⟩
  · rw [take_drop, hsplit, List.take_append_of_le_length (by rw [hbl_len]; omega)]
    exact getT_blank sq fun c hc => hbl c (List.mem_of_mem_take hc)
  · rw [take_drop, hsplit, List.take_append, List.take_of_length_le (by rw [hbl_len]; omega), hbl_len, List.take_append_of_le_length (by rw [hlen]; omega),
      show m - i - (L.skip isBlank s i - i) = m - L.skip isBlank s i by omega]
    have hg := gty_cut sq (by omega) hv (m := m - L.skip isBlank s i) (by omega) (by omega)
    rw [hc, take_cons (by omega)] at hg ⊢
    rw [getT_piece sq hbl hnb, hg, hbl_len]
  · have hr : ((tx s).drop i).take (m - i) = seg s i (L.skip isBlank s i) ++ (seg s (L.skip isBlank s i) p.e ++ ((tx s).drop p.e).take (m - p.e)) := by
      rw [hsplit, List.take_append, List.take_of_length_le (by rw [hbl_len]; omega), hbl_len, List.take_append, List.take_of_length_le (by rw [hlen]; omega), hlen]
      congr 3
      omega
    have hf : p.kind ≤ 3 → Fol (((tx s).drop p.e).take (m - p.e)) := fun hk => by
      rcases h2 hk with e | hf
      · rw [← e, Nat.sub_self]; exact .inl rfl
      · rcases hf with e | ⟨c, t, e, hd⟩
        · rw [e]; exact .inl (by simp)
        · by_cases hz : m - p.e = 0
          · rw [hz]; exact .inl rfl
          · rw [e, take_cons (by omega)]; exact .inr ⟨c, _, rfl, hd⟩
    have hg := gty_val sq (by omega) hv _ hf
    rw [take_drop, hr]
    rw [hc, List.cons_append] at hg ⊢
    rw [getT_piece sq hbl hnb, hg, hbl_len]

/-! ### the elements of an array -/
/-- A value is read behind the blanks at off. -/
def Rdv (s : ByteArray) (n off : Nat) (q : Pl) : Prop := off ≤ s.size ∧ L.skip isBlank s off < s.size ∧ valN s n (L.skip isBlank s off) = some (q.e, q) ∧ q.b = L.skip isBlank s off ∧ q.e ≤ s.size ∧ q.b < q.e ∧ q.kind ≤ 6 ∧ (q.kind = 4 → q.b + 2 ≤ q.e)
theorem rdv_of {s : ByteArray} {n off j : Nat} {q : Pl} (ho : off ≤ s.size) (hl : L.skip isBlank s off ≤ s.size) (h : valN s n (L.skip isBlank s off) = some (j, q)) : Rdv s n off q ∧ q.e = j := by
  have hv := vok _ _ _ _ hl h
  obtain ⟨h1, h2, -, hb, he, -, -, hS, -, h6⟩ := hv
  subst he
  exact ⟨⟨ho, by omega, h, hb, h2, by omega, h6, fun h4 => by have := (hS h4).2.1; omega⟩, rfl⟩
/-- Elements from off on; the array ends at E. -/
def EChain (s : ByteArray) (n E : Nat) : Nat → List Pl → Prop
  | _, [] => False
  | off, [q] => Rdv s n off q ∧ bt s (L.skip isBlank s q.e) = 93 ∧ L.skip isBlank s q.e + 1 = E
  | off, q :: r :: qs => Rdv s n off q ∧ bt s (L.skip isBlank s q.e) = 44 ∧ EChain s n E (L.skip isBlank s q.e + 1) (r :: qs)
theorem EChain.head {s : ByteArray} {n E off : Nat} {q : Pl} {qs : List Pl} (h : EChain s n E off (q :: qs)) : Rdv s n off q := by
  cases qs with
  | nil => exact h.1
  | cons r qs => exact h.1
theorem echain_of {s : ByteArray} {n : Nat} : ∀ {k off : Nat} {acc : List Pl} {j : Nat} {ps : List Pl}, off ≤ s.size → elemsN (valN s n) s k (L.skip isBlank s off) acc = some (j, ps) → ∃ qs, ps = acc ++ qs ∧ EChain s n j off qs
  | 0, _, _, _, _, _, h => by cases h
  | k + 1, off, acc, j, ps, hi, h => by
    have hsk := skip_top isBlank s hi
    unfold elemsN at h
    split at h
    · cases h
    · rename_i l p hl
      obtain ⟨hr, rfl⟩ := rdv_of hi hsk hl
      have h3 := skip_top isBlank s hr.2.2.2.2.1
      split at h
      · rename_i hc
        simp only [Option.some.injEq, Prod.mk.injEq] at h
        obtain ⟨rfl, rfl⟩ := h
        exact ⟨[p], rfl, hr, hc, rfl⟩
      · split at h
        · rename_i hc
          have h4 := lt_of_bt (s := s) (i := L.skip isBlank s p.e) (by omega)
          obtain ⟨qs, rfl, hq⟩ := echain_of (off := L.skip isBlank s p.e + 1) (by omega) h
          cases qs with
          | nil => exact absurd hq id
          | cons r qs => exact ⟨p :: r :: qs, by simp, hr, hc, hq⟩
        · cases h
/-- An array's inside. -/
theorem arr_in {s : ByteArray} {n i j : Nat} {p : Pl} (hi : i ≤ s.size) (h : valN s (n + 1) i = some (j, p)) (hk : p.kind = 5) :
    bt s i = 91 ∧ i < s.size ∧ ((p.kids = [] ∧ bt s (L.skip isBlank s (i + 1)) = 93 ∧ L.skip isBlank s (i + 1) + 1 = j) ∨ EChain s n j (i + 1) p.kids) := by
  unfold valN at h
  split at h
  · simp only [Option.map_eq_some_iff, Prod.mk.injEq] at h
    obtain ⟨⟨a, b⟩, h1, rfl, rfl⟩ := h
    cases hk
  · split at h
    · rename_i hb
      have h0 := lt_of_bt (s := s) (i := i) (by omega)
      simp only [Option.map_eq_some_iff, Prod.mk.injEq] at h
      obtain ⟨⟨a, b⟩, h1, rfl, rfl⟩ := h
      refine ⟨hb, h0, ?_⟩
      unfold elemsAt at h1
      split at h1
      · rename_i hc
        simp only [Option.some.injEq, Prod.mk.injEq] at h1
        obtain ⟨rfl, rfl⟩ := h1
        exact .inl ⟨rfl, hc, rfl⟩
      · obtain ⟨qs, e, hq⟩ := echain_of (off := i + 1) (by omega) h1
        rw [List.nil_append] at e
        subst e
        exact .inr hq
    · split at h
      · simp only [Option.map_eq_some_iff, Prod.mk.injEq] at h
        obtain ⟨a, h1, rfl, rfl⟩ := h
        cases hk
      · split at h
        · simp only [Option.map_eq_some_iff, Prod.mk.injEq] at h
          obtain ⟨a, h1, rfl, rfl⟩ := h
          cases hk
        · split at h
          · simp only [Option.some.injEq, Prod.mk.injEq] at h
            obtain ⟨rfl, rfl⟩ := h
            cases hk
          · split at h
            · simp only [Option.some.injEq, Prod.mk.injEq] at h
              obtain ⟨rfl, rfl⟩ := h
              cases hk
            · split at h
              · simp only [Option.some.injEq, Prod.mk.injEq] at h
                obtain ⟨rfl, rfl⟩ := h
                cases hk
              · cases h
/-- What stands behind an element ends a word or a number. -/
theorem echain_fol {s : ByteArray} {n E off : Nat} {q : Pl} {qs : List Pl} (h : EChain s n E off (q :: qs)) : Fol ((tx s).drop q.e) := by
  have hr := h.head
  have hc : bt s (L.skip isBlank s q.e) = 93 ∨ bt s (L.skip isBlank s q.e) = 44 := by
    cases qs with
    | nil => exact .inl h.2.1
    | cons r qs => exact .inr h.2.1
  have hle := skip_le isBlank s q.e
  have hlt := lt_of_bt (s := s) (i := L.skip isBlank s q.e) (by omega)
  obtain ⟨c, h1, h2, _⟩ := tx_at s q.e (by omega)
  refine .inr ⟨c, _, h1, ?_⟩
  have hb : isBlank (bt s q.e) = true ∨ bt s q.e = 93 ∨ bt s q.e = 44 := by
    by_cases hb : isBlank (bt s q.e) = true
    · exact .inl hb
    · rw [skip_no fun h => hb h.2] at hc; exact .inr hc
  unfold dlm
  simp only [Bool.or_eq_true, beq_iff_eq, u8 h2]
  have e32 : ((32 : UInt8).toNat : Int) = 32 := rfl
  have e10 : ((10 : UInt8).toNat : Int) = 10 := rfl
  have e13 : ((13 : UInt8).toNat : Int) = 13 := rfl
  have e9 : ((9 : UInt8).toNat : Int) = 9 := rfl
  have e44 : ((44 : UInt8).toNat : Int) = 44 := rfl
  have e93 : ((93 : UInt8).toNat : Int) = 93 := rfl
  rw [e32, e10, e13, e9, e44, e93]
  unfold isBlank at hb
  simp only [Bool.or_eq_true, beq_iff_eq] at hb
  omega
end Go.Proofs.YtkdkdhcjpgmjdaaGreatDoor.Jp
