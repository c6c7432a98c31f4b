/- The walks of errors.New and of skipWS. -/
import Derived.Test.YtgemkbpilmmajaaDoorFcPure
import Derived.Deep.DeepCutAuto
import Derived.Deep.CutBlock
namespace Go.Proofs.YtgemkbpilmmajaaDoor.Fc
open Go.RowKit L
set_option linter.unusedVariables false
set_option linter.unusedSimpArgs false
set_option linter.unusedSectionVars false

/-- A text's bytes. -/
def tx (s : ByteArray) : Tx := s.data.toList
theorem tx_len (s : ByteArray) : (tx s).length = s.size := by simp [tx]
theorem tx_ext (s : ByteArray) (i : Nat) : tx (s.extract i s.size) = (tx s).drop i := by
  unfold tx
  rw [ByteArray.data_extract]
  simp only [Array.toList_extract, List.extract_eq_take_drop]
  exact List.take_of_length_le (by simp)
theorem tx_pre (s : ByteArray) (i : Nat) : tx (s.extract 0 i) = (tx s).take i := by
  unfold tx
  rw [ByteArray.data_extract]
  simp [List.extract_eq_take_drop]
/-- The byte at a place, whole. -/
theorem tx_at (s : ByteArray) (i : Nat) (h : i < s.size) : ∃ c : UInt8, (tx s).drop i = c :: (tx s).drop (i + 1) ∧ (c.toNat : Int) = bt s i ∧ (tx s)[i]? = some c := by
  have hl : i < (tx s).length := by rw [tx_len]; exact h
  refine ⟨(tx s)[i], List.drop_eq_getElem_cons hl, ?_, List.getElem?_eq_getElem hl⟩
  rw [← getD_bt, List.getD_eq_getElem?_getD]
  unfold tx at hl ⊢
  rw [List.getElem?_eq_getElem hl]
  rfl
theorem u8 {c : UInt8} {x : Int} (h : (c.toNat : Int) = x) (k : UInt8) : c = k ↔ x = (k.toNat : Int) := by
  rw [← h, ← UInt8.toNat_inj]
  omega
theorem blank_iff {c : UInt8} {x : Int} (h : (c.toNat : Int) = x) : blank c = true ↔ x = 32 ∨ x = 10 ∨ x = 9 ∨ x = 13 := by
  unfold blank
  simp only [Bool.or_eq_true, beq_iff_eq, u8 h, or_assoc]
  rfl
theorem blank_no {c : UInt8} {x : Int} (h : (c.toNat : Int) = x) (hb : ¬ blank c = true) : ¬ x = 32 ∧ ¬ x = 10 ∧ ¬ x = 9 ∧ ¬ x = 13 := by
  rw [blank_iff h] at hb
  omega
theorem skip_yes {c : UInt8} {t : Tx} (h : blank c = true) : skip (c :: t) = skip t := List.dropWhile_cons_of_pos h
theorem skip_no {c : UInt8} {t : Tx} (h : ¬ blank c = true) : skip (c :: t) = c :: t := List.dropWhile_cons_of_neg h
theorem below_of {w w1 w2 : World} (h : Below w.heap.size w w1) (k : Below w1.heap.size w1 w2) : Below w.heap.size w w2 :=
  h.trans ⟨k.os, k.tape, k.output, k.size, fun i hi => k.block i (Nat.lt_of_lt_of_le hi h.size)⟩

theorem sz_ne {s : ByteArray} (h : 0 < s.size) : ((s.size : Int) == 0) = false := by rw [beq_eq_false_iff_ne]; omega
theorem tx_nil {s : ByteArray} (h : s.size = 0) : tx s = [] := List.eq_nil_of_length_eq_zero (by rw [tx_len]; exact h)
theorem newW (s : ByteArray) (w : World) : Calls Tryd.prog 45 #[.string s] w fun e w' => (∃ t v, e = .returned (.iface t v)) ∧ Below w.heap.size w w' := by
  go_enter Tryd.func45, Tryd.ntmps45
  go_wp2
  go_ret
  exact ⟨⟨_, _, rfl⟩, by
    repeat (first | exact Below.refl _ _ | apply Below.drew | (refine Below.alloc ?_ (Nat.le_refl _) _) )⟩
/-- A text is given back. -/
def TPost (l : Tx) (w : World) (e : Ending) (w' : World) : Prop := w' = w ∧ ∃ s, e = .returned (.string s) ∧ tx s = l
set_option maxHeartbeats 2000000 in
theorem slowW (s : ByteArray) (w : World) (hs : s.size ≤ 1000000) : Calls Tryd.prog 101 #[.string s] w (TPost (skip (tx s)) w) := by
  by_cases h0 : 0 < s.size
  · have hne := sz_ne h0
    have hx0 := bt_at s 0 h0
    have hr0 := bt_range s (0 : Nat)
    obtain ⟨c, hc, hcx, -⟩ := tx_at s 0 h0
    simp only [List.drop_zero] at hc
    obtain ⟨x, hx⟩ : ∃ x, bt s (0 : Nat) = x := ⟨_, rfl⟩
    rw [hx] at hx0 hr0 hcx
    clear hx
    have HC := Lib.hid hc
    have HX := Lib.hid hcx
    clear hc hcx
    by_cases hb : blank c = true
    · have HB := Lib.hid hb
      have HK := Lib.hid (skip_yes (t := (tx s).drop (0 + 1)) hb)
      rcases (blank_iff HX.out).1 hb with rfl | rfl | rfl | rfl
      all_goals
        clear hb
        go_enter Tryd.func101, Tryd.ntmps101
        go_wp2
        go_loopg [2, 3] s.size (fun d v2 v3 wr => ∃ i : Nat, v2 = .string ⟨#[]⟩ ∧ v3 = .int .i64 (i : Int) ∧ wr = w ∧ i ≤ s.size ∧ s.size - i ≤ d ∧ skip (tx s) = skip ((tx s).drop i))
        case atStart => exact ⟨1, rfl, rfl, rfl, by omega, by omega, by rw [HC.out, HK.out]; rfl⟩
        case round =>
          obtain ⟨i, rfl, rfl, rfl, hi, hd, hk⟩ := hrel
          have HD := Lib.hid hd
          have HK2 := Lib.hid hk
          clear hd hk
          by_cases hlt : i < s.size
          · have hy0 := bt_at s i hlt
            have hr := bt_range s i
            obtain ⟨d, hd, hdx, -⟩ := tx_at s i hlt
            obtain ⟨y, hy⟩ : ∃ y, bt s i = y := ⟨_, rfl⟩
            rw [hy] at hy0 hr hdx
            clear hy
            have HE := Lib.hid hd
            have HY := Lib.hid hdx
            clear hd hdx
            by_cases hb : blank d = true
            · have HB2 := Lib.hid hb
              rcases (blank_iff HY.out).1 hb with rfl | rfl | rfl | rfl
              all_goals
                clear hb
                go_wp2
                go_roundg (gk - 1)
                case measure => have := HD.out; omega
                case rel => exact ⟨i + 1, rfl, by go_num, rfl, by omega, by have := HD.out; omega, by rw [HK2.out, HE.out, skip_yes HB2.out]⟩
            · have HB2 := Lib.hid hb
              obtain ⟨b1, b2, b3, b4⟩ := blank_no HY.out hb
              clear hb
              go_wp2
              go_ret
              exact ⟨rfl, _, rfl, by rw [tx_ext, HK2.out, HE.out, skip_no HB2.out]⟩
          · go_wp2
            go_ret
            exact ⟨rfl, _, rfl, by rw [HK2.out, List.drop_eq_nil_of_le (by rw [tx_len]; omega)]; rfl⟩
    · have HB := Lib.hid hb
      obtain ⟨b1, b2, b3, b4⟩ := blank_no HX.out hb
      clear hb
      go_enter Tryd.func101, Tryd.ntmps101
      go_wp2
      go_ret
      exact ⟨rfl, _, rfl, by rw [HC.out, skip_no HB.out]⟩
  · have HN := Lib.hid (show tx s = [] from List.eq_nil_of_length_eq_zero (by rw [tx_len]; omega))
    have hz : s.size = 0 := by omega
    clear h0 hs
    go_enter Tryd.func101, Tryd.ntmps101
    go_wp2
    go_ret
    exact ⟨rfl, _, rfl, by rw [HN.out]; rfl⟩
theorem low_gt {c : UInt8} {x : Int} (h : (c.toNat : Int) = x) (h32 : 32 < x) : ¬ blank c = true := by
  rw [blank_iff h]; omega
set_option maxHeartbeats 2000000 in
theorem skipW (s : ByteArray) (w : World) (hs : s.size ≤ 1000000) : Calls Tryd.prog 87 #[.string s] w (TPost (skip (tx s)) w) := by
  by_cases h0 : 0 < s.size
  · have hne := sz_ne h0
    have hx0 := bt_at s 0 h0
    have hr0 := bt_range s (0 : Nat)
    obtain ⟨c, hc, hcx, -⟩ := tx_at s 0 h0
    simp only [List.drop_zero] at hc
    obtain ⟨x, hx⟩ : ∃ x, bt s (0 : Nat) = x := ⟨_, rfl⟩
    rw [hx] at hx0 hr0 hcx
    clear hx
    have HC := Lib.hid hc
    have HX := Lib.hid hcx
    clear hc hcx
    by_cases h32 : 32 < x
    · have HB := Lib.hid (low_gt HX.out h32)
      go_enter Tryd.func87, Tryd.ntmps87
      go_wp2
      go_ret
      exact ⟨rfl, _, rfl, by rw [HC.out, skip_no HB.out]⟩
    · go_enter Tryd.func87, Tryd.ntmps87
      go_wp2_with (first
        | (go_at_call 101; go_must (refine (slowW s _ hs).mono ?_); rintro e w' ⟨rfl, t, rfl, ht⟩; replace ht := Lib.hid ht))
      go_ret
      exact ⟨rfl, _, rfl, ht.out⟩
  · have hz : s.size = 0 := by omega
    have HN := Lib.hid (tx_nil hz)
    clear h0 hs
    go_enter Tryd.func87, Tryd.ntmps87
    go_wp2
    go_ret
    exact ⟨rfl, _, rfl, by rw [HN.out]; rfl⟩
end Go.Proofs.YtgemkbpilmmajaaDoor.Fc
