/- The walk of validateKey. -/
import Derived.Test.YtgemkbpilmmajaaDoorFcStr
namespace Go.Proofs.YtgemkbpilmmajaaDoor.Fc
open Go.RowKit L
set_option linter.unusedVariables false
set_option linter.unusedSimpArgs false
set_option linter.unusedSectionVars false

theorem key_fast {s : ByteArray} {i : Nat} (h : (tx s)[i]? = some 34) (h34 : ∀ j : Nat, j < i → (tx s)[j]? ≠ some 34) (h92 : ∀ j : Nat, j < i → (tx s)[j]? ≠ some 92) : str (tx s) = some (tx (s.extract 0 i), tx (s.extract (i + 1) s.size)) := by
  have hno : ∀ k : Nat, ((tx s).take i)[k]? ≠ some 92 := fun k => by
    rw [List.getElem?_take]
    split
    · exact h92 k (by assumption)
    · simp
  have := rs_end (RS.start s) (n := i) ⟨h, h34⟩ (by rw [no_bsl hno])
  rw [Nat.zero_add] at this
  rw [tx_ext, tx_pre]
  exact str_some this (strV_plain hno)
theorem key_end {s : ByteArray} (h34 : ∀ j : Nat, j < s.size → (tx s)[j]? ≠ some 34) : str (tx s) = none :=
  str_none (rs_none (RS.start s) fun k => by
    by_cases h : k < s.size
    · exact h34 k h
    · rw [List.getElem?_eq_none (by rw [tx_len]; omega)]; simp)
theorem SPost.split {l : Tx} {w w' : World} {e : Ending} (h : SPost l w e w') : (∃ a b v, e = .returned (.tuple #[.string a, .string b, v])) ∧ SPost l w e w' := by
  refine ⟨?_, h⟩
  obtain ⟨⟨a, b, -, h⟩ | ⟨-, a, b, t, v, h⟩, -⟩ := h
  · exact ⟨a, b, _, h⟩
  · exact ⟨a, b, _, h⟩
set_option maxRecDepth 100000 in
set_option maxHeartbeats 8000000 in
theorem keyW (s : ByteArray) (w : World) (hs : s.size ≤ 1000000) (hw : SynAt w) : Calls Tryd.prog 88 #[.string s] w (SPost (tx s) w) := by
  have HSY := Lib.hid hw
  clear hw
  go_enter Tryd.func88, Tryd.ntmps88
  go_wp2
  go_loopg [8] (s.size) (fun d v8 wx => ∃ i : Nat, v8 = .int .i64 (i : Int) ∧ w = wx ∧ i ≤ s.size ∧ s.size - i ≤ d ∧ (∀ j : Nat, j < i → (tx s)[j]? ≠ some 34) ∧ (∀ j : Nat, j < i → (tx s)[j]? ≠ some 92))
  case atStart => exact ⟨0, rfl, rfl, by omega, by omega, fun j hj => absurd hj (by omega), fun j hj => absurd hj (by omega)⟩
  case round =>
    obtain ⟨i, rfl, hwx, hi, hd, h34, h92⟩ := hrel
    subst hwx
    have HD := Lib.hid hd
    have H34 := Lib.hid h34
    have H92 := Lib.hid h92
    clear hd h34 h92
    by_cases hlt : i < s.size
    · have hz_x := bt_at s i hlt
      have hr_x := bt_range s (i : Nat)
      obtain ⟨c, -, hcx, hca⟩ := tx_at s i hlt
      obtain ⟨x, hz⟩ : ∃ z, bt s (i : Nat) = z := ⟨_, rfl⟩
      rw [hz] at hz_x hr_x hcx
      clear hz
      have HX := Lib.hid hcx
      have HA := Lib.hid hca
      clear hcx hca
      by_cases h1 : x = 34
      · have HN := Lib.hid (key_fast (by rw [HA.out, (u8 HX.out 34).2 h1]) H34.out H92.out)
        subst h1
        go_wp2
        go_quiet (fail)
        go_wp2
        go_ret3
        exact SPost.yes HN.out ⟨rfl, rfl, rfl, Nat.le_refl _, fun _ _ => rfl⟩ rfl
      by_cases h2 : x = 92
      · subst h2
        go_wp2_with (first
          | (go_at_call 69; go_must (refine (strW s _ hs HSY.out).mono ?_); rintro e w' hp; obtain ⟨⟨a, b, v, rfl⟩, hp⟩ := hp.split; replace hp := Lib.hid hp))
        go_ret3
        exact hp.out
      · have N34 := Lib.hid (show (tx s)[i]? ≠ some 34 by rw [HA.out]; exact fun e => h1 ((u8 HX.out 34).1 (Option.some.inj e)))
        have N92 := Lib.hid (show (tx s)[i]? ≠ some 92 by rw [HA.out]; exact fun e => h2 ((u8 HX.out 92).1 (Option.some.inj e)))
        go_wp2
        go_roundg (gk - 1)
        case measure => have := HD.out; omega
        case rel =>
          refine ⟨i + 1, by go_num, rfl, by omega, by have := HD.out; omega, fun j hj => ?_, fun j hj => ?_⟩
          · by_cases e : j = i
            · rw [e]; exact N34.out
            · exact H34.out j (by omega)
          · by_cases e : j = i
            · rw [e]; exact N92.out
            · exact H92.out j (by omega)
    · obtain rfl : i = s.size := by omega
      have HN := Lib.hid (key_end H34.out)
      go_wp2_with (first
        | (go_at_call 45; go_must (refine (newW _ _).mono ?_); rintro e w' ⟨⟨et, ev, rfl⟩, hb⟩))
      go_ret3
      exact SPost.no HN.out hb rfl
end Go.Proofs.YtgemkbpilmmajaaDoor.Fc
