/- The walks of gjson's Valid, sixth part: validany, validpayload, Valid. -/
import Derived.Test.YtmpjkhcddfdboaaValid5
import Derived.Test.YtmpjkhcddfdboaaValid3
namespace Go.Proofs.Ytmpjkhcddfdboaa.L
open Go.RowKit
set_option linter.unusedVariables false
set_option linter.unusedSimpArgs false

theorem VPost.mk2 {r : Option Nat} {w w' : World} {e : Ending} {j : Int} {b : Bool} (hw : w' = w) (hb : b = r.isSome) (he : e = .returned (.tuple #[.int .i64 j, .bool b])) (hj : ∀ k, r = Option.some k → j = (k : Int)) : VPost r w e w' :=
  ⟨hw, j, by rw [he, hb], hj⟩
theorem stringW' (A : Option Addr) (s : ByteArray) (c i : Nat) (w : World) (h : Sl w A s c) (hi : i < s.size) :
    Calls Try.prog 26 #[.slice A s.size c, .int .i64 ((i : Int) + 1)] w (VPost (strAt s i) w) := by
  have := stringW A s c (i + 1) w h (by omega)
  rw [show ((i + 1 : Nat) : Int) = (i : Int) + 1 by omega] at this
  exact this
section
variable {s : ByteArray} {n i : Nat}
theorem val_obj (h : bt s i = 123) : (valN s (n + 1) i).map (·.1) = (membsAt (valN s n) s i).map (·.1) := by
  simp only [valN]; rw [if_pos h]; cases membsAt (valN s n) s i <;> rfl
theorem val_arr (h : bt s i = 91) : (valN s (n + 1) i).map (·.1) = (elemsAt (valN s n) s i).map (·.1) := by
  simp only [valN]; rw [if_neg (by omega), if_pos h]; cases elemsAt (valN s n) s i <;> rfl
theorem val_str (h : bt s i = 34) : (valN s (n + 1) i).map (·.1) = strAt s i := by
  simp only [valN]; rw [if_neg (by omega), if_neg (by omega), if_pos h]; cases strAt s i <;> rfl
theorem val_num (h : bt s i = 45 ∨ (48 ≤ bt s i ∧ bt s i ≤ 57)) : (valN s (n + 1) i).map (·.1) = numAt s i := by
  simp only [valN]; rw [if_neg (by omega), if_neg (by omega), if_neg (by omega), if_pos h]; cases numAt s i <;> rfl
theorem word_first {t : ByteArray} (ht : 0 < t.size) (h : bt s i ≠ bt t 0) : ¬ wordAt s i t = true := fun h' => by
  unfold wordAt at h'
  simp only [Bool.and_eq_true, decide_eq_true_eq] at h'
  have a := bt_ext s i (i + t.size) 0 (by omega) (by rw [h'.2]; omega)
  rw [h'.2] at a
  simp only [Int.add_zero] at a
  exact h a.symm
theorem val_null (h : bt s i = 110) : (valN s (n + 1) i).map (·.1) = if wordAt s i nullT = true then some (i + 4) else none := by
  simp only [valN]
  rw [if_neg (by omega), if_neg (by omega), if_neg (by omega), if_neg (by omega)]
  split
  · rfl
  · rw [if_neg (word_first (by decide) (by rw [h]; decide)), if_neg (word_first (by decide) (by rw [h]; decide))]; rfl
theorem val_false (h : bt s i = 102) : (valN s (n + 1) i).map (·.1) = if wordAt s i falseT = true then some (i + 5) else none := by
  simp only [valN]
  rw [if_neg (by omega), if_neg (by omega), if_neg (by omega), if_neg (by omega), if_neg (word_first (by decide) (by rw [h]; decide))]
  split
  · rfl
  · rw [if_neg (word_first (by decide) (by rw [h]; decide))]; rfl
theorem val_true (h : bt s i = 116) : (valN s (n + 1) i).map (·.1) = if wordAt s i trueT = true then some (i + 4) else none := by
  simp only [valN]
  rw [if_neg (by omega), if_neg (by omega), if_neg (by omega), if_neg (by omega), if_neg (word_first (by decide) (by rw [h]; decide)), if_neg (word_first (by decide) (by rw [h]; decide))]
  split <;> rfl
theorem val_other (h1 : ¬ bt s i = 123) (h2 : ¬ bt s i = 91) (h3 : ¬ bt s i = 34) (h4 : ¬ (bt s i = 45 ∨ (48 ≤ bt s i ∧ bt s i ≤ 57))) (h5 : ¬ bt s i = 110) (h6 : ¬ bt s i = 102) (h7 : ¬ bt s i = 116) : valN s (n + 1) i = none := by
  simp only [valN]
  rw [if_neg h1, if_neg h2, if_neg h3, if_neg h4, if_neg (word_first (by decide) (by intro e; rw [e] at h5; exact h5 (by decide))), if_neg (word_first (by decide) (by intro e; rw [e] at h6; exact h6 (by decide))), if_neg (word_first (by decide) (by intro e; rw [e] at h7; exact h7 (by decide)))]
end
set_option maxRecDepth 100000 in
set_option maxHeartbeats 4000000 in
theorem anyW {s : ByteArray} {n : Nat} (hv : VC s n) : VC s (n + 1) := by
  intro A c i0 w h hi hn
  have hs := h.sz
  have HV := Lib.hid hv
  have HSL := Lib.hid h
  clear h hv
  go_enter Try.func22, Try.ntmps22
  go_wp2
  go_loopg [1] (s.size - i0) (fun d v1 wr => ∃ i : Nat, v1 = .int .i64 (i : Int) ∧ wr = w ∧ d = s.size - i ∧ i0 ≤ i ∧ i ≤ s.size ∧ skip isBlank s i = skip isBlank s i0)
  case atStart => exact ⟨i0, rfl, rfl, rfl, by omega, by omega, rfl⟩
  case round =>
    obtain ⟨i, rfl, hwr, hd, hi0, hil, hk⟩ := hrel
    subst hwr
    have HD := Lib.hid hd
    have HK := Lib.hid hk
    clear hd hk
    by_cases hlt : i < s.size
    · obtain ⟨ad, rfl, hcell⟩ := HSL.out.rd.at_ hlt
      have hr := bt_range s i
      obtain ⟨x, hx⟩ : ∃ x, bt s i = x := ⟨_, rfl⟩
      rw [hx] at hcell hr
      have HX := Lib.hid hx
      clear hx
      by_cases hb : isBlank x = true
      · have HS := Lib.hid (skip_yes (p := isBlank) hlt (by rw [HX.out]; exact hb))
        rcases blank_cases hb with rfl | rfl | rfl | rfl
        all_goals
          go_wp2
          go_roundg (s.size - (i + 1))
          case measure => have := HD.out; omega
          case rel => exact ⟨i + 1, by go_num, rfl, rfl, by omega, by omega, HS.out.symm.trans HK.out⟩
      · have HS := Lib.hid (skip_no (p := isBlank) (s := s) (i := i) (by rw [HX.out]; exact fun h => hb h.2))
        obtain ⟨b1, b2, b3, b4⟩ := blank_not hb
        clear hb
        by_cases h123 : x = 123
        · subst h123
          have HE := Lib.hid ((congrArg (fun z => (valN s (n + 1) z).map (·.1)) (HK.out.symm.trans HS.out)).trans (val_obj HX.out))
          clear HS HK
          go_wp2_with (first
            | (go_at_call 24; go_must (refine (objectW HV.out _ c i _ HSL.out hlt (by omega)).mono ?_); rintro e w2 ⟨rfl, j, rfl, hj⟩; have HJ := Lib.hid hj; clear hj))
          go_ret2
          have HE2 := HE.out
          rw [HE2]
          exact VPost.mk2 rfl (by simp) rfl HJ.out
        by_cases h91 : x = 91
        · subst h91
          have HE := Lib.hid ((congrArg (fun z => (valN s (n + 1) z).map (·.1)) (HK.out.symm.trans HS.out)).trans (val_arr HX.out))
          clear HS HK
          go_wp2_with (first
            | (go_at_call 25; go_must (refine (arrayW HV.out _ c i _ HSL.out hlt (by omega)).mono ?_); rintro e w2 ⟨rfl, j, rfl, hj⟩; have HJ := Lib.hid hj; clear hj))
          go_ret2
          have HE2 := HE.out
          rw [HE2]
          exact VPost.mk2 rfl (by simp) rfl HJ.out
        by_cases h34 : x = 34
        · subst h34
          have HE := Lib.hid ((congrArg (fun z => (valN s (n + 1) z).map (·.1)) (HK.out.symm.trans HS.out)).trans (val_str HX.out))
          clear HS HK
          go_wp2_with (first
            | (go_at_call 26; go_must (refine (stringW' _ s c i _ HSL.out hlt).mono ?_); rintro e w2 ⟨rfl, j, rfl, hj⟩; have HJ := Lib.hid hj; clear hj))
          go_ret2
          have HE2 := HE.out
          rw [HE2]
          exact VPost.mk2 rfl (by simp) rfl HJ.out
        by_cases h116 : x = 116
        · subst h116
          have HE := Lib.hid ((congrArg (fun z => (valN s (n + 1) z).map (·.1)) (HK.out.symm.trans HS.out)).trans (val_true HX.out))
          obtain ⟨r, hrr⟩ : ∃ r, (if wordAt s i trueT = true then some (i + 4) else none) = r := ⟨_, rfl⟩
          have HWR := Lib.hid hrr
          rw [hrr] at HE
          clear hrr
          clear HS HK
          go_wp2_with (first
            | (go_at_call 28; go_must (refine (trueW _ s c i _ HSL.out hlt HX.out).mono ?_); rw [HWR.out]; rintro e w2 ⟨rfl, j, rfl, hj⟩; have HJ := Lib.hid hj; clear hj))
          go_ret2
          have HE2 := HE.out
          rw [HE2]
          exact VPost.mk2 rfl (by simp) rfl HJ.out
        by_cases h102 : x = 102
        · subst h102
          have HE := Lib.hid ((congrArg (fun z => (valN s (n + 1) z).map (·.1)) (HK.out.symm.trans HS.out)).trans (val_false HX.out))
          obtain ⟨r, hrr⟩ : ∃ r, (if wordAt s i falseT = true then some (i + 5) else none) = r := ⟨_, rfl⟩
          have HWR := Lib.hid hrr
          rw [hrr] at HE
          clear hrr
          clear HS HK
          go_wp2_with (first
            | (go_at_call 29; go_must (refine (falseW _ s c i _ HSL.out hlt HX.out).mono ?_); rw [HWR.out]; rintro e w2 ⟨rfl, j, rfl, hj⟩; have HJ := Lib.hid hj; clear hj))
          go_ret2
          have HE2 := HE.out
          rw [HE2]
          exact VPost.mk2 rfl (by simp) rfl HJ.out
        by_cases h110 : x = 110
        · subst h110
          have HE := Lib.hid ((congrArg (fun z => (valN s (n + 1) z).map (·.1)) (HK.out.symm.trans HS.out)).trans (val_null HX.out))
          obtain ⟨r, hrr⟩ : ∃ r, (if wordAt s i nullT = true then some (i + 4) else none) = r := ⟨_, rfl⟩
          have HWR := Lib.hid hrr
          rw [hrr] at HE
          clear hrr
          clear HS HK
          go_wp2_with (first
            | (go_at_call 30; go_must (refine (nullW _ s c i _ HSL.out hlt HX.out).mono ?_); rw [HWR.out]; rintro e w2 ⟨rfl, j, rfl, hj⟩; have HJ := Lib.hid hj; clear hj))
          go_ret2
          have HE2 := HE.out
          rw [HE2]
          exact VPost.mk2 rfl (by simp) rfl HJ.out
        by_cases hnum : x = 45 ∨ (48 ≤ x ∧ x ≤ 57)
        · have hnn := hnum
          rw [← HX.out] at hnn
          have HNN := Lib.hid hnn
          clear hnn
          have HE := Lib.hid ((congrArg (fun z => (valN s (n + 1) z).map (·.1)) (HK.out.symm.trans HS.out)).trans (val_num HNN.out))
          have ho : x = 45 ∨ x = 48 ∨ x = 49 ∨ x = 50 ∨ x = 51 ∨ x = 52 ∨ x = 53 ∨ x = 54 ∨ x = 55 ∨ x = 56 ∨ x = 57 := by omega
          clear HS HK hnum
          rcases ho with rfl | rfl | rfl | rfl | rfl | rfl | rfl | rfl | rfl | rfl | rfl
          all_goals
            go_wp2_with (first
              | (go_at_call 27; go_must (refine (numberW _ s c i _ HSL.out hlt HNN.out).mono ?_); rintro e w2 ⟨rfl, j, rfl, hj⟩; have HJ := Lib.hid hj; clear hj))
            go_ret2
            have HE2 := HE.out
            rw [HE2]
            exact VPost.mk2 rfl (by simp) rfl HJ.out
        have HE := Lib.hid (show (valN s (n + 1) (skip isBlank s i0)).map (·.1) = none by
          rw [← HK.out, HS.out, val_other (by rw [HX.out]; exact h123) (by rw [HX.out]; exact h91) (by rw [HX.out]; exact h34) (by rw [HX.out]; exact hnum) (by rw [HX.out]; exact h110) (by rw [HX.out]; exact h102) (by rw [HX.out]; exact h116)]; rfl)
        have n45 : ¬ x = 45 := by omega
        have n48 : ¬ x = 48 := by omega
        have n49 : ¬ x = 49 := by omega
        have n50 : ¬ x = 50 := by omega
        have n51 : ¬ x = 51 := by omega
        have n52 : ¬ x = 52 := by omega
        have n53 : ¬ x = 53 := by omega
        have n54 : ¬ x = 54 := by omega
        have n55 : ¬ x = 55 := by omega
        have n56 : ¬ x = 56 := by omega
        have n57 : ¬ x = 57 := by omega
        clear hnum
        go_wp2
        go_ret2
        exact VPost.no rfl HE.out rfl
    · have HE := Lib.hid (show (valN s (n + 1) (skip isBlank s i0)).map (·.1) = none by
        obtain rfl : i = s.size := by omega
        rw [← HK.out, skip_end, val_end]; rfl)
      go_wp2
      go_ret2
      exact VPost.no rfl HE.out rfl
theorem anyAll (s : ByteArray) : ∀ n, VC s n
  | 0 => fun A c i w h hi hn => absurd hn (by omega)
  | n + 1 => anyW (anyAll s n)
end Go.Proofs.Ytmpjkhcddfdboaa.L
