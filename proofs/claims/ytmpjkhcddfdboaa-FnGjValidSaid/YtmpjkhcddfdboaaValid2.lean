/- The walks of gjson's Valid, second part: ishex, validstring. -/
import Derived.Test.YtmpjkhcddfdboaaValid
import Derived.Test.YtmpjkhcddfdboaaReader2
namespace Go.Proofs.Ytmpjkhcddfdboaa.L
open Go.RowKit
set_option linter.unusedVariables false
set_option linter.unusedSimpArgs false

theorem ishexW (c : Int) (h0 : 0 ≤ c) (h1 : c ≤ 255) (w : World) : Calls Try.prog 33 #[.int .u8 c] w fun e w' => e = .returned (.bool (isHex c)) ∧ w' = w := by
  by_cases a1 : 48 ≤ c <;> by_cases a2 : c ≤ 57 <;> by_cases a3 : 97 ≤ c <;> by_cases a4 : c ≤ 102 <;> by_cases a5 : 65 ≤ c <;> by_cases a6 : c ≤ 70
  all_goals first
    | (exfalso; omega)
    | (obtain ⟨b, hb⟩ : ∃ b, isHex c = b := ⟨_, rfl⟩
       rw [hb]
       simp [isHex, isDigit, a1, a2, a3, a4, a5, a6] at hb
       subst hb
       go_enter Try.func33, Try.ntmps33
       go_wp2
       go_ret
       exact ⟨rfl, rfl⟩)
theorem ishex_of {b : Bool} (c : Int) (h0 : 0 ≤ c) (h1 : c ≤ 255) (hb : isHex c = b) (w : World) : Calls Try.prog 33 #[.int .u8 c] w fun e w' => e = .returned (.bool b) ∧ w' = w := by
  subst hb; exact ishexW c h0 h1 w

set_option maxHeartbeats 4000000 in
theorem stringW (A : Option Addr) (s : ByteArray) (c i0 : Nat) (w : World) (h : Sl w A s c) (hi : i0 ≤ s.size) :
    Calls Try.prog 26 #[.slice A s.size c, .int .i64 (i0 : Int)] w (VPost (strN s (s.size + 1) i0) w) := by
  have hs := h.sz
  have HR := Lib.hid h.rd
  clear h
  go_enter Try.func26, Try.ntmps26
  go_wp2
  go_loopg [1] (s.size + 1) (fun d v1 wr => ∃ i : Nat, v1 = .int .i64 (i : Int) ∧ wr = w ∧ strN s d i = strN s (s.size + 1) i0 ∧ i ≤ s.size ∧ s.size - i < d)
  case atStart => exact ⟨i0, rfl, rfl, rfl, hi, by omega⟩
  case round =>
    obtain ⟨i, rfl, rfl, hk, hil, hd⟩ := hrel
    obtain ⟨d, rfl⟩ : ∃ d, gk = d + 1 := ⟨gk - 1, by omega⟩
    have HK := Lib.hid hk
    clear hk
    by_cases hlt : i < s.size
    · obtain ⟨ad, rfl, hcell⟩ := HR.out.at_ hlt
      have hr := bt_range s i
      obtain ⟨x, hx⟩ : ∃ x, bt s i = x := ⟨_, rfl⟩
      rw [hx] at hcell hr
      have HX := Lib.hid hx
      clear hx
      by_cases h34 : x = 34
      · have HE := Lib.hid ((str_end (k := d) hlt (HX.out.trans h34)).symm.trans HK.out)
        subst h34
        go_wp2
        go_ret2
        exact VPost.yes rfl HE.out.symm rfl (by omega)
      by_cases hl : x < 32
      · have HE := Lib.hid ((str_low (k := d) hlt (by rw [HX.out]; exact h34) (by rw [HX.out]; exact hl)).symm.trans HK.out)
        go_wp2
        go_ret2
        exact VPost.no rfl HE.out.symm rfl
      by_cases h92 : x = 92
      · subst h92
        clear h34 hl hr
        by_cases hlt2 : i + 1 < s.size
        · have hne : ((i : Int) + 1 == (s.size : Int)) = false := by simp; omega
          obtain ⟨ad', had, hcell2⟩ := HR.out.at_ hlt2
          injection had with had
          subst had
          rw [add_succ] at hcell2
          have hr := bt_range s (i + 1 : Nat)
          obtain ⟨y, hy⟩ : ∃ y, bt s (i + 1 : Nat) = y := ⟨_, rfl⟩
          rw [hy] at hcell2 hr
          have HY := Lib.hid hy
          clear hy
          by_cases hq : y = 34 ∨ y = 92 ∨ y = 47 ∨ y = 98 ∨ y = 102 ∨ y = 110 ∨ y = 114 ∨ y = 116
          · have HE := Lib.hid ((str_esc (k := d) hlt HX.out (esc_letter (by rw [HY.out]; exact hq))).symm.trans HK.out)
            rcases hq with rfl | rfl | rfl | rfl | rfl | rfl | rfl | rfl
            all_goals
              go_wp2
              go_roundg d
              case measure => omega
              case rel => exact ⟨i + 1 + 1, by go_num, rfl, HE.out, by omega, by omega⟩
          · by_cases hu : y = 117
            · subst hu
              clear hq hr
              go_wp2
              go_loopg [1, 46] 4 (fun d' v1 v46 wr' => ∃ k : Nat, v46 = .int .i64 (k : Int) ∧ k + d' = 4 ∧ v1 = .int .i64 ((i + 1 + k : Nat) : Int) ∧ wr' = wr ∧ i + 1 + k < s.size ∧ ∀ j : Nat, j < k → isHex (bt s (i + 1 + 1 + j : Nat)) = true)
              case atStart => exact ⟨0, rfl, rfl, by go_num, rfl, by omega, fun j hj => absurd hj (by omega)⟩
              case round =>
                obtain ⟨k, rfl, hkd, rfl, rfl, hkl, hall⟩ := hrel
                have HKD := Lib.hid hkd
                have HA := Lib.hid hall
                clear hkd hall hcell hcell2 hne
                by_cases hk4 : k < 4
                · by_cases hlt3 : i + 1 + k + 1 < s.size
                  · have hge : decide ((s.size : Int) ≤ ((i + 1 + k : Nat) : Int) + 1) = false := by simp; omega
                    obtain ⟨ad', had, hcell3⟩ := HR.out.at_ hlt3
                    injection had with had
                    subst had
                    rw [add_succ] at hcell3
                    have hr := bt_range s (i + 1 + k + 1 : Nat)
                    obtain ⟨z, hz⟩ : ∃ z, bt s (i + 1 + k + 1 : Nat) = z := ⟨_, rfl⟩
                    rw [hz] at hcell3 hr
                    have HZ := Lib.hid hz
                    clear hz
                    cases hx : isHex z with
                    | true =>
                      have HX2 := Lib.hid hx
                      clear hx
                      go_wp2_with (first
                        | (go_at_call 33; go_must (refine (ishex_of z (by omega) (by omega) HX2.out _).mono ?_); rintro e w' ⟨rfl, rfl⟩))
                      go_roundg (gk - 1)
                      case measure => have := HKD.out; omega
                      case rel =>
                        refine ⟨k + 1, by go_num, by have := HKD.out; omega, by go_num, rfl, by omega, fun j hj => ?_⟩
                        by_cases hjk : j = k
                        · rw [hjk, show i + 1 + 1 + k = i + 1 + k + 1 by omega, HZ.out]; exact HX2.out
                        · exact HA.out j (by omega)
                    | false =>
                      have HX2 := Lib.hid hx
                      clear hx
                      have HE := Lib.hid ((str_escbad (k := d) hlt HX.out (esc_bad HY.out hk4 (by rw [show i + 1 + 1 + k = i + 1 + k + 1 by omega, HZ.out]; exact HX2.out))).symm.trans HK.out)
                      go_wp2_with (first
                        | (go_at_call 33; go_must (refine (ishex_of z (by omega) (by omega) HX2.out _).mono ?_); rintro e w' ⟨rfl, rfl⟩))
                      go_ret2
                      exact VPost.no rfl HE.out.symm rfl
                  · have hge : decide ((s.size : Int) ≤ ((i + 1 + k : Nat) : Int) + 1) = true := by simp; omega
                    have HE := Lib.hid ((str_escbad (k := d) hlt HX.out (esc_bad HY.out hk4 (by rw [bt_out s _ (by omega)]; rfl))).symm.trans HK.out)
                    go_wp2
                    go_ret2
                    exact VPost.no rfl HE.out.symm rfl
                · have HE := Lib.hid ((str_esc (k := d) hlt HX.out (esc_u HY.out fun j hj => HA.out j (by omega))).symm.trans HK.out)
                  obtain rfl : k = 4 := by have := HKD.out; omega
                  go_wp2
                  go_roundg d
                  case measure => omega
                  case rel => exact ⟨i + 1 + 5, by go_num, rfl, HE.out, by omega, by omega⟩
            · have HE := Lib.hid ((str_escbad (k := d) hlt HX.out (esc_other (by rw [HY.out]; exact hq) (by rw [HY.out]; exact hu))).symm.trans HK.out)
              have q1 : ¬ y = 34 := by omega
              have q2 : ¬ y = 92 := by omega
              have q3 : ¬ y = 47 := by omega
              have q4 : ¬ y = 98 := by omega
              have q5 : ¬ y = 102 := by omega
              have q6 : ¬ y = 110 := by omega
              have q7 : ¬ y = 114 := by omega
              have q8 : ¬ y = 116 := by omega
              clear hq
              go_wp2
              go_ret2
              exact VPost.no rfl HE.out.symm rfl
        · have hne : ((i : Int) + 1 == (s.size : Int)) = true := by simp; omega
          have HE := Lib.hid ((str_escbad (k := d) hlt HX.out (by have e := bt_out s (i + 1 : Nat) (by omega); exact esc_other (by omega) (by omega))).symm.trans HK.out)
          go_wp2
          go_ret2
          exact VPost.no rfl HE.out.symm rfl
      · have HE := Lib.hid ((str_next (k := d) hlt (by rw [HX.out]; exact h34) (by rw [HX.out]; exact hl) (by rw [HX.out]; exact h92)).symm.trans HK.out)
        go_wp2
        go_roundg d
        case measure => omega
        case rel => exact ⟨i + 1, by go_num, rfl, HE.out, by omega, by omega⟩
    · have HE := Lib.hid ((str_out (k := d + 1) hlt).symm.trans HK.out)
      go_wp2
      go_ret2
      exact VPost.no rfl HE.out.symm rfl
end Go.Proofs.Ytmpjkhcddfdboaa.L
