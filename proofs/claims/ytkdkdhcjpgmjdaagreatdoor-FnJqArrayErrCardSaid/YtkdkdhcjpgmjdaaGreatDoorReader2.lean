/- The walks of spec's reader, second part: number, escape, quoted, word. -/
import Derived.Test.YtkdkdhcjpgmjdaaGreatDoorReader
import Derived.Deep.DeepCutAuto
namespace Go.Proofs.YtkdkdhcjpgmjdaaGreatDoor.L
open Go.RowKit
set_option linter.unusedVariables false
set_option linter.unusedSimpArgs false

/-- A part of a number has been gone over, or the number is none (b: it is none). -/
def Part (w : World) (g : Nat) (s : ByteArray) (r : Option Nat) (b : Bool) (w' : World) : Prop :=
  ∃ j, j ≤ s.size ∧ Mv w w' g s j ∧ ((r = some j ∧ b = false) ∨ (r = none ∧ b = true))

theorem ifp {α : Type} {c : Prop} [Decidable c] {a b : α} {P : α → Prop} (h : c) (p : P (if c then a else b)) : P a := by rwa [if_pos h] at p
theorem ifn {α : Type} {c : Prop} [Decidable c] {a b : α} {P : α → Prop} (h : ¬ c) (p : P (if c then a else b)) : P b := by rwa [if_neg h] at p
theorem take_yes (g : Nat) (s : ByteArray) (i : Nat) (c : Int) (w : World) (h : RdS w g s i) (hs : s.size ≤ 140737488351232) (hc : 0 < c) (hq : bt s i = c) :
    Calls Tryz.prog 82 #[rp g, .int .u8 c] w fun e w' => e = .returned (.bool true) ∧ Mv w w' g s (i + 1) := by
  have := take g s i c w h hs hc
  rw [if_pos hq, decide_eq_true hq] at this
  exact this
theorem take_no (g : Nat) (s : ByteArray) (i : Nat) (c : Int) (w : World) (h : RdS w g s i) (hs : s.size ≤ 140737488351232) (hc : 0 < c) (hq : ¬ bt s i = c) :
    Calls Tryz.prog 82 #[rp g, .int .u8 c] w fun e w' => e = .returned (.bool false) ∧ Mv w w' g s i := by
  have := take g s i c w h hs hc
  rw [if_neg hq, decide_eq_false hq] at this
  exact this
theorem digits_yes (g : Nat) (s : ByteArray) (i : Nat) (w : World) (h : RdS w g s i) (hs : s.size ≤ 140737488351232) (hi : i ≤ s.size) (hq : i < skip isDigit s i) :
    Calls Tryz.prog 84 #[rp g] w fun e w' => e = .returned (.bool true) ∧ Mv w w' g s (skip isDigit s i) := by
  have := digits g s i w h hs hi
  rw [decide_eq_true hq] at this
  exact this
theorem digits_no (g : Nat) (s : ByteArray) (i : Nat) (w : World) (h : RdS w g s i) (hs : s.size ≤ 140737488351232) (hi : i ≤ s.size) (hq : ¬ i < skip isDigit s i) :
    Calls Tryz.prog 84 #[rp g] w fun e w' => e = .returned (.bool false) ∧ Mv w w' g s (skip isDigit s i) := by
  have := digits g s i w h hs hi
  rw [decide_eq_false hq] at this
  exact this

set_option maxHeartbeats 4000000 in
theorem number (g : Nat) (s : ByteArray) (i0 : Nat) (w : World) (h : RdS w g s i0) (hs : s.size ≤ 140737488351232) (hi : i0 ≤ s.size) :
    Calls Tryz.prog 61 #[rp g] w (OptPost w g s (numAt s i0)) := by
  have HM := Lib.hid (Mv.refl h)
  clear h
  go_enter Tryz.func61, Tryz.ntmps61
  go_wp2_with fail
  refine (take g s _ _ _ HM.out.rd hs (by decide)).mono ?_
  rintro e w1 ⟨rfl, hM⟩
  obtain ⟨i1, HI⟩ : ∃ i1, Hid (i1 = if bt s i0 = 45 then i0 + 1 else i0) := ⟨_, Lib.hid rfl⟩
  have hM1 : Mv w w1 g s i1 := by rw [HI.out]; exact HM.out.trans hM
  have ht1 : i1 ≤ s.size := by rw [HI.out]; exact take_top (by decide) hi
  have HM1 := Lib.hid hM1
  clear hM hM1 HM
  have fin : numAt s i0 = (numInt s i1).bind fun j => (numFrac s j).bind fun j => numExp s j := by unfold numAt; rw [← HI.out]
  have FIN := Lib.hid fin
  clear fin HI
  go_upto_region 2 with (fail)
  go_cut [12] (fun v12 wc => ∃ b, v12 = .bool b ∧ Part w g s (numInt s i1) b wc)
  case first =>
    by_cases h48 : bt s i1 = 48
    · have hlt : i1 < s.size := lt_of_bt (by omega)
      have HA := Lib.hid (show numInt s i1 = some (i1 + 1) by unfold numInt; rw [if_pos h48])
      have H48 := Lib.hid h48
      clear h48
      go_wp2_with (first | (go_at_call 82; go_must (refine (take_yes g s i1 _ _ HM1.out.rd hs (by decide) H48.out).mono ?_); rintro e w2 ⟨rfl, hM2⟩))
      go_meet
      case rel => exact ⟨_, rfl, i1 + 1, by omega, HM1.out.trans hM2, .inl ⟨HA.out, rfl⟩⟩
    · have H48 := Lib.hid h48
      clear h48
      by_cases hd : i1 < skip isDigit s i1
      · have HA := Lib.hid (show numInt s i1 = some (skip isDigit s i1) by unfold numInt; rw [if_neg H48.out, digits_some hd])
        have HD := Lib.hid hd
        clear hd
        go_wp2_with (first
          | (go_at_call 82; go_must (refine (take_no g s i1 _ _ HM1.out.rd hs (by decide) H48.out).mono ?_); rintro e w2 ⟨rfl, hM2⟩)
          | (go_at_call 84; go_must (refine (digits_yes g s i1 _ hM2.rd hs ht1 HD.out).mono ?_); rintro e w3 ⟨rfl, hM3⟩))
        go_meet
        case rel => exact ⟨_, rfl, _, skip_top _ _ ht1, (HM1.out.trans hM2).trans hM3, .inl ⟨HA.out, rfl⟩⟩
      · have HA := Lib.hid (show numInt s i1 = none by unfold numInt; rw [if_neg H48.out, digits_none hd])
        have HD := Lib.hid hd
        clear hd
        go_wp2_with (first
          | (go_at_call 82; go_must (refine (take_no g s i1 _ _ HM1.out.rd hs (by decide) H48.out).mono ?_); rintro e w2 ⟨rfl, hM2⟩)
          | (go_at_call 84; go_must (refine (digits_no g s i1 _ hM2.rd hs ht1 HD.out).mono ?_); rintro e w3 ⟨rfl, hM3⟩))
        go_meet
        case rel => exact ⟨_, rfl, _, skip_top _ _ ht1, (HM1.out.trans hM2).trans hM3, .inr ⟨HA.out, rfl⟩⟩
  case rest =>
    obtain ⟨b, rfl, i2, ht2, hM2, ⟨hr, rfl⟩ | ⟨hr, rfl⟩⟩ := hcut
    · have HA := Lib.hid hr
      have HM2 := Lib.hid hM2
      clear hr hM2 HM1
      go_upto_region 4 with (fail)
      go_cut [19] (fun v19 wc => ∃ b, v19 = .bool b ∧ Part w g s (numFrac s i2) b wc)
      case first =>
        by_cases h46 : bt s i2 = 46
        · have hlt : i2 < s.size := lt_of_bt (by omega)
          have H46 := Lib.hid h46
          clear h46
          by_cases hd : i2 + 1 < skip isDigit s (i2 + 1)
          · have HB := Lib.hid (show numFrac s i2 = some (skip isDigit s (i2 + 1)) by unfold numFrac; rw [if_pos H46.out, digits_some hd])
            have HD := Lib.hid hd
            clear hd
            go_wp2_with (first
              | (go_at_call 82; go_must (refine (take_yes g s i2 _ _ HM2.out.rd hs (by decide) H46.out).mono ?_); rintro e w2 ⟨rfl, hM3⟩)
              | (go_at_call 84; go_must (refine (digits_yes g s (i2 + 1) _ hM3.rd hs (by omega) HD.out).mono ?_); rintro e w3 ⟨rfl, hM4⟩))
            go_meet
            case rel => exact ⟨_, rfl, _, skip_top _ _ (by omega), (HM2.out.trans hM3).trans hM4, .inl ⟨HB.out, rfl⟩⟩
          · have HB := Lib.hid (show numFrac s i2 = none by unfold numFrac; rw [if_pos H46.out, digits_none hd])
            have HD := Lib.hid hd
            clear hd
            go_wp2_with (first
              | (go_at_call 82; go_must (refine (take_yes g s i2 _ _ HM2.out.rd hs (by decide) H46.out).mono ?_); rintro e w2 ⟨rfl, hM3⟩)
              | (go_at_call 84; go_must (refine (digits_no g s (i2 + 1) _ hM3.rd hs (by omega) HD.out).mono ?_); rintro e w3 ⟨rfl, hM4⟩))
            go_meet
            case rel => exact ⟨_, rfl, _, skip_top _ _ (by omega), (HM2.out.trans hM3).trans hM4, .inr ⟨HB.out, rfl⟩⟩
        · have HB := Lib.hid (show numFrac s i2 = some i2 by unfold numFrac; rw [if_neg h46])
          have H46 := Lib.hid h46
          clear h46
          go_wp2_with (first
            | (go_at_call 82; go_must (refine (take_no g s i2 _ _ HM2.out.rd hs (by decide) H46.out).mono ?_); rintro e w2 ⟨rfl, hM3⟩))
          go_meet
          case rel => exact ⟨_, rfl, _, ht2, HM2.out.trans hM3, .inl ⟨HB.out, rfl⟩⟩
      case rest =>
        obtain ⟨b, rfl, i3, ht3, hM3, ⟨hr, rfl⟩ | ⟨hr, rfl⟩⟩ := hcut
        · have HB := Lib.hid hr
          have HM3 := Lib.hid hM3
          have FIN3 := Lib.hid (show numAt s i0 = numExp s i3 by rw [FIN.out, HA.out]; show (numFrac s i2).bind _ = _; rw [hr]; rfl)
          clear hr hM3 HM2 FIN
          by_cases hE : bt s i3 = 101 ∨ bt s i3 = 69
          · have hlt : i3 < s.size := lt_of_bt (by omega)
            have HE := Lib.hid hE
            have HX := Lib.hid (exp_eq hE)
            go_upto_region 6 with (fail)
            go_cut [25] (fun v25 wc => v25 = .bool true ∧ Mv w wc g s (i3 + 1))
            case first =>
              by_cases h101 : bt s i3 = 101
              · have H1 := Lib.hid h101
                clear h101 hE
                go_wp2_with (first
                  | (go_at_call 82; go_must (refine (take_yes g s i3 _ _ HM3.out.rd hs (by decide) H1.out).mono ?_); rintro e w2 ⟨rfl, hM4⟩))
                go_meet
                case rel => exact ⟨rfl, HM3.out.trans hM4⟩
              · have H1 := Lib.hid h101
                have H2 := Lib.hid (show bt s i3 = 69 by omega)
                clear h101 hE
                have tok1 : True := trivial
                go_wp2_with (first
                  | (go_at_call 82; clear tok1; go_must (refine (take_no g s i3 _ _ HM3.out.rd hs (by decide) H1.out).mono ?_); rintro e w2 ⟨rfl, hM4⟩)
                  | (go_at_call 82; go_must (refine (take_yes g s i3 _ _ hM4.rd hs (by decide) H2.out).mono ?_); rintro e w3 ⟨rfl, hM5⟩))
                go_meet
                case rel => exact ⟨rfl, (HM3.out.trans hM4).trans hM5⟩
            case rest =>
              obtain ⟨rfl, hM4⟩ := hcut
              have HM4 := Lib.hid hM4
              clear hM4 hE HM3
              have hend : ∀ (i4 : Nat) (w4 : World), Hid (i4 = numSign s (i3 + 1)) → Mv w w4 g s i4 → i4 ≤ s.size → Calls Tryz.prog 84 #[rp g] w4 fun e w' => e = .returned (.bool (decide (i4 < skip isDigit s i4))) ∧ OptPost w g s (numAt s i0) e w' := by
                intro i4 w4 h4 hM ht
                refine (digits g s i4 w4 hM.rd hs ht).mono ?_
                rintro e w5 ⟨rfl, hM5⟩
                refine ⟨rfl, ?_⟩
                rw [FIN3.out, HX.out, ← h4.out]
                by_cases hd : i4 < skip isDigit s i4
                · rw [digits_some hd]
                  exact OptPost.yes (hM.trans hM5) rfl (skip_top _ _ ht) (by simp [hd])
                · rw [digits_none hd]
                  exact OptPost.no (hM.trans hM5) rfl (skip_top _ _ ht) (by simp [hd])
              have HEND := Lib.hid hend
              clear hend
              by_cases h43 : bt s (i3 + 1 : Nat) = 43
              · have hlt2 := lt_of_bt (s := s) (i := i3 + 1) (by omega)
                have H4 := Lib.hid (show i3 + 1 + 1 = numSign s (i3 + 1) by unfold numSign; rw [if_pos (.inl h43)])
                have H43 := Lib.hid h43
                clear h43
                go_wp2_with (first
                  | (go_at_call 82; go_must (refine (take_yes g s (i3 + 1) _ _ HM4.out.rd hs (by decide) H43.out).mono ?_); rintro e w2 ⟨rfl, hM5⟩)
                  | (go_at_call 84; go_must (refine (HEND.out (i3 + 1 + 1) _ H4 (HM4.out.trans hM5) (by omega)).mono ?_); rintro e w3 ⟨rfl, hP⟩; have HP := Lib.hid hP; clear hP))
                go_ret
                exact HP.out
              · have H43 := Lib.hid h43
                by_cases h45 : bt s (i3 + 1 : Nat) = 45
                · have hlt2 := lt_of_bt (s := s) (i := i3 + 1) (by omega)
                  have H4 := Lib.hid (show i3 + 1 + 1 = numSign s (i3 + 1) by unfold numSign; rw [if_pos (.inr h45)])
                  have H45 := Lib.hid h45
                  clear h45 h43
                  have tok1 : True := trivial
                  go_wp2_with (first
                    | (go_at_call 82; clear tok1; go_must (refine (take_no g s (i3 + 1) _ _ HM4.out.rd hs (by decide) H43.out).mono ?_); rintro e w2 ⟨rfl, hM5⟩)
                    | (go_at_call 82; go_must (refine (take_yes g s (i3 + 1) _ _ hM5.rd hs (by decide) H45.out).mono ?_); rintro e w2 ⟨rfl, hM6⟩)
                    | (go_at_call 84; go_must (refine (HEND.out (i3 + 1 + 1) _ H4 ((HM4.out.trans hM5).trans hM6) (by omega)).mono ?_); rintro e w3 ⟨rfl, hP⟩; have HP := Lib.hid hP; clear hP))
                  go_ret
                  exact HP.out
                · have H4 := Lib.hid (show i3 + 1 = numSign s (i3 + 1) by unfold numSign; rw [if_neg (by omega)])
                  have H45 := Lib.hid h45
                  clear h45 h43
                  have tok1 : True := trivial
                  go_wp2_with (first
                    | (go_at_call 82; clear tok1; go_must (refine (take_no g s (i3 + 1) _ _ HM4.out.rd hs (by decide) H43.out).mono ?_); rintro e w2 ⟨rfl, hM5⟩)
                    | (go_at_call 82; go_must (refine (take_no g s (i3 + 1) _ _ hM5.rd hs (by decide) H45.out).mono ?_); rintro e w2 ⟨rfl, hM6⟩)
                    | (go_at_call 84; go_must (refine (HEND.out (i3 + 1) _ H4 ((HM4.out.trans hM5).trans hM6) (by omega)).mono ?_); rintro e w3 ⟨rfl, hP⟩; have HP := Lib.hid hP; clear hP))
                  go_ret
                  exact HP.out
          · have HX := Lib.hid (show numExp s i3 = some i3 by unfold numExp; rw [if_neg hE])
            have H1 := Lib.hid (show ¬ bt s i3 = 101 by omega)
            have H2 := Lib.hid (show ¬ bt s i3 = 69 by omega)
            clear hE
            have tok1 : True := trivial
            go_wp2_with (first
              | (go_at_call 82; clear tok1; go_must (refine (take_no g s i3 _ _ HM3.out.rd hs (by decide) H1.out).mono ?_); rintro e w2 ⟨rfl, hM4⟩)
              | (go_at_call 82; go_must (refine (take_no g s i3 _ _ hM4.rd hs (by decide) H2.out).mono ?_); rintro e w3 ⟨rfl, hM5⟩))
            go_ret
            exact OptPost.yes ((HM3.out.trans hM4).trans hM5) (by rw [FIN3.out, HX.out]) ht3 (by simp)
        · have HR := Lib.hid hr
          have HM3 := Lib.hid hM3
          clear hr hM3
          go_wp2
          go_ret
          exact OptPost.no HM3.out (by rw [FIN.out, HA.out]; show (numFrac s i2).bind _ = _; rw [HR.out]; rfl) ht3 (by simp)
    · have HR := Lib.hid hr
      clear hr
      go_wp2
      go_ret
      exact OptPost.no hM2 (by rw [FIN.out, HR.out]; rfl) ht2 (by simp)

def hexV (c : Int) : Int := if 48 ≤ c ∧ c ≤ 57 then c - 48 else if 97 ≤ c ∧ c ≤ 102 then c - 87 else if 65 ≤ c ∧ c ≤ 70 then c - 55 else 0
theorem hexDigit (c : Int) (h0 : 0 ≤ c) (h1 : c ≤ 255) (w : World) : Calls Tryz.prog 63 #[.int .u8 c] w fun e w' => e = .returned (.tuple #[.int .i64 (hexV c), .bool (isHex c)]) ∧ w' = w := by
  by_cases a : 48 ≤ c ∧ c ≤ 57
  · obtain ⟨a1, a2⟩ := a
    have e1 : hexV c = c - 48 := by unfold hexV; rw [if_pos ⟨a1, a2⟩]
    have e2 : isHex c = true := by simp [isHex, isDigit, a1, a2]
    rw [e1, e2]
    clear e1 e2
    go_enter Tryz.func63, Tryz.ntmps63
    go_wp2
    go_ret2
    exact ⟨by simp, rfl⟩
  · by_cases b : 97 ≤ c ∧ c ≤ 102
    · obtain ⟨a1, a2⟩ := b
      have e1 : hexV c = c - 97 + 10 := by unfold hexV; rw [if_neg a, if_pos ⟨a1, a2⟩]; omega
      have e2 : isHex c = true := by simp [isHex, a1, a2]
      have a3 : ¬ c ≤ 57 := by omega
      rw [e1, e2]
      clear e1 e2 a
      go_enter Tryz.func63, Tryz.ntmps63
      go_wp2
      go_ret2
      exact ⟨by simp, rfl⟩
    · by_cases d : 65 ≤ c ∧ c ≤ 70
      · obtain ⟨a1, a2⟩ := d
        have e1 : hexV c = c - 65 + 10 := by unfold hexV; rw [if_neg a, if_neg b, if_pos ⟨a1, a2⟩]; omega
        have e2 : isHex c = true := by simp [isHex, a1, a2]
        have a3 : ¬ c ≤ 57 := by omega
        have a4 : ¬ 97 ≤ c := by omega
        rw [e1, e2]
        clear e1 e2 a b
        go_enter Tryz.func63, Tryz.ntmps63
        go_wp2
        go_ret2
        exact ⟨by simp, rfl⟩
      · have e1 : hexV c = 0 := by unfold hexV; rw [if_neg a, if_neg b, if_neg d]
        have e2 : isHex c = false := by
          simp [isHex, isDigit]
          omega
        rw [e1, e2]
        clear e1 e2
        by_cases a1 : 48 ≤ c
        · have a2 : ¬ c ≤ 57 := by omega
          by_cases b1 : 97 ≤ c
          · have b2 : ¬ c ≤ 102 := by omega
            have d2 : ¬ c ≤ 70 := by omega
            have d1 : 65 ≤ c := by omega
            clear a b d
            go_enter Tryz.func63, Tryz.ntmps63
            go_wp2
            go_ret2
            exact ⟨by simp, rfl⟩
          · by_cases d1 : 65 ≤ c
            · have d2 : ¬ c ≤ 70 := by omega
              clear a b d
              go_enter Tryz.func63, Tryz.ntmps63
              go_wp2
              go_ret2
              exact ⟨by simp, rfl⟩
            · clear a b d
              go_enter Tryz.func63, Tryz.ntmps63
              go_wp2
              go_ret2
              exact ⟨by simp, rfl⟩
        · have b1 : ¬ 97 ≤ c := by omega
          have d1 : ¬ 65 ≤ c := by omega
          clear a b d
          go_enter Tryz.func63, Tryz.ntmps63
          go_wp2
          go_ret2
          exact ⟨by simp, rfl⟩
theorem hex_of {b : Bool} (c : Int) (h0 : 0 ≤ c) (h1 : c ≤ 255) (hb : isHex c = b) (w : World) : Calls Tryz.prog 63 #[.int .u8 c] w fun e w' => e = .returned (.tuple #[.int .i64 (hexV c), .bool b]) ∧ w' = w := by
  subst hb; exact hexDigit c h0 h1 w

theorem esc_letter {s : ByteArray} {i : Nat} (h : bt s i = 34 ∨ bt s i = 92 ∨ bt s i = 47 ∨ bt s i = 98 ∨ bt s i = 102 ∨ bt s i = 110 ∨ bt s i = 114 ∨ bt s i = 116) : escAt s i = some (i + 1) := by unfold escAt; rw [if_pos h]
theorem esc_other {s : ByteArray} {i : Nat} (h : ¬ (bt s i = 34 ∨ bt s i = 92 ∨ bt s i = 47 ∨ bt s i = 98 ∨ bt s i = 102 ∨ bt s i = 110 ∨ bt s i = 114 ∨ bt s i = 116)) (h2 : ¬ bt s i = 117) : escAt s i = none := by unfold escAt; rw [if_neg h, if_neg h2]
theorem esc_u {s : ByteArray} {i : Nat} (h : bt s i = 117) (hx : ∀ k : Nat, k < 4 → isHex (bt s (i + 1 + k : Nat)) = true) : escAt s i = some (i + 5) := by
  unfold escAt
  rw [if_neg (by omega), if_pos h, if_pos ⟨hx 0 (by omega), hx 1 (by omega), hx 2 (by omega), hx 3 (by omega)⟩]
theorem esc_bad {s : ByteArray} {i : Nat} (h : bt s i = 117) {k : Nat} (hk : k < 4) (hx : isHex (bt s (i + 1 + k : Nat)) = false) : escAt s i = none := by
  unfold escAt
  rw [if_neg (by omega), if_pos h, if_neg]
  rintro ⟨h1, h2, h3, h4⟩
  have : k = 0 ∨ k = 1 ∨ k = 2 ∨ k = 3 := by omega
  rcases this with rfl | rfl | rfl | rfl
  · exact absurd (hx.symm.trans h1) (by simp)
  · exact absurd (hx.symm.trans h2) (by simp)
  · exact absurd (hx.symm.trans h3) (by simp)
  · exact absurd (hx.symm.trans h4) (by simp)

theorem here_of (g : Nat) (s : ByteArray) (i : Nat) {c : Int} (hc : bt s i = c) (w : World) (h : RdS w g s i) (hs : s.size ≤ 140737488351232) : Calls Tryz.prog 57 #[rp g] w fun e w' => e = .returned (.int .u8 c) ∧ ∃ n, w' = w.drewN n := by
  subst hc; exact here g s i w h hs

set_option maxHeartbeats 2000000 in
theorem escape (g : Nat) (s : ByteArray) (i : Nat) (w : World) (h : RdS w g s i) (hs : s.size ≤ 140737488351232) (hi : i ≤ s.size) :
    Calls Tryz.prog 83 #[rp g] w (OptPost w g s (escAt s i)) := by
  have c1 := h.c1
  have f1 := h.f1
  have HM := Lib.hid (Mv.refl h)
  clear h
  by_cases hq : bt s i = 34 ∨ bt s i = 92 ∨ bt s i = 47 ∨ bt s i = 98 ∨ bt s i = 102 ∨ bt s i = 110 ∨ bt s i = 114 ∨ bt s i = 116
  · have hlt : i < s.size := lt_of_bt (by omega)
    have HE := Lib.hid (esc_letter hq)
    rcases hq with hq | hq | hq | hq | hq | hq | hq | hq
    all_goals
      have HC := Lib.hid hq
      clear hq
      go_enter Tryz.func83, Tryz.ntmps83
      go_wp2_with (first
        | (go_at_call 57; go_must (refine (here_of g s i HC.out _ HM.out.rd hs).mono ?_); rintro e w' ⟨rfl, n1, rfl⟩))
      go_ret
      exact OptPost.yes ((HM.out.drewN _).bump (by omega)) HE.out (by omega) (by simp)
  · by_cases hu : bt s i = 117
    · have hlt : i < s.size := lt_of_bt (by omega)
      have HC := Lib.hid hu
      clear hq hu
      go_enter Tryz.func83, Tryz.ntmps83
      go_wp2_with (first
        | (go_at_call 57; go_must (refine (here_of g s i HC.out _ HM.out.rd hs).mono ?_); rintro e w' ⟨rfl, n1, rfl⟩))
      have HM1 := Lib.hid ((HM.out.drewN n1).bump (show ((i : Int) + 1) = ((i + 1 : Nat) : Int) by omega))
      clear HM c1 f1
      go_loopg [3] 4 (fun d v3 wr => ∃ k : Nat, v3 = .int .i64 k ∧ k + d = 4 ∧ Mv w wr g s (i + 1 + k) ∧ i + 1 + k ≤ s.size ∧ (∀ j : Nat, j < k → isHex (bt s (i + 1 + j : Nat)) = true))
      case atStart => exact ⟨0, rfl, rfl, HM1.out, by omega, fun j hj => absurd hj (by omega)⟩
      case round =>
        obtain ⟨k, rfl, hd, hM, htop, hall⟩ := hrel
        have HD := Lib.hid hd
        have HM := Lib.hid hM
        have HA := Lib.hid hall
        clear hd hM hall HM1
        have c1 := HM.out.rd.c1
        have f1 := HM.out.rd.f1
        by_cases hk : k < 4
        · have hr := bt_range s (i + 1 + k : Nat)
          cases hx : isHex (bt s (i + 1 + k : Nat)) with
          | true =>
            have HX := Lib.hid hx
            have hlt2 := hex_ne hx
            clear hx
            generalize hc : bt s (i + 1 + k : Nat) = c at *
            have HB := Lib.hid hc
            clear hc
            go_wp2_with (first
              | (go_at_call 57; go_must (refine (here_of g s (i + 1 + k) HB.out _ HM.out.rd hs).mono ?_); rintro e w' ⟨rfl, n2, rfl⟩)
              | (go_at_call 63; go_must (refine (hex_of c (by omega) (by omega) HX.out _).mono ?_); rintro e w' ⟨rfl, rfl⟩))
            go_roundg (gk - 1)
            case measure => have := HD.out; omega
            case rel =>
              have hd := HD.out
              exact ⟨k + 1, by go_num, by omega, (HM.out.drewN _).bump (by omega), by omega, fun j hj => by
                by_cases e : j = k
                · subst e; rw [HB.out]; exact HX.out
                · exact HA.out j (by omega)⟩
          | false =>
            have HX := Lib.hid hx
            clear hx
            generalize hc : bt s (i + 1 + k : Nat) = c at *
            have HB := Lib.hid hc
            clear hc
            go_wp2_with (first
              | (go_at_call 57; go_must (refine (here_of g s (i + 1 + k) HB.out _ HM.out.rd hs).mono ?_); rintro e w' ⟨rfl, n2, rfl⟩)
              | (go_at_call 63; go_must (refine (hex_of c (by omega) (by omega) HX.out _).mono ?_); rintro e w' ⟨rfl, rfl⟩))
            go_ret
            exact OptPost.no (HM.out.drewN _) (esc_bad HC.out hk (by rw [HB.out]; exact HX.out)) htop (by simp)
        · have hk4 : k = 4 := by have := HD.out; omega
          have HK := Lib.hid hk4
          clear hk4
          go_wp2
          go_ret
          have hk4 := HK.out
          subst hk4
          exact OptPost.yes HM.out (by rw [esc_u HC.out HA.out]) htop (by simp)
    · have HE := Lib.hid (esc_other hq hu)
      have hr := bt_range s i
      generalize hc : bt s i = c at *
      have HC := Lib.hid hc
      clear hc
      have q1 : ¬ c = 34 := by omega
      have q2 : ¬ c = 92 := by omega
      have q3 : ¬ c = 47 := by omega
      have q4 : ¬ c = 98 := by omega
      have q5 : ¬ c = 102 := by omega
      have q6 : ¬ c = 110 := by omega
      have q7 : ¬ c = 114 := by omega
      have q8 : ¬ c = 116 := by omega
      clear hq
      go_enter Tryz.func83, Tryz.ntmps83
      go_wp2_with (first
        | (go_at_call 57; go_must (refine (here_of g s i HC.out _ HM.out.rd hs).mono ?_); rintro e w' ⟨rfl, n1, rfl⟩))
      go_ret
      exact OptPost.no (HM.out.drewN _) HE.out hi (by simp)

theorem str_end {s : ByteArray} {k i : Nat} (h : i < s.size) (h34 : bt s i = 34) : strN s (k + 1) i = some (i + 1) := by
  simp only [strN]; rw [if_pos h, if_pos h34]
theorem str_low {s : ByteArray} {k i : Nat} (h : i < s.size) (h34 : ¬ bt s i = 34) (hl : bt s i < 32) : strN s (k + 1) i = none := by
  simp only [strN]; rw [if_pos h, if_neg h34, if_pos hl]
theorem str_esc {s : ByteArray} {k i j : Nat} (h : i < s.size) (h92 : bt s i = 92) (he : escAt s (i + 1) = some j) : strN s (k + 1) i = strN s k j := by
  simp only [strN]; rw [if_pos h, if_neg (by omega), if_neg (by omega), if_pos h92, he]
theorem str_escbad {s : ByteArray} {k i : Nat} (h : i < s.size) (h92 : bt s i = 92) (he : escAt s (i + 1) = none) : strN s (k + 1) i = none := by
  simp only [strN]; rw [if_pos h, if_neg (by omega), if_neg (by omega), if_pos h92, he]
theorem str_next {s : ByteArray} {k i : Nat} (h : i < s.size) (h34 : ¬ bt s i = 34) (hl : ¬ bt s i < 32) (h92 : ¬ bt s i = 92) : strN s (k + 1) i = strN s k (i + 1) := by
  simp only [strN]; rw [if_pos h, if_neg h34, if_neg hl, if_neg h92]
theorem str_out {s : ByteArray} {k i : Nat} (h : ¬ i < s.size) : strN s k i = none := by
  cases k with
  | zero => rfl
  | succ k => simp only [strN]; rw [if_neg h]

theorem escape_yes (g : Nat) (s : ByteArray) (i j : Nat) (w : World) (h : RdS w g s i) (hs : s.size ≤ 140737488351232) (hi : i ≤ s.size) (he : escAt s i = some j) :
    Calls Tryz.prog 83 #[rp g] w fun e w' => e = .returned (.bool true) ∧ Mv w w' g s j := by
  refine (escape g s i w h hs hi).mono ?_
  rintro e w' ⟨l, _, hM, rfl, hl⟩
  rw [he] at hl ⊢
  have := hl j rfl
  subst this
  exact ⟨rfl, hM⟩
theorem escape_no (g : Nat) (s : ByteArray) (i : Nat) (w : World) (h : RdS w g s i) (hs : s.size ≤ 140737488351232) (hi : i ≤ s.size) (he : escAt s i = none) :
    Calls Tryz.prog 83 #[rp g] w fun e w' => e = .returned (.bool false) ∧ ∃ j, j ≤ s.size ∧ Mv w w' g s j := by
  refine (escape g s i w h hs hi).mono ?_
  rintro e w' ⟨l, hl, hM, rfl, _⟩
  rw [he]
  exact ⟨rfl, l, hl, hM⟩

set_option maxHeartbeats 2000000 in
theorem quoted (g : Nat) (s : ByteArray) (i : Nat) (w : World) (h : RdS w g s i) (hs : s.size ≤ 140737488351232) (hi : i < s.size) :
    Calls Tryz.prog 60 #[rp g] w (OptPost w g s (strAt s i)) := by
  have c1 := h.c1
  have f1 := h.f1
  have HM := Lib.hid (Mv.refl h)
  clear h
  go_enter Tryz.func60, Tryz.ntmps60
  go_wp2
  have HM1 := Lib.hid (HM.out.bump (show ((i : Int) + 1) = ((i + 1 : Nat) : Int) by omega))
  clear HM c1 f1
  go_loopg [] (s.size + 1) (fun d wr => ∃ k : Nat, Mv w wr g s k ∧ strN s d k = strAt s i ∧ k ≤ s.size ∧ s.size - k < d)
  case atStart => exact ⟨i + 1, HM1.out, rfl, by omega, by omega⟩
  case round =>
    obtain ⟨k, hM, hstr, hk, hfu⟩ := hrel
    obtain ⟨d, rfl⟩ : ∃ d, gk = d + 1 := ⟨gk - 1, by omega⟩
    have HM := Lib.hid hM
    have HS := Lib.hid hstr
    clear hM hstr HM1
    have c0 := HM.out.rd.c0
    have c1 := HM.out.rd.c1
    have f1 := HM.out.rd.f1
    by_cases hlt : k < s.size
    · have hx : ∀ h : k < s.size, ((s[k]'h).toNat : Int) = bt s k := bt_at s k
      have hr := bt_range s k
      by_cases h34 : bt s k = 34
      · have HE := Lib.hid ((str_end (k := d) hlt h34).symm.trans HS.out)
        clear hr
        go_wp2
        go_quiet (fail)
        go_wp2
        go_quiet (fail)
        go_wp2
        go_ret
        exact OptPost.yes ((HM.out.drewN _).next) HE.out.symm (by omega) (by simp)
      · by_cases hl : bt s k < 32
        · have HE := Lib.hid ((str_low (k := d) hlt h34 hl).symm.trans HS.out)
          generalize hc : bt s k = c at *
          clear hc
          go_wp2
          go_quiet (fail)
          go_wp2
          go_quiet (fail)
          go_wp2
          go_ret
          exact OptPost.no ((HM.out.drewN _).next) HE.out.symm (by omega) (by simp)
        · by_cases h92 : bt s k = 92
          · cases he : escAt s (k + 1) with
            | some j =>
              have HE := Lib.hid ((str_esc (k := d) hlt h92 he).symm.trans HS.out)
              have hj := escAt_step he
              have HX := Lib.hid he
              clear he hr
              rw [h92] at hx
              clear h34 hl h92
              go_wp2
              go_quiet (fail)
              go_wp2
              go_quiet (fail)
              go_wp2_with (first
                | (go_at_call 83; go_must (refine (escape_yes g s (k + 1) j _ ((HM.out.drewN _).next).rd hs (by omega) HX.out).mono ?_); rintro e w' ⟨rfl, hM2⟩))
              go_roundg d
              case measure => omega
              case rel => exact ⟨j, ((HM.out.drewN _).next).trans hM2, HE.out, hj.2, by omega⟩
            | none =>
              have HE := Lib.hid ((str_escbad (k := d) hlt h92 he).symm.trans HS.out)
              have HX := Lib.hid he
              clear he hr
              rw [h92] at hx
              clear h34 hl h92
              go_wp2
              go_quiet (fail)
              go_wp2
              go_quiet (fail)
              go_wp2_with (first
                | (go_at_call 83; go_must (refine (escape_no g s (k + 1) _ ((HM.out.drewN _).next).rd hs (by omega) HX.out).mono ?_); rintro e w' ⟨rfl, j, hj, hM2⟩))
              go_ret
              exact OptPost.no (((HM.out.drewN _).next).trans hM2) HE.out.symm hj (by simp)
          · have HE := Lib.hid ((str_next (k := d) hlt h34 hl h92).symm.trans HS.out)
            generalize hc : bt s k = c at *
            clear hc
            go_wp2
            go_quiet (fail)
            go_wp2
            go_quiet (fail)
            go_wp2
            go_roundg d
            case measure => omega
            case rel => exact ⟨k + 1, (HM.out.drewN _).next, HE.out, by omega, by omega⟩
    · have HE := Lib.hid ((str_out (k := d + 1) hlt).symm.trans HS.out)
      go_wp2
      go_quiet (fail)
      go_wp2
      go_ret
      exact OptPost.no (HM.out.drewN _) HE.out.symm hk (by simp)

theorem word (g : Nat) (s : ByteArray) (i : Nat) (t : ByteArray) (w : World) (h : RdS w g s i) (hs : s.size ≤ 140737488351232) (hi : i ≤ s.size) (ht : t.size ≤ 1000) :
    Calls Tryz.prog 62 #[rp g, .string t] w fun e w' => e = .returned (.bool (wordAt s i t)) ∧ Mv w w' g s (if wordAt s i t = true then i + t.size else i) := by
  have c0 := h.c0
  have c1 := h.c1
  have f1 := h.f1
  have HM := Lib.hid (Mv.refl h)
  clear h
  by_cases hfit : i + t.size ≤ s.size
  · have g0 : (0 : Int) ≤ (i : Int) := by omega
    have g1 : (i : Int) ≤ (i : Int) + (t.size : Int) := by omega
    have g2 : (i : Int) + (t.size : Int) ≤ (s.size : Int) := by omega
    have hsl : ∀ W : World, (Instr.slice 9 (.string s) (some (.int .i64 (i : Int))) (some (.int .i64 ((i : Int) + (t.size : Int)))) none).run Tryz.prog W = .ok (.string (s.extract i (i + t.size))) W := fun W => by
      rw [run_slice_string W 9 s .i64 .i64 _ _ Tryz.underlying9 g0 g1 g2]
      have e : ((i : Int) + (t.size : Int)).toNat = i + t.size := by omega
      rw [e]; simp
    have hd : decide ((s.size : Int) - (i : Int) < (t.size : Int)) = false := by simp; omega
    by_cases heq : s.extract i (i + t.size) = t
    · have hw : wordAt s i t = true := by simp [wordAt, hfit, heq]
      rw [hw, if_pos rfl]
      have hne : ((s.extract i (i + t.size)).toList == t.toList) = true := by rw [heq]; simp
      clear hw heq
      generalize s.extract i (i + t.size) = r at hsl hne
      go_enter Tryz.func62, Tryz.ntmps62
      go_wp2
      go_quiet (fail)
      go_wp2
      go_ret
      exact ⟨by simp, (HM.out.drewN _).bump (by omega)⟩
    · have hw : wordAt s i t = false := by simp [wordAt, heq]
      rw [hw, if_neg (by simp)]
      have hne : ((s.extract i (i + t.size)).toList == t.toList) = false := by
        rw [beq_eq_false_iff_ne]
        exact fun h => heq (toList_inj h)
      clear hw heq
      generalize s.extract i (i + t.size) = r at hsl hne
      go_enter Tryz.func62, Tryz.ntmps62
      go_wp2
      go_quiet (fail)
      go_wp2
      go_ret
      exact ⟨by simp, HM.out.drewN _⟩
  · have hw : wordAt s i t = false := by simp [wordAt, hfit]
    rw [hw, if_neg (by simp)]
    have hd : decide ((s.size : Int) - (i : Int) < (t.size : Int)) = true := by simp; omega
    clear hw
    go_enter Tryz.func62, Tryz.ntmps62
    go_wp2
    go_quiet (fail)
    go_wp2
    go_ret
    exact ⟨by simp, HM.out.drewN _⟩
end Go.Proofs.YtkdkdhcjpgmjdaaGreatDoor.L
