/- The walks of spec's reader, second part: number, escape, quoted, word. -/
import Derived.Test.YtdcmiggpjjdocaaDoorReader
import Derived.Deep.DeepCutAuto
namespace Go.Proofs.YtdcmiggpjjdocaaDoor.L
open Go.RowKit
set_option linter.unusedVariables false
set_option linter.unusedSimpArgs false

def hexV (c : Int) : Int := if 48 ≤ c ∧ c ≤ 57 then c - 48 else if 97 ≤ c ∧ c ≤ 102 then c - 87 else if 65 ≤ c ∧ c ≤ 70 then c - 55 else 0
theorem hexDigit (c : Int) (h0 : 0 ≤ c) (h1 : c ≤ 255) (w : World) : Calls Tryd.prog 26 #[.int .u8 c] w fun e w' => e = .returned (.tuple #[.int .i64 (hexV c), .bool (isHex c)]) ∧ w' = w := by
  by_cases a : 48 ≤ c ∧ c ≤ 57
  · obtain ⟨a1, a2⟩ := a
    have e1 : hexV c = c - 48 := by unfold hexV; rw [if_pos ⟨a1, a2⟩]
    have e2 : isHex c = true := by simp [isHex, isDigit, a1, a2]
    rw [e1, e2]
    clear e1 e2
    go_enter Tryd.func26, Tryd.ntmps26
    go_wp2
    go_ret2
    exact ⟨by simp, rfl⟩
  · by_cases b : 97 ≤ c ∧ c ≤ 102
    · obtain ⟨a1, a2⟩ := b
      have e1 : hexV c = c - 97 + 10 := by unfold hexV; rw [if_neg a, if_pos ⟨a1, a2⟩]; omega
      have e2 : isHex c = true := by simp [isHex, a1, a2]
      have a3 : ¬ c ≤ 57 := by omega
      rw [e1, e2]
      clear e1 e2 a
      go_enter Tryd.func26, Tryd.ntmps26
      go_wp2
      go_ret2
      exact ⟨by simp, rfl⟩
    · by_cases d : 65 ≤ c ∧ c ≤ 70
      · obtain ⟨a1, a2⟩ := d
        have e1 : hexV c = c - 65 + 10 := by unfold hexV; rw [if_neg a, if_neg b, if_pos ⟨a1, a2⟩]; omega
        have e2 : isHex c = true := by simp [isHex, a1, a2]
        have a3 : ¬ c ≤ 57 := by omega
        have a4 : ¬ 97 ≤ c := by omega
        rw [e1, e2]
        clear e1 e2 a b
        go_enter Tryd.func26, Tryd.ntmps26
        go_wp2
        go_ret2
        exact ⟨by simp, rfl⟩
      · have e1 : hexV c = 0 := by unfold hexV; rw [if_neg a, if_neg b, if_neg d]
        have e2 : isHex c = false := by
          simp [isHex, isDigit]
          omega
        rw [e1, e2]
        clear e1 e2
        by_cases a1 : 48 ≤ c
        · have a2 : ¬ c ≤ 57 := by omega
          by_cases b1 : 97 ≤ c
          · have b2 : ¬ c ≤ 102 := by omega
            have d2 : ¬ c ≤ 70 := by omega
            have d1 : 65 ≤ c := by omega
            clear a b d
            go_enter Tryd.func26, Tryd.ntmps26
            go_wp2
            go_ret2
            exact ⟨by simp, rfl⟩
          · by_cases d1 : 65 ≤ c
            · have d2 : ¬ c ≤ 70 := by omega
              clear a b d
              go_enter Tryd.func26, Tryd.ntmps26
              go_wp2
              go_ret2
              exact ⟨by simp, rfl⟩
            · clear a b d
              go_enter Tryd.func26, Tryd.ntmps26
              go_wp2
              go_ret2
              exact ⟨by simp, rfl⟩
        · have b1 : ¬ 97 ≤ c := by omega
          have d1 : ¬ 65 ≤ c := by omega
          clear a b d
          go_enter Tryd.func26, Tryd.ntmps26
          go_wp2
          go_ret2
          exact ⟨by simp, rfl⟩
theorem hex_of {b : Bool} (c : Int) (h0 : 0 ≤ c) (h1 : c ≤ 255) (hb : isHex c = b) (w : World) : Calls Tryd.prog 26 #[.int .u8 c] w fun e w' => e = .returned (.tuple #[.int .i64 (hexV c), .bool b]) ∧ w' = w := by
  subst hb; exact hexDigit c h0 h1 w

theorem esc_letter {s : ByteArray} {i : Nat} (h : bt s i = 34 ∨ bt s i = 92 ∨ bt s i = 47 ∨ bt s i = 98 ∨ bt s i = 102 ∨ bt s i = 110 ∨ bt s i = 114 ∨ bt s i = 116) : escAt s i = some (i + 1) := by unfold escAt; rw [if_pos h]
theorem esc_other {s : ByteArray} {i : Nat} (h : ¬ (bt s i = 34 ∨ bt s i = 92 ∨ bt s i = 47 ∨ bt s i = 98 ∨ bt s i = 102 ∨ bt s i = 110 ∨ bt s i = 114 ∨ bt s i = 116)) (h2 : ¬ bt s i = 117) : escAt s i = none := by unfold escAt; rw [if_neg h, if_neg h2]
theorem esc_u {s : ByteArray} {i : Nat} (h : bt s i = 117) (hx : ∀ k : Nat, k < 4 → isHex (bt s (i + 1 + k : Nat)) = true) : escAt s i = some (i + 5) := by
  unfold escAt
  rw [if_neg (by omega), if_pos h, if_pos ⟨hx 0 (by omega), hx 1 (by omega), hx 2 (by omega), hx 3 (by omega)⟩]
theorem esc_bad {s : ByteArray} {i : Nat} (h : bt s i = 117) {k : Nat} (hk : k < 4) (hx : isHex (bt s (i + 1 + k : Nat)) = false) : escAt s i = none := by
  unfold escAt
  rw [if_neg (by omega), if_pos h, if_neg]
  rintro ⟨h1, h2, h3, h4⟩
  have : k = 0 ∨ k = 1 ∨ k = 2 ∨ k = 3 := by omega
  rcases this with rfl | rfl | rfl | rfl
  · exact absurd (hx.symm.trans h1) (by simp)
  · exact absurd (hx.symm.trans h2) (by simp)
  · exact absurd (hx.symm.trans h3) (by simp)
  · exact absurd (hx.symm.trans h4) (by simp)

theorem here_of (g : Nat) (s : ByteArray) (i : Nat) {c : Int} (hc : bt s i = c) (w : World) (h : RdS w g s i) (hs : s.size ≤ 140737488351232) : Calls Tryd.prog 25 #[rp g] w fun e w' => e = .returned (.int .u8 c) ∧ ∃ n, w' = w.drewN n := by
  subst hc; exact here g s i w h hs

set_option maxHeartbeats 2000000 in
theorem escape (g : Nat) (s : ByteArray) (i : Nat) (w : World) (h : RdS w g s i) (hs : s.size ≤ 140737488351232) (hi : i ≤ s.size) :
    Calls Tryd.prog 13 #[rp g] w (OptPost w g s (escAt s i)) := by
  have c1 := h.c1
  have f1 := h.f1
  have HM := Lib.hid (Mv.refl h)
  clear h
  by_cases hq : bt s i = 34 ∨ bt s i = 92 ∨ bt s i = 47 ∨ bt s i = 98 ∨ bt s i = 102 ∨ bt s i = 110 ∨ bt s i = 114 ∨ bt s i = 116
  · have hlt : i < s.size := lt_of_bt (by omega)
    have HE := Lib.hid (esc_letter hq)
    rcases hq with hq | hq | hq | hq | hq | hq | hq | hq
    all_goals
      have HC := Lib.hid hq
      clear hq
      go_enter Tryd.func13, Tryd.ntmps13
      go_wp2_with (first
        | (go_at_call 25; go_must (refine (here_of g s i HC.out _ HM.out.rd hs).mono ?_); rintro e w' ⟨rfl, n1, rfl⟩))
      go_ret
      exact OptPost.yes ((HM.out.drewN _).bump (by omega)) HE.out (by omega) (by simp)
  · by_cases hu : bt s i = 117
    · have hlt : i < s.size := lt_of_bt (by omega)
      have HC := Lib.hid hu
      clear hq hu
      go_enter Tryd.func13, Tryd.ntmps13
      go_wp2_with (first
        | (go_at_call 25; go_must (refine (here_of g s i HC.out _ HM.out.rd hs).mono ?_); rintro e w' ⟨rfl, n1, rfl⟩))
      have HM1 := Lib.hid ((HM.out.drewN n1).bump (show ((i : Int) + 1) = ((i + 1 : Nat) : Int) by omega))
      clear HM c1 f1
      go_loopg [3] 4 (fun d v3 wr => ∃ k : Nat, v3 = .int .i64 k ∧ k + d = 4 ∧ Mv w wr g s (i + 1 + k) ∧ i + 1 + k ≤ s.size ∧ (∀ j : Nat, j < k → isHex (bt s (i + 1 + j : Nat)) = true))
      case atStart => exact ⟨0, rfl, rfl, HM1.out, by omega, fun j hj => absurd hj (by omega)⟩
      case round =>
        obtain ⟨k, rfl, hd, hM, htop, hall⟩ := hrel
        have HD := Lib.hid hd
        have HM := Lib.hid hM
        have HA := Lib.hid hall
        clear hd hM hall HM1
        have c1 := HM.out.rd.c1
        have f1 := HM.out.rd.f1
        by_cases hk : k < 4
        · have hr := bt_range s (i + 1 + k : Nat)
          cases hx : isHex (bt s (i + 1 + k : Nat)) with
          | true =>
            have HX := Lib.hid hx
            have hlt2 := hex_ne hx
            clear hx
            generalize hc : bt s (i + 1 + k : Nat) = c at *
            have HB := Lib.hid hc
            clear hc
            go_wp2_with (first
              | (go_at_call 25; go_must (refine (here_of g s (i + 1 + k) HB.out _ HM.out.rd hs).mono ?_); rintro e w' ⟨rfl, n2, rfl⟩)
              | (go_at_call 26; go_must (refine (hex_of c (by omega) (by omega) HX.out _).mono ?_); rintro e w' ⟨rfl, rfl⟩))
            go_roundg (gk - 1)
            case measure => have := HD.out; omega
            case rel =>
              have hd := HD.out
              exact ⟨k + 1, by go_num, by omega, (HM.out.drewN _).bump (by omega), by omega, fun j hj => by
                by_cases e : j = k
                · subst e; rw [HB.out]; exact HX.out
                · exact HA.out j (by omega)⟩
          | false =>
            have HX := Lib.hid hx
            clear hx
            generalize hc : bt s (i + 1 + k : Nat) = c at *
            have HB := Lib.hid hc
            clear hc
            go_wp2_with (first
              | (go_at_call 25; go_must (refine (here_of g s (i + 1 + k) HB.out _ HM.out.rd hs).mono ?_); rintro e w' ⟨rfl, n2, rfl⟩)
              | (go_at_call 26; go_must (refine (hex_of c (by omega) (by omega) HX.out _).mono ?_); rintro e w' ⟨rfl, rfl⟩))
            go_ret
            exact OptPost.no (HM.out.drewN _) (esc_bad HC.out hk (by rw [HB.out]; exact HX.out)) htop (by simp)
        · have hk4 : k = 4 := by have := HD.out; omega
          have HK := Lib.hid hk4
          clear hk4
          go_wp2
          go_ret
          have hk4 := HK.out
          subst hk4
          exact OptPost.yes HM.out (by rw [esc_u HC.out HA.out]) htop (by simp)
    · have HE := Lib.hid (esc_other hq hu)
      have hr := bt_range s i
      generalize hc : bt s i = c at *
      have HC := Lib.hid hc
      clear hc
      have q1 : ¬ c = 34 := by omega
      have q2 : ¬ c = 92 := by omega
      have q3 : ¬ c = 47 := by omega
      have q4 : ¬ c = 98 := by omega
      have q5 : ¬ c = 102 := by omega
      have q6 : ¬ c = 110 := by omega
      have q7 : ¬ c = 114 := by omega
      have q8 : ¬ c = 116 := by omega
      clear hq
      go_enter Tryd.func13, Tryd.ntmps13
      go_wp2_with (first
        | (go_at_call 25; go_must (refine (here_of g s i HC.out _ HM.out.rd hs).mono ?_); rintro e w' ⟨rfl, n1, rfl⟩))
      go_ret
      exact OptPost.no (HM.out.drewN _) HE.out hi (by simp)

theorem str_end {s : ByteArray} {k i : Nat} (h : i < s.size) (h34 : bt s i = 34) : strN s (k + 1) i = some (i + 1) := by
  simp only [strN]; rw [if_pos h, if_pos h34]
theorem str_low {s : ByteArray} {k i : Nat} (h : i < s.size) (h34 : ¬ bt s i = 34) (hl : bt s i < 32) : strN s (k + 1) i = none := by
  simp only [strN]; rw [if_pos h, if_neg h34, if_pos hl]
theorem str_esc {s : ByteArray} {k i j : Nat} (h : i < s.size) (h92 : bt s i = 92) (he : escAt s (i + 1) = some j) : strN s (k + 1) i = strN s k j := by
  simp only [strN]; rw [if_pos h, if_neg (by omega), if_neg (by omega), if_pos h92, he]
theorem str_escbad {s : ByteArray} {k i : Nat} (h : i < s.size) (h92 : bt s i = 92) (he : escAt s (i + 1) = none) : strN s (k + 1) i = none := by
  simp only [strN]; rw [if_pos h, if_neg (by omega), if_neg (by omega), if_pos h92, he]
theorem str_next {s : ByteArray} {k i : Nat} (h : i < s.size) (h34 : ¬ bt s i = 34) (hl : ¬ bt s i < 32) (h92 : ¬ bt s i = 92) : strN s (k + 1) i = strN s k (i + 1) := by
  simp only [strN]; rw [if_pos h, if_neg h34, if_neg hl, if_neg h92]
theorem str_out {s : ByteArray} {k i : Nat} (h : ¬ i < s.size) : strN s k i = none := by
  cases k with
  | zero => rfl
  | succ k => simp only [strN]; rw [if_neg h]

theorem escape_yes (g : Nat) (s : ByteArray) (i j : Nat) (w : World) (h : RdS w g s i) (hs : s.size ≤ 140737488351232) (hi : i ≤ s.size) (he : escAt s i = some j) :
    Calls Tryd.prog 13 #[rp g] w fun e w' => e = .returned (.bool true) ∧ Mv w w' g s j := by
  refine (escape g s i w h hs hi).mono ?_
  rintro e w' ⟨l, _, hM, rfl, hl⟩
  rw [he] at hl ⊢
  have := hl j rfl
  subst this
  exact ⟨rfl, hM⟩
theorem escape_no (g : Nat) (s : ByteArray) (i : Nat) (w : World) (h : RdS w g s i) (hs : s.size ≤ 140737488351232) (hi : i ≤ s.size) (he : escAt s i = none) :
    Calls Tryd.prog 13 #[rp g] w fun e w' => e = .returned (.bool false) ∧ ∃ j, j ≤ s.size ∧ Mv w w' g s j := by
  refine (escape g s i w h hs hi).mono ?_
  rintro e w' ⟨l, hl, hM, rfl, _⟩
  rw [he]
  exact ⟨rfl, l, hl, hM⟩

end Go.Proofs.YtdcmiggpjjdocaaDoor.L
