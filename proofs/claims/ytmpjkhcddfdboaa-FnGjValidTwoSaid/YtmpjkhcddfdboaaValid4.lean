/- The walks of gjson's Valid, fourth part: validarray. -/
import Derived.Test.YtmpjkhcddfdboaaValid2
import Derived.Test.YtmpjkhcddfdboaaReader3
namespace Go.Proofs.Ytmpjkhcddfdboaa.L
open Go.RowKit
set_option linter.unusedVariables false
set_option linter.unusedSimpArgs false

/-- What validany does, n levels deep. -/
def VC (s : ByteArray) (n : Nat) : Prop := ∀ (A : Option Addr) (c i : Nat) (w : World), Sl w A s c → i ≤ s.size → s.size - i < n →
  Calls Try.prog 22 #[.slice A s.size c, .int .i64 (i : Int)] w (VPost ((valN s n (skip isBlank s i)).map (·.1)) w)
theorem VC.yes {s : ByteArray} {n : Nat} (hv : VC s n) (A : Option Addr) (c i : Nat) (w : World) (h : Sl w A s c) (hi : i ≤ s.size) (hn : s.size - i < n) {j : Nat} {p : Pl} (hr : valN s n (skip isBlank s i) = some (j, p)) :
    Calls Try.prog 22 #[.slice A s.size c, .int .i64 (i : Int)] w fun e w' => e = .returned (.tuple #[.int .i64 (j : Int), .bool true]) ∧ w' = w :=
  (hv A c i w h hi hn).mono fun e w' hp => hp.some (by rw [hr]; rfl)
theorem VC.no {s : ByteArray} {n : Nat} (hv : VC s n) (A : Option Addr) (c i : Nat) (w : World) (h : Sl w A s c) (hi : i ≤ s.size) (hn : s.size - i < n) (hr : valN s n (skip isBlank s i) = none) :
    Calls Try.prog 22 #[.slice A s.size c, .int .i64 (i : Int)] w fun e w' => ∃ j : Int, e = .returned (.tuple #[.int .i64 j, .bool false]) ∧ w' = w :=
  (hv A c i w h hi hn).mono fun e w' hp => hp.none (by rw [hr]; rfl)
theorem comma_yes (A : Option Addr) (s : ByteArray) (c i0 : Nat) (q : Int) (w : World) (h : Sl w A s c) (hi : i0 ≤ s.size) (hq : q = 93 ∨ q = 125) {j : Nat} (hr : commaAt s q i0 = some j) :
    Calls Try.prog 32 #[.slice A s.size c, .int .i64 (i0 : Int), .int .u8 q] w fun e w' => e = .returned (.tuple #[.int .i64 (j : Int), .bool true]) ∧ w' = w :=
  (commaW A s c i0 q w h hi hq).mono fun e w' hp => hp.some hr
theorem comma_no (A : Option Addr) (s : ByteArray) (c i0 : Nat) (q : Int) (w : World) (h : Sl w A s c) (hi : i0 ≤ s.size) (hq : q = 93 ∨ q = 125) (hr : commaAt s q i0 = none) :
    Calls Try.prog 32 #[.slice A s.size c, .int .i64 (i0 : Int), .int .u8 q] w fun e w' => ∃ j : Int, e = .returned (.tuple #[.int .i64 j, .bool false]) ∧ w' = w :=
  (commaW A s c i0 q w h hi hq).mono fun e w' hp => hp.none hr
theorem val_end (s : ByteArray) (n : Nat) : valN s n s.size = none := by
  cases h : valN s n s.size with
  | none => rfl
  | some r =>
    obtain ⟨j, p⟩ := r
    have := valN_fwd s n _ _ _ (Nat.le_refl _) h
    omega
theorem skip_end (p : Int → Bool) (s : ByteArray) : skip p s s.size = s.size := skip_no (by omega)

set_option maxRecDepth 100000 in
set_option maxHeartbeats 4000000 in
theorem arrayW {s : ByteArray} {n : Nat} (hv : VC s n) (A : Option Addr) (c i0 : Nat) (w : World) (h : Sl w A s c) (hi : i0 < s.size) (hn : s.size - i0 ≤ n) :
    Calls Try.prog 25 #[.slice A s.size c, .int .i64 ((i0 : Int) + 1)] w (VPost ((elemsAt (valN s n) s i0).map (·.1)) w) := by
  have hs := h.sz
  have HV := Lib.hid hv
  have HSL := Lib.hid h
  clear h hv
  go_enter Try.func25, Try.ntmps25
  go_wp2
  go_loopg [1] (s.size + 2 - (i0 + 1)) (fun d v1 wr => ∃ i : Nat, v1 = .int .i64 (i : Int) ∧ wr = w ∧ d = s.size + 2 - i ∧ i0 < i ∧ ((i ≤ s.size ∧ skip isBlank s i = skip isBlank s (i0 + 1)) ∨ (i = s.size + 1 ∧ elemsAt (valN s n) s i0 = none)))
  case atStart => exact ⟨i0 + 1, by go_num, rfl, rfl, by omega, .inl ⟨by omega, rfl⟩⟩
  case round =>
    obtain ⟨i, rfl, hwr, hd, hi0, hrest⟩ := hrel
    subst hwr
    have HD := Lib.hid hd
    have HREST := Lib.hid hrest
    clear hd hrest
    by_cases hlt : i < s.size
    · obtain ⟨ad, rfl, hcell⟩ := HSL.out.rd.at_ hlt
      have hk : skip isBlank s i = skip isBlank s (i0 + 1) := by
        rcases HREST.out with h | h
        · exact h.2
        · omega
      have HK := Lib.hid hk
      clear hk HREST
      have hr := bt_range s i
      obtain ⟨x, hx⟩ : ∃ x, bt s i = x := ⟨_, rfl⟩
      rw [hx] at hcell hr
      have HX := Lib.hid hx
      clear hx
      by_cases hb : isBlank x = true
      · have HS := Lib.hid (skip_yes (p := isBlank) hlt (by rw [HX.out]; exact hb))
        rcases blank_cases hb with rfl | rfl | rfl | rfl
        all_goals
          go_wp2
          go_roundg (s.size + 2 - (i + 1))
          case measure => have := HD.out; omega
          case rel => exact ⟨i + 1, by go_num, rfl, rfl, by omega, .inl ⟨by omega, HS.out.symm.trans HK.out⟩⟩
      · have HS := Lib.hid (skip_no (p := isBlank) (s := s) (i := i) (by rw [HX.out]; exact fun h => hb h.2))
        obtain ⟨b1, b2, b3, b4⟩ := blank_not hb
        clear hb
        by_cases h93 : x = 93
        · have HE := Lib.hid (show (elemsAt (valN s n) s i0).map (·.1) = some (i + 1) by unfold elemsAt; rw [← HK.out, HS.out, if_pos (by rw [HX.out]; exact h93)]; rfl)
          subst h93
          go_wp2
          go_ret2
          exact VPost.yes rfl HE.out rfl (by omega)
        · have HE := Lib.hid (show elemsAt (valN s n) s i0 = elemsN (valN s n) s (s.size + 1) i [] by unfold elemsAt; rw [← HK.out, HS.out, if_neg (by rw [HX.out]; exact h93)])
          have c1 : (x == 32) = false := beq_false_of_ne b1
          have c2 : (x == 9) = false := beq_false_of_ne b2
          have c3 : (x == 10) = false := beq_false_of_ne b3
          have c4 : (x == 13) = false := beq_false_of_ne b4
          have c5 : (x == 93) = false := beq_false_of_ne h93
          go_wp2
          go_loopg [1] (s.size + 1) (fun d v1 wr' => ∃ (k : Nat) (acc : List Pl), v1 = .int .i64 (k : Int) ∧ wr' = wr ∧ elemsN (valN s n) s d (skip isBlank s k) acc = elemsAt (valN s n) s i0 ∧ i0 < k ∧ k ≤ s.size ∧ s.size - k < d)
          case atStart => exact ⟨i, [], rfl, rfl, by rw [HE.out, HS.out], hi0, by omega, by omega⟩
          case round =>
            obtain ⟨k, acc, rfl, hwr, hel, hik, hkl, hfu⟩ := hrel
            subst hwr
            obtain ⟨d, rfl⟩ : ∃ d, gk = d + 1 := ⟨gk - 1, by omega⟩
            have HEL := Lib.hid hel
            clear hel hcell
            by_cases hkk : k < s.size
            · cases hval : valN s n (skip isBlank s k) with
              | none =>
                have HVAL := Lib.hid hval
                have HR := Lib.hid (show (elemsAt (valN s n) s i0).map (·.1) = none by rw [← HEL.out, el_fail hval]; rfl)
                clear hval
                go_wp2_with (first
                  | (go_at_call 22; go_must (refine (HV.out.no _ c k _ HSL.out hkl (by omega) HVAL.out).mono ?_); rintro e w' ⟨j, rfl, rfl⟩))
                go_ret2
                exact VPost.no rfl HR.out rfl
              | some lp =>
                obtain ⟨l, p⟩ := lp
                have HVAL := Lib.hid hval
                have hl := valN_fwd s n _ _ _ (skip_top isBlank s hkl) hval
                have hl2 := skip_le isBlank s k
                clear hval
                obtain ⟨q, hq⟩ : ∃ q, skip isBlank s l = q := ⟨_, rfl⟩
                have hq0 := skip_le isBlank s l
                have hq1 := skip_top isBlank s hl.2
                rw [hq] at hq0 hq1
                have HQ := Lib.hid hq
                clear hq
                by_cases h93 : bt s q = 93
                · have hqlt := lt_of_bt (s := s) (i := q) (by omega)
                  have HC := Lib.hid (show commaAt s 93 l = some q by unfold commaAt; rw [HQ.out, if_pos (.inr h93)])
                  have HR := Lib.hid (show (elemsAt (valN s n) s i0).map (·.1) = some (q + 1) by rw [← HEL.out, el_end HVAL.out (by rw [HQ.out]; exact h93), HQ.out]; rfl)
                  obtain ⟨ad', had, hcell⟩ := HSL.out.rd.at_ hqlt
                  injection had with had
                  subst had
                  rw [h93] at hcell
                  clear h93
                  go_wp2_with (first
                    | (go_at_call 22; go_must (refine (HV.out.yes _ c k _ HSL.out hkl (by omega) HVAL.out).mono ?_); rintro e w' ⟨rfl, rfl⟩)
                    | (go_at_call 32; go_must (refine (comma_yes _ s c l 93 _ HSL.out hl.2 (by omega) HC.out).mono ?_); rintro e w' ⟨rfl, rfl⟩))
                  go_ret2
                  exact VPost.yes rfl HR.out rfl (by omega)
                · by_cases h44 : bt s q = 44
                  · have hqlt := lt_of_bt (s := s) (i := q) (by omega)
                    have HC := Lib.hid (show commaAt s 93 l = some q by unfold commaAt; rw [HQ.out, if_pos (.inl h44)])
                    have HR := Lib.hid ((el_more (k := d) (acc := acc) HVAL.out (by rw [HQ.out]; exact h93) (by rw [HQ.out]; exact h44)).symm.trans HEL.out)
                    obtain ⟨ad', had, hcell⟩ := HSL.out.rd.at_ hqlt
                    injection had with had
                    subst had
                    rw [h44] at hcell
                    clear h93 h44
                    go_wp2_with (first
                      | (go_at_call 22; go_must (refine (HV.out.yes _ c k _ HSL.out hkl (by omega) HVAL.out).mono ?_); rintro e w' ⟨rfl, rfl⟩)
                      | (go_at_call 32; go_must (refine (comma_yes _ s c l 93 _ HSL.out hl.2 (by omega) HC.out).mono ?_); rintro e w' ⟨rfl, rfl⟩))
                    go_roundg d
                    case measure => omega
                    case rel => exact ⟨q + 1, _, by go_num, rfl, by rw [← HQ.out]; exact HR.out, by omega, by omega, by omega⟩
                  · have HC := Lib.hid (show commaAt s 93 l = none by unfold commaAt; rw [HQ.out, if_neg (by omega)])
                    have HR := Lib.hid (show (elemsAt (valN s n) s i0).map (·.1) = none by rw [← HEL.out, el_bad HVAL.out (by rw [HQ.out]; exact h93) (by rw [HQ.out]; exact h44)]; rfl)
                    clear h93 h44
                    go_wp2_with (first
                      | (go_at_call 22; go_must (refine (HV.out.yes _ c k _ HSL.out hkl (by omega) HVAL.out).mono ?_); rintro e w' ⟨rfl, rfl⟩)
                      | (go_at_call 32; go_must (refine (comma_no _ s c l 93 _ HSL.out hl.2 (by omega) HC.out).mono ?_); rintro e w' ⟨j, rfl, rfl⟩))
                    go_ret2
                    exact VPost.no rfl HR.out rfl
            · obtain rfl : k = s.size := by omega
              have HR := Lib.hid (show elemsAt (valN s n) s i0 = none by rw [← HEL.out, el_fail (by rw [skip_end]; exact val_end s n)])
              go_wp2
              go_roundg (s.size + 2 - (s.size + 1))
              case measure => have := HD.out; omega
              case rel => exact ⟨s.size + 1, by go_num, rfl, rfl, by omega, .inr ⟨rfl, HR.out⟩⟩
    · have HR := Lib.hid (show (elemsAt (valN s n) s i0).map (·.1) = none by
        rcases HREST.out with h | h
        · obtain rfl : i = s.size := by omega
          have e : skip isBlank s (i0 + 1) = s.size := by rw [← h.2, skip_end]
          unfold elemsAt
          rw [e, bt_out s _ (by omega), if_neg (by decide), el_fail (val_end s n)]; rfl
        · rw [h.2]; rfl)
      go_wp2
      go_ret2
      exact VPost.no rfl HR.out rfl
end Go.Proofs.Ytmpjkhcddfdboaa.L
