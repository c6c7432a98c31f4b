/- The walk of stringEndConfig at the single quotation mark. -/
import Derived.Test.YtkdkdhcjpgmjdaaGreatDoorJpEnd
namespace Go.Proofs.YtkdkdhcjpgmjdaaGreatDoor.Jp
open Go.RowKit L
set_option linter.unusedVariables false
set_option linter.unusedSimpArgs false
set_option maxRecDepth 100000 in
set_option maxHeartbeats 4000000 in
theorem strEnd39 (A : Option Addr) (s : ByteArray) (c : Nat) (a b : Bool) (n : Int) (w : World) (h : Rd w A s) (hs : s.size ≤ 1000000) (hc : s.size ≤ c) :
    Calls Tryz.prog 89 #[.agg #[.bool a, .bool b, .int .i64 n], .slice A s.size c, .int .u8 39] w (EndPost 39 s w) := by
  have HR := Lib.hid h
  clear h
  go_enter Tryz.func89, Tryz.ntmps89
  go_upto_block 0 with (fail)
  go_cut [10] (fun v10 wx => FrontPost 39 s w wx v10)
  case first =>
    go_wp2_with (fail)
    go_loopg [10] (s.size) (fun d v10 wx => ∃ i : Nat, v10 = .int .i64 (i : Int) ∧ i ≤ s.size ∧ s.size - i ≤ d ∧ Free 39 (tx s) i ∧ Below w.heap.size w wx)
    case atStart => exact ⟨0, rfl, by omega, by omega, Free.zero _ _, below_alloc (Below.refl _ _) _⟩
    case round =>
      obtain ⟨i, rfl, hi, hd, hf, hb⟩ := hrel
      have HF := Lib.hid hf
      have HD := Lib.hid hd
      have HB := Lib.hid hb
      clear hf hd hb
      by_cases h8 : i + 8 ≤ s.size
      · have hle : decide ((i : Int) + 8 ≤ (s.size : Int)) = true := by simp; omega
        have HT := Lib.hid (rdc (HR.out.below HB.out) (i := i) hc)
        have ht8 : 8 ≤ (s.extract i s.size).size := by rw [size_ext]; omega
        go_wp2
        have e1 : IntKind.i64.wrap ((s.size : Int) - (i : Int)) = (s.size : Int) - (i : Int) := IntWalk.i64_in _ (by omega)
        go_region_with (first
          | (go_at_call 101; refine (leW _ (s.extract i s.size) _ _ _ (HT.out.drew) cut_size ht8).mono ?_; rintro e w1 ⟨⟨b0, b1, b2, b3, b4, b5, b6, b7, hb8, rfl⟩, hb1⟩; replace hb8 := Lib.hid hb8; replace hb1 := Lib.hid hb1))
        clear e1
        go_wp2
        · have HN := Lib.hid (swar_walk (q := 39) (Q := 2821266740684990247) (b0 := b0) (b1 := b1) (b2 := b2) (b3 := b3) (b4 := b4) (b5 := b5) (b6 := b6) (b7 := b7) (m := if IntKind.u64.signed = true then -1 else IntKind.u64.max) (by decide) (by decide) (by assumption))
          go_roundg (s.size - (i + 8))
          case measure => have := HD.out; omega
          case rel => exact ⟨i + 8, by go_num, by omega, by omega, HF.out.eight hb8.out HN.out, below_drew_of HB.out hb1.out⟩
        · go_meet
          case rel => exact ⟨i, rfl, hi, HF.out, below_drew_of HB.out hb1.out⟩
      · have hle : decide ((i : Int) + 8 ≤ (s.size : Int)) = false := by simp; omega
        go_wp2
        go_meet
        case rel => exact ⟨i, rfl, hi, HF.out, HB.out⟩
  case rest =>
    obtain ⟨i0, rfl, hi0, hf0, hb0⟩ := hcut
    have HA0 := Lib.hid (Free.at_ (by rw [tx_len]; exact hi0) hf0)
    have HE0 := Lib.hid (Free.esc hf0)
    have HB0 := Lib.hid hb0
    clear hf0 hb0
    go_wp2_with (fail)
    go_loopg [10, 17] (s.size) (fun d v10 v17 wx => ∃ (i : Nat) (b : Bool), v10 = .int .i64 (i : Int) ∧ v17 = .bool b ∧ i ≤ s.size ∧ s.size - i ≤ d ∧ At 39 (tx s) i ∧ esc ((tx s).take i) = b ∧ Below w.heap.size w wx)
    case atStart => exact ⟨i0, false, rfl, rfl, hi0, by omega, HA0.out, HE0.out, HB0.out⟩
    case round =>
      obtain ⟨i, eb, rfl, rfl, hi, hd, hat, hesc, hb⟩ := hrel
      have HAT := Lib.hid hat
      have HD := Lib.hid hd
      have HE := Lib.hid hesc
      have HB := Lib.hid hb
      have HRx := Lib.hid (HR.out.below hb)
      clear hat hd hesc hb
      by_cases hlt : i < s.size
      · obtain ⟨ad, rfl, hcell⟩ := HRx.out.at_ hlt
        have hr := bt_range s i
        obtain ⟨k, hk1, hk2, hk3⟩ := tx_at s i hlt
        obtain ⟨x, hx⟩ : ∃ x, bt s i = x := ⟨_, rfl⟩
        rw [hx] at hcell hr hk2
        have HK1 := Lib.hid hk1
        have HK2 := Lib.hid hk2
        have HK3 := Lib.hid hk3
        clear hx hk1 hk2 hk3
        by_cases hgt : 92 < x
        · have HG := Lib.hid (gt_q HK2.out (q := 39) (by decide) hgt)
          go_wp2
          go_roundg (gk - 1)
          case measure => have := HD.out; omega
          case rel => exact ⟨i + 1, eb, by go_num, rfl, by omega, by have := HD.out; omega, HAT.out.no HK1.out HK3.out HG.out.1 HG.out.2, esc_no HK3.out HG.out.1 HE.out, HB.out⟩
        by_cases hq : x = 39
        · have HQ := Lib.hid ((u8 HK2.out 39).2 hq)
          have HNB := Lib.hid (show ¬ k = 92 by rw [HQ.out]; decide)
          subst hq
          cases eb with
          | false =>
            have HZ := Lib.hid (show ¬ bsl ((tx s).take i) % 2 = 1 by rw [esc_bsl HE.out]; omega)
            go_wp2
            go_ret2
            exact EndPost.yes (HAT.out.found HK1.out (by decide) HQ.out HZ.out) HE.out rfl rfl HB.out
          | true =>
            go_upto_block 4 with (fail)
            go_wp2_with (fail)
            go_loopg [19] (i + 1) (fun d vj wx => ∃ (m : Nat) (z : Int), vj = .int .i64 z ∧ z = (m : Int) - 1 ∧ wr = wx ∧ m ≤ i ∧ m < d ∧ (i - m) % 2 = 0 ∧ bsl ((tx s).take i) = (i - m) + bsl ((tx s).take m))
            case atStart => exact ⟨i, _, rfl, by omega, rfl, by omega, by omega, by omega, by omega⟩
            case round =>
              obtain ⟨m, z, rfl, hz, hwx, hm, hmd, hpar, hbs⟩ := hrel
              subst hwx
              have HMD := Lib.hid hmd
              have HP := Lib.hid hpar
              have HBS := Lib.hid hbs
              clear hmd hpar hbs
              rcases m with _ | m
              · obtain rfl : z = -1 := by omega
                clear hz
                have HZ := Lib.hid (show ¬ bsl ((tx s).take i) % 2 = 1 by rw [HBS.out, List.take_zero, bsl_nil]; have := HP.out; omega)
                go_wp2
                go_ret2
                exact EndPost.yes (HAT.out.found HK1.out (by decide) HQ.out HZ.out) HE.out rfl rfl HB.out
              · obtain rfl : z = (m : Int) := by omega
                clear hz
                obtain ⟨ad', had, hcell2⟩ := HRx.out.at_ (show m < s.size by omega)
                injection had with had
                subst had
                have hr2 := bt_range s m
                obtain ⟨k2, -, hk2, hk3⟩ := tx_at s m (by omega)
                obtain ⟨y, hy⟩ : ∃ y, bt s m = y := ⟨_, rfl⟩
                rw [hy] at hcell2 hr2 hk2
                have HL2 := Lib.hid hk2
                have HL3 := Lib.hid hk3
                clear hy hk2 hk3
                by_cases hy : y = 92
                · have HB1 := Lib.hid (bsl_yes HL3.out ((u8 HL2.out 92).2 hy))
                  subst hy
                  rcases m with _ | m
                  · have HZ := Lib.hid (show bsl ((tx s).take i) % 2 = 1 by rw [HBS.out, HB1.out, List.take_zero, bsl_nil]; have := HP.out; omega)
                    rw [show ((0 : Nat) : Int) = 0 from rfl]
                    rw [add_zero'] at hcell2
                    have hpos : 0 < s.size := by omega
                    go_wp2
                    go_roundg (s.size - (i + 1))
                    case measure => have := HD.out; omega
                    case rel => exact ⟨i + 1, true, by go_num, rfl, by omega, by have := HD.out; omega, HAT.out.odd HK1.out HK3.out HNB.out HZ.out, esc_no HK3.out HNB.out HE.out, HB.out⟩
                  · obtain ⟨ad', had, hcell3⟩ := HRx.out.at_ (show m < s.size by omega)
                    injection had with had
                    subst had
                    have hr3 := bt_range s m
                    obtain ⟨k4, -, hk4, hk5⟩ := tx_at s m (by omega)
                    obtain ⟨y, hy⟩ : ∃ y, bt s m = y := ⟨_, rfl⟩
                    rw [hy] at hcell3 hr3 hk4
                    have HM2 := Lib.hid hk4
                    have HM3 := Lib.hid hk5
                    clear hy hk4 hk5
                    have hcast : ((m + 1 : Nat) : Int) = (m : Int) + 1 := by omega
                    rw [hcast]
                    clear hcast
                    rw [add_succ] at hcell2
                    by_cases hy : y = 92
                    · have HB2 := Lib.hid (bsl_yes HM3.out ((u8 HM2.out 92).2 hy))
                      subst hy
                      go_wp2
                      go_roundg (gk - 1)
                      case measure => have := HMD.out; omega
                      case rel => exact ⟨m, _, rfl, by omega, rfl, by omega, by have := HMD.out; omega, by have := HP.out; omega, by rw [HBS.out, HB1.out, HB2.out]; omega⟩
                    · have HZ := Lib.hid (show bsl ((tx s).take i) % 2 = 1 by rw [HBS.out, HB1.out, bsl_no HM3.out fun e => hy ((u8 HM2.out 92).1 e)]; have := HP.out; omega)
                      have hyn : (y != 92) = true := bne_iff_ne.2 hy
                      go_wp2
                      go_roundg (s.size - (i + 1))
                      case measure => have := HD.out; omega
                      case rel => exact ⟨i + 1, true, by go_num, rfl, by omega, by have := HD.out; omega, HAT.out.odd HK1.out HK3.out HNB.out HZ.out, esc_no HK3.out HNB.out HE.out, HB.out⟩
                · have HZ := Lib.hid (show ¬ bsl ((tx s).take i) % 2 = 1 by rw [HBS.out, bsl_no HL3.out fun e => hy ((u8 HL2.out 92).1 e)]; have := HP.out; omega)
                  have hyn : (y != 92) = true := bne_iff_ne.2 hy
                  go_wp2
                  go_ret2
                  exact EndPost.yes (HAT.out.found HK1.out (by decide) HQ.out HZ.out) HE.out rfl rfl HB.out
        by_cases h92 : x = 92
        · have HC := Lib.hid ((u8 HK2.out 92).2 h92)
          subst h92
          go_wp2
          go_roundg (gk - 1)
          case measure => have := HD.out; omega
          case rel => exact ⟨i + 1, true, by go_num, rfl, by omega, by have := HD.out; omega, HAT.out.bs HK1.out HK3.out HC.out, esc_yes HK3.out HC.out, HB.out⟩
        · have HC := Lib.hid (show ¬ k = 92 from fun e => h92 ((u8 HK2.out 92).1 e))
          have HQ := Lib.hid (show ¬ k = 39 from fun e => hq ((u8 HK2.out 39).1 e))
          go_wp2
          go_roundg (gk - 1)
          case measure => have := HD.out; omega
          case rel => exact ⟨i + 1, eb, by go_num, rfl, by omega, by have := HD.out; omega, HAT.out.no HK1.out HK3.out HC.out HQ.out, esc_no HK3.out HC.out HE.out, HB.out⟩
      · have HO := Lib.hid (HAT.out.out (by rw [tx_len]; omega))
        obtain rfl : i = s.size := by omega
        have HE2 := Lib.hid (show esc (tx s) = eb by rw [← HE.out, ← tx_len, List.take_length])
        go_wp2
        go_ret2
        exact EndPost.no HO.out HE2.out rfl HB.out
/-- Both marks. -/
theorem strEndW (q : UInt8) (x : Int) (hq : (q = 34 ∧ x = 34) ∨ (q = 39 ∧ x = 39)) (A : Option Addr) (s : ByteArray) (m c : Nat) (a b : Bool) (n : Int) (w : World) (h : Rd w A s) (hm : m = s.size) (hs : s.size ≤ 1000000) (hc : s.size ≤ c) :
    Calls Tryz.prog 89 #[.agg #[.bool a, .bool b, .int .i64 n], .slice A m c, .int .u8 x] w (EndPost q s w) := by
  subst hm
  rcases hq with ⟨rfl, rfl⟩ | ⟨rfl, rfl⟩
  · exact strEnd34 A s c a b n w h hs hc
  · exact strEnd39 A s c a b n w h hs hc
end Go.Proofs.YtkdkdhcjpgmjdaaGreatDoor.Jp
