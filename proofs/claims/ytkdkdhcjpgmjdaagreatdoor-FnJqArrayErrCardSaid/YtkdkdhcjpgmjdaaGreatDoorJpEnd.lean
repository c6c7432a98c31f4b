/- The walk of stringEndConfig. -/
import Derived.Test.YtkdkdhcjpgmjdaaGreatDoorProg
import Derived.Test.YtkdkdhcjpgmjdaaGreatDoorJpSwar
import Derived.Test.YtkdkdhcjpgmjdaaGreatDoorShelf
import Derived.Deep.QuietTactic
import Derived.BigQuiet
import Derived.Outline
import Derived.Deep.LoopGhost
import Derived.Deep.DeepMust
import Derived.Deep.RegionHeld3
import Derived.Deep.RegionWith
import Derived.Deep.DeepCutAuto
import Derived.Deep.CutBlock
import Derived.IntWalk
namespace Go.Proofs.YtkdkdhcjpgmjdaaGreatDoor.Jp
open Go.RowKit L
set_option linter.unusedVariables false
set_option linter.unusedSimpArgs false

theorem leW (A : Option Addr) (s : ByteArray) (n c : Nat) (w : World) (h : Rd w A s) (hn : n = s.size) (h8 : 8 ≤ s.size) :
    Calls Tryz.prog 101 #[.agg #[], .slice A n c] w fun e w' => (∃ b0 b1 b2 b3 b4 b5 b6 b7 : UInt8, (tx s).take 8 = [b0, b1, b2, b3, b4, b5, b6, b7] ∧ e = .returned (.int .u64 (Lib.leNat [b0, b1, b2, b3, b4, b5, b6, b7]))) ∧ Below w.heap.size w w' := by
  subst hn
  obtain ⟨⟨g, o, sp⟩, rfl, hlt, hcell⟩ := h (by omega)
  obtain rfl : sp = none := by
    have := World.cell?_spot (hcell 0 (by omega))
    simpa [Addr.add] using this
  have hc : ∀ j, j < s.size → ∃ b : UInt8, (tx s)[j]? = some b ∧ w.cell? ⟨g, o + j, none⟩ = some (.int .u8 (b.toNat : Int)) := fun j hj => by
    obtain ⟨b, _, h2, h3⟩ := tx_at s j hj
    refine ⟨b, h3, ?_⟩
    have := hcell j hj
    rw [← h2] at this
    rw [← this]
    congr 1
    unfold Addr.add
    split
    · rename_i h; subst h; rfl
    · rfl
  obtain ⟨b0, e0, c0⟩ := hc 0 (by omega)
  obtain ⟨b1, e1, c1⟩ := hc 1 (by omega)
  obtain ⟨b2, e2, c2⟩ := hc 2 (by omega)
  obtain ⟨b3, e3, c3⟩ := hc 3 (by omega)
  obtain ⟨b4, e4, c4⟩ := hc 4 (by omega)
  obtain ⟨b5, e5, c5⟩ := hc 5 (by omega)
  obtain ⟨b6, e6, c6⟩ := hc 6 (by omega)
  obtain ⟨b7, e7, c7⟩ := hc 7 (by omega)
  refine (Tryz.binary_LE_Uint64 g o s.size c b0 b1 b2 b3 b4 b5 b6 b7 w h8 (by simpa using c0) c1 c2 c3 c4 c5 c6 c7).mono fun e w' h => ⟨⟨b0, b1, b2, b3, b4, b5, b6, b7, ?_, h.1⟩, h.2⟩
  refine List.ext_getElem? fun j => ?_
  rw [List.getElem?_take]
  by_cases hj : j < 8
  · rw [if_pos hj]
    rcases (by omega : j = 0 ∨ j = 1 ∨ j = 2 ∨ j = 3 ∨ j = 4 ∨ j = 5 ∨ j = 6 ∨ j = 7) with rfl | rfl | rfl | rfl | rfl | rfl | rfl | rfl
    · exact e0
    · exact e1
    · exact e2
    · exact e3
    · exact e4
    · exact e5
    · exact e6
    · exact e7
  · rw [if_neg hj]
    exact (List.getElem?_eq_none (by simp; omega)).symm
theorem rdc {w : World} {A : Option Addr} {s : ByteArray} (h : Rd w A s) {i c : Nat} (hc : s.size ≤ c) : Rd w (if c = i then A else Option.map (fun x => x.add i) A) (s.extract i s.size) := by
  have := h.cut (i := i) (j := s.size) (c := c) (Nat.le_refl _) hc
  simp only [Nat.mul_one] at this
  exact this
theorem cut_size {s : ByteArray} {i : Nat} : s.size - i = (s.extract i s.size).size := by rw [size_ext]; omega
theorem Free.eight {q : UInt8} {s : ByteArray} {i : Nat} {b0 b1 b2 b3 b4 b5 b6 b7 : UInt8} (h : Free q (tx s) i) (hb : List.take 8 (tx (s.extract i s.size)) = [b0, b1, b2, b3, b4, b5, b6, b7]) (hn : ∀ b ∈ [b0, b1, b2, b3, b4, b5, b6, b7], b ≠ q ∧ b ≠ 92) : Free q (tx s) (i + 8) := fun k hk => by
  by_cases hki : k < i
  · exact h k hki
  · have e : (tx s)[k]? = [b0, b1, b2, b3, b4, b5, b6, b7][k - i]? := by
      rw [← hb, tx_ext, List.getElem?_take_of_lt (by omega), List.getElem?_drop, show i + (k - i) = k by omega]
    rw [e]
    refine ⟨fun h => (hn _ (List.mem_of_getElem? h)).1 rfl, fun h => (hn _ (List.mem_of_getElem? h)).2 rfl⟩
theorem below_drew_of {w w1 w2 : World} (h : Below w.heap.size w w1) (k : Below w1.drew.heap.size w1.drew w2) : Below w.heap.size w w2 :=
  below_step h ⟨k.os, k.tape, k.output, k.size, k.block⟩
theorem add_zero' (a : Addr) : a.add 0 = a := by simp [Addr.add]
theorem add_succ (a : Addr) (n : Nat) : a.add (n + 1) = ⟨a.block, a.off + (n + 1), none⟩ := by simp [Addr.add]
/-- How far the first search came. -/
def FrontPost (q : UInt8) (s : ByteArray) (W w : World) (v : Value) : Prop := ∃ i : Nat, v = .int .i64 (i : Int) ∧ i ≤ s.size ∧ Free q (tx s) i ∧ Below W.heap.size W w
/-- What stringEndConfig answers. -/
def EndPost (q : UInt8) (s : ByteArray) (w : World) (e : Ending) (w' : World) : Prop := e = .returned (.tuple #[.int .i64 (endI q (tx s)), .bool (endE q (tx s))]) ∧ Below w.heap.size w w'
theorem EndPost.yes {q : UInt8} {s : ByteArray} {w w' : World} {e : Ending} {n : Nat} {b : Bool} {x : Int} (h : cls q (tx s) = some (n + 1)) (hb : esc ((tx s).take n) = b) (hx : x = (n : Int) + 1) (he : e = .returned (.tuple #[.int .i64 x, .bool b])) (hw : Below w.heap.size w w') : EndPost q s w e w' := by
  obtain ⟨h1, h2⟩ := end_some h
  rw [Nat.add_sub_cancel, hb] at h2
  refine ⟨?_, hw⟩
  rw [he, h1, h2, hx]
  rfl
theorem EndPost.no {q : UInt8} {s : ByteArray} {w w' : World} {e : Ending} {b : Bool} (h : cls q (tx s) = none) (hb : esc (tx s) = b) (he : e = .returned (.tuple #[.int .i64 (-1), .bool b])) (hw : Below w.heap.size w w') : EndPost q s w e w' := by
  obtain ⟨h1, h2⟩ := end_none h
  rw [hb] at h2
  refine ⟨?_, hw⟩
  rw [he, h1, h2]
theorem esc_yes {l : Tx} {i : Nat} {c : UInt8} (h : l[i]? = some c) (hc : c = 92) : esc (l.take (i + 1)) = true := by rw [esc_take h, hc]; simp
theorem esc_no {l : Tx} {i : Nat} {c : UInt8} {b : Bool} (h : l[i]? = some c) (hc : ¬ c = 92) (hb : esc (l.take i) = b) : esc (l.take (i + 1)) = b := by
  rw [esc_take h, hb, beq_eq_false_iff_ne.2 hc, Bool.or_false]
theorem gt_q {c q : UInt8} {x : Int} (h : (c.toNat : Int) = x) (hq : q.toNat ≤ 92) (hx : 92 < x) : ¬ c = 92 ∧ ¬ c = q := by
  refine ⟨fun e => ?_, fun e => ?_⟩
  · rw [e] at h; change (92 : Int) = x at h; omega
  · rw [e] at h; omega
set_option maxRecDepth 100000 in
set_option maxHeartbeats 4000000 in
theorem strEnd34 (A : Option Addr) (s : ByteArray) (c : Nat) (a b : Bool) (n : Int) (w : World) (h : Rd w A s) (hs : s.size ≤ 1000000) (hc : s.size ≤ c) :
    Calls Tryz.prog 89 #[.agg #[.bool a, .bool b, .int .i64 n], .slice A s.size c, .int .u8 34] w (EndPost 34 s w) := by
  have HR := Lib.hid h
  clear h
  go_enter Tryz.func89, Tryz.ntmps89
  go_upto_block 0 with (fail)
  go_cut [10] (fun v10 wx => FrontPost 34 s w wx v10)
  case first =>
    go_wp2_with (fail)
    go_loopg [10] (s.size) (fun d v10 wx => ∃ i : Nat, v10 = .int .i64 (i : Int) ∧ i ≤ s.size ∧ s.size - i ≤ d ∧ Free 34 (tx s) i ∧ Below w.heap.size w wx)
    case atStart => exact ⟨0, rfl, by omega, by omega, Free.zero _ _, below_alloc (Below.refl _ _) _⟩
    case round =>
      obtain ⟨i, rfl, hi, hd, hf, hb⟩ := hrel
      have HF := Lib.hid hf
      have HD := Lib.hid hd
      have HB := Lib.hid hb
      clear hf hd hb
      by_cases h8 : i + 8 ≤ s.size
      · have hle : decide ((i : Int) + 8 ≤ (s.size : Int)) = true := by simp; omega
        have HT := Lib.hid (rdc (HR.out.below HB.out) (i := i) hc)
        have ht8 : 8 ≤ (s.extract i s.size).size := by rw [size_ext]; omega
        go_wp2
        have e1 : IntKind.i64.wrap ((s.size : Int) - (i : Int)) = (s.size : Int) - (i : Int) := IntWalk.i64_in _ (by omega)
        go_region_with (first
          | (go_at_call 101; refine (leW _ (s.extract i s.size) _ _ _ (HT.out.drew) cut_size ht8).mono ?_; rintro e w1 ⟨⟨b0, b1, b2, b3, b4, b5, b6, b7, hb8, rfl⟩, hb1⟩; replace hb8 := Lib.hid hb8; replace hb1 := Lib.hid hb1))
        clear e1
        go_wp2
        · have HN := Lib.hid (swar_walk (q := 34) (Q := 2459565876494606882) (b0 := b0) (b1 := b1) (b2 := b2) (b3 := b3) (b4 := b4) (b5 := b5) (b6 := b6) (b7 := b7) (m := if IntKind.u64.signed = true then -1 else IntKind.u64.max) (by decide) (by decide) (by assumption))
          go_roundg (s.size - (i + 8))
          case measure => have := HD.out; omega
          case rel => exact ⟨i + 8, by go_num, by omega, by omega, HF.out.eight hb8.out HN.out, below_drew_of HB.out hb1.out⟩
        · go_meet
          case rel => exact ⟨i, rfl, hi, HF.out, below_drew_of HB.out hb1.out⟩
      · have hle : decide ((i : Int) + 8 ≤ (s.size : Int)) = false := by simp; omega
        go_wp2
        go_meet
        case rel => exact ⟨i, rfl, hi, HF.out, HB.out⟩
  case rest =>
    obtain ⟨i0, rfl, hi0, hf0, hb0⟩ := hcut
    have HA0 := Lib.hid (Free.at_ (by rw [tx_len]; exact hi0) hf0)
    have HE0 := Lib.hid (Free.esc hf0)
    have HB0 := Lib.hid hb0
    clear hf0 hb0
    go_wp2_with (fail)
    go_loopg [10, 17] (s.size) (fun d v10 v17 wx => ∃ (i : Nat) (b : Bool), v10 = .int .i64 (i : Int) ∧ v17 = .bool b ∧ i ≤ s.size ∧ s.size - i ≤ d ∧ At 34 (tx s) i ∧ esc ((tx s).take i) = b ∧ Below w.heap.size w wx)
    case atStart => exact ⟨i0, false, rfl, rfl, hi0, by omega, HA0.out, HE0.out, HB0.out⟩
    case round =>
      obtain ⟨i, eb, rfl, rfl, hi, hd, hat, hesc, hb⟩ := hrel
      have HAT := Lib.hid hat
      have HD := Lib.hid hd
      have HE := Lib.hid hesc
      have HB := Lib.hid hb
      have HRx := Lib.hid (HR.out.below hb)
      clear hat hd hesc hb
      by_cases hlt : i < s.size
      · obtain ⟨ad, rfl, hcell⟩ := HRx.out.at_ hlt
        have hr := bt_range s i
        obtain ⟨k, hk1, hk2, hk3⟩ := tx_at s i hlt
        obtain ⟨x, hx⟩ : ∃ x, bt s i = x := ⟨_, rfl⟩
        rw [hx] at hcell hr hk2
        have HK1 := Lib.hid hk1
        have HK2 := Lib.hid hk2
        have HK3 := Lib.hid hk3
        clear hx hk1 hk2 hk3
        by_cases hgt : 92 < x
        · have HG := Lib.hid (gt_q HK2.out (q := 34) (by decide) hgt)
          go_wp2
          go_roundg (gk - 1)
          case measure => have := HD.out; omega
          case rel => exact ⟨i + 1, eb, by go_num, rfl, by omega, by have := HD.out; omega, HAT.out.no HK1.out HK3.out HG.out.1 HG.out.2, esc_no HK3.out HG.out.1 HE.out, HB.out⟩
        by_cases hq : x = 34
        · have HQ := Lib.hid ((u8 HK2.out 34).2 hq)
          have HNB := Lib.hid (show ¬ k = 92 by rw [HQ.out]; decide)
          subst hq
          cases eb with
          | false =>
            have HZ := Lib.hid (show ¬ bsl ((tx s).take i) % 2 = 1 by rw [esc_bsl HE.out]; omega)
            go_wp2
            go_ret2
            exact EndPost.yes (HAT.out.found HK1.out (by decide) HQ.out HZ.out) HE.out rfl rfl HB.out
          | true =>
            go_upto_block 4 with (fail)
            go_wp2_with (fail)
            go_loopg [19] (i + 1) (fun d vj wx => ∃ (m : Nat) (z : Int), vj = .int .i64 z ∧ z = (m : Int) - 1 ∧ wr = wx ∧ m ≤ i ∧ m < d ∧ (i - m) % 2 = 0 ∧ bsl ((tx s).take i) = (i - m) + bsl ((tx s).take m))
            case atStart => exact ⟨i, _, rfl, by omega, rfl, by omega, by omega, by omega, by omega⟩
            case round =>
              obtain ⟨m, z, rfl, hz, hwx, hm, hmd, hpar, hbs⟩ := hrel
              subst hwx
              have HMD := Lib.hid hmd
              have HP := Lib.hid hpar
              have HBS := Lib.hid hbs
              clear hmd hpar hbs
              rcases m with _ | m
              · obtain rfl : z = -1 := by omega
                clear hz
                have HZ := Lib.hid (show ¬ bsl ((tx s).take i) % 2 = 1 by rw [HBS.out, List.take_zero, bsl_nil]; have := HP.out; omega)
                go_wp2
                go_ret2
                exact EndPost.yes (HAT.out.found HK1.out (by decide) HQ.out HZ.out) HE.out rfl rfl HB.out
              · obtain rfl : z = (m : Int) := by omega
                clear hz
                obtain ⟨ad', had, hcell2⟩ := HRx.out.at_ (show m < s.size by omega)
                injection had with had
                subst had
                have hr2 := bt_range s m
                obtain ⟨k2, -, hk2, hk3⟩ := tx_at s m (by omega)
                obtain ⟨y, hy⟩ : ∃ y, bt s m = y := ⟨_, rfl⟩
                rw [hy] at hcell2 hr2 hk2
                have HL2 := Lib.hid hk2
                have HL3 := Lib.hid hk3
                clear hy hk2 hk3
                by_cases hy : y = 92
                · have HB1 := Lib.hid (bsl_yes HL3.out ((u8 HL2.out 92).2 hy))
                  subst hy
                  rcases m with _ | m
                  · have HZ := Lib.hid (show bsl ((tx s).take i) % 2 = 1 by rw [HBS.out, HB1.out, List.take_zero, bsl_nil]; have := HP.out; omega)
                    rw [show ((0 : Nat) : Int) = 0 from rfl]
                    rw [add_zero'] at hcell2
                    have hpos : 0 < s.size := by omega
                    go_wp2
                    go_roundg (s.size - (i + 1))
                    case measure => have := HD.out; omega
                    case rel => exact ⟨i + 1, true, by go_num, rfl, by omega, by have := HD.out; omega, HAT.out.odd HK1.out HK3.out HNB.out HZ.out, esc_no HK3.out HNB.out HE.out, HB.out⟩
                  · obtain ⟨ad', had, hcell3⟩ := HRx.out.at_ (show m < s.size by omega)
                    injection had with had
                    subst had
                    have hr3 := bt_range s m
                    obtain ⟨k4, -, hk4, hk5⟩ := tx_at s m (by omega)
                    obtain ⟨y, hy⟩ : ∃ y, bt s m = y := ⟨_, rfl⟩
                    rw [hy] at hcell3 hr3 hk4
                    have HM2 := Lib.hid hk4
                    have HM3 := Lib.hid hk5
                    clear hy hk4 hk5
                    have hcast : ((m + 1 : Nat) : Int) = (m : Int) + 1 := by omega
                    rw [hcast]
                    clear hcast
                    rw [add_succ] at hcell2
                    by_cases hy : y = 92
                    · have HB2 := Lib.hid (bsl_yes HM3.out ((u8 HM2.out 92).2 hy))
                      subst hy
                      go_wp2
                      go_roundg (gk - 1)
                      case measure => have := HMD.out; omega
                      case rel => exact ⟨m, _, rfl, by omega, rfl, by omega, by have := HMD.out; omega, by have := HP.out; omega, by rw [HBS.out, HB1.out, HB2.out]; omega⟩
                    · have HZ := Lib.hid (show bsl ((tx s).take i) % 2 = 1 by rw [HBS.out, HB1.out, bsl_no HM3.out fun e => hy ((u8 HM2.out 92).1 e)]; have := HP.out; omega)
                      have hyn : (y != 92) = true := bne_iff_ne.2 hy
                      go_wp2
                      go_roundg (s.size - (i + 1))
                      case measure => have := HD.out; omega
                      case rel => exact ⟨i + 1, true, by go_num, rfl, by omega, by have := HD.out; omega, HAT.out.odd HK1.out HK3.out HNB.out HZ.out, esc_no HK3.out HNB.out HE.out, HB.out⟩
                · have HZ := Lib.hid (show ¬ bsl ((tx s).take i) % 2 = 1 by rw [HBS.out, bsl_no HL3.out fun e => hy ((u8 HL2.out 92).1 e)]; have := HP.out; omega)
                  have hyn : (y != 92) = true := bne_iff_ne.2 hy
                  go_wp2
                  go_ret2
                  exact EndPost.yes (HAT.out.found HK1.out (by decide) HQ.out HZ.out) HE.out rfl rfl HB.out
        by_cases h92 : x = 92
        · have HC := Lib.hid ((u8 HK2.out 92).2 h92)
          subst h92
          go_wp2
          go_roundg (gk - 1)
          case measure => have := HD.out; omega
          case rel => exact ⟨i + 1, true, by go_num, rfl, by omega, by have := HD.out; omega, HAT.out.bs HK1.out HK3.out HC.out, esc_yes HK3.out HC.out, HB.out⟩
        · have HC := Lib.hid (show ¬ k = 92 from fun e => h92 ((u8 HK2.out 92).1 e))
          have HQ := Lib.hid (show ¬ k = 34 from fun e => hq ((u8 HK2.out 34).1 e))
          go_wp2
          go_roundg (gk - 1)
          case measure => have := HD.out; omega
          case rel => exact ⟨i + 1, eb, by go_num, rfl, by omega, by have := HD.out; omega, HAT.out.no HK1.out HK3.out HC.out HQ.out, esc_no HK3.out HC.out HE.out, HB.out⟩
      · have HO := Lib.hid (HAT.out.out (by rw [tx_len]; omega))
        obtain rfl : i = s.size := by omega
        have HE2 := Lib.hid (show esc (tx s) = eb by rw [← HE.out, ← tx_len, List.take_length])
        go_wp2
        go_ret2
        exact EndPost.no HO.out HE2.out rfl HB.out
end Go.Proofs.YtkdkdhcjpgmjdaaGreatDoor.Jp
