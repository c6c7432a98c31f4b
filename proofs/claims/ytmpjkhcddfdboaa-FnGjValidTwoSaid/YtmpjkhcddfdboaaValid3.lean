/- The walks of gjson's Valid, third part: validnumber. -/
import Derived.Test.YtmpjkhcddfdboaaValid2
namespace Go.Proofs.Ytmpjkhcddfdboaa.L
open Go.RowKit
set_option linter.unusedVariables false
set_option linter.unusedSimpArgs false

theorem dg_iff {c : Int} : isDigit c = true ↔ 48 ≤ c ∧ c ≤ 57 := by simp [isDigit]
theorem digits_run {s : ByteArray} {i : Nat} (h : i < s.size) (hd : isDigit (bt s i) = true) : digitsAt s i = some (skip isDigit s (i + 1)) := by
  have h1 := skip_le isDigit s (i + 1)
  rw [digits_some (by rw [skip_yes h hd]; omega), skip_yes h hd]
theorem digits_stop {s : ByteArray} {i : Nat} (hd : ¬ isDigit (bt s i) = true) : digitsAt s i = none := by
  rw [digits_none (by rw [skip_no (fun h => hd h.2)]; omega)]

/-- A statement's first region. -/
def headReg : Code → Option Nat
  | .region n _ _ => some n
  | .seq a _ => headReg a
  | .block _ c => headReg c
  | .scope c => headReg c
  | .loop c => headReg c
  | _ => none
/-- The code from region n on. -/
def tailAt (n : Nat) : Code → Option Code
  | .seq a b => if headReg a = some n then some (.seq a b) else (match tailAt n b with | some c => some c | none => tailAt n a)
  | .block _ c => tailAt n c
  | .scope c => tailAt n c
  | .loop c => tailAt n c
  | _ => none
noncomputable def numTail (n : Nat) : Code := (Try.f27.body.bind (tailAt n)).getD .skip

set_option maxRecDepth 100000 in
set_option maxHeartbeats 8000000 in
theorem numTail27 (ad : Addr) (s : ByteArray) (c i0 i3 : Nat) (wc : World) (hs : s.size ≤ 140737488351232) (HR : Hid (Rd wc (some ad) s)) (hi3 : i3 ≤ s.size) (HF : Hid (numAt s i0 = numExp s i3)) (u2 u3 u4 u5 u6 u7 u8 u9 u10 u11 u12 u13 u14 u15 u16 u17 u18 u19 u20 u21 u22 u23 u24 u25 u26 u27 u28 u29 u30 u31 u32 u33 u34 u35 u36 u37 u38 u39 u40 u41 u42 u43 u44 u45 u46 u47 u48 u49 u50 u51 u52 u53 u54 u55 u56 u57 u58 u59 u60 u61 u62 u63 u64 u65 u66 u67 u68 u69 u70 u71 u72 u73 u74 u75 u76 u77 u78 u79 u80 u81 u82 u83 u84 u85 u86 u87 u88 u89 u90 u91 u92 u93 u94 u95 u96 u97 u98 u99 u100 u101 u102 u103 u104 u105 u106 u107 u108 u109 u110 u111 u112 u113 u114 u115 u116 u117 u118 u119 u120 u121 u122 u123 u124 u125 u126 u127 u128 u129 u130 u131 u132 u133 u134 u135 u136 u137 u138 u139 u140 u141 u142 u143 u144 u145 u146 u147 u148 u149 u150 u151 u152 u153 u154 u155 u156 u157 u158 u159 u160 u161 u162 u163 u164 u165 u166 u167 u168 u169 u170 u171 u172 u173 u174 u175 u176 u177 u178 u179 u180 u181 u182 u183 u184 u185 u186 u187 u188 u189 : Value) :
    Code.wp Try.prog (numTail 27) (bodyPost Try.prog Try.f27 (VPost (numAt s i0) wc)) ⟨#[.slice (some ad) s.size c, .int .i64 (i3 : Int), u2, u3, u4, u5, u6, u7, u8, u9, u10, u11, u12, u13, u14, u15, u16, u17, u18, u19, u20, u21, u22, u23, u24, u25, u26, u27, u28, u29, u30, u31, u32, u33, u34, u35, u36, u37, u38, u39, u40, u41, u42, u43, u44, u45, u46, u47, u48, u49, u50, u51, u52, u53, u54, u55, u56, u57, u58, u59, u60, u61, u62, u63, u64, u65, u66, u67, u68, u69, u70, u71, u72, u73, u74, u75, u76, u77, u78, u79, u80, u81, u82, u83, u84, u85, u86, u87, u88, u89, u90, u91, u92, u93, u94, u95, u96, u97, u98, u99, u100, u101, u102, u103, u104, u105, u106, u107, u108, u109, u110, u111, u112, u113, u114, u115, u116, u117, u118, u119, u120, u121, u122, u123, u124, u125, u126, u127, u128, u129, u130, u131, u132, u133, u134, u135, u136, u137, u138, u139, u140, u141, u142, u143, u144, u145, u146, u147, u148, u149, u150, u151, u152, u153, u154, u155, u156, u157, u158, u159, u160, u161, u162, u163, u164, u165, u166, u167, u168, u169, u170, u171, u172, u173, u174, u175, u176, u177, u178, u179, u180, u181, u182, u183, u184, u185, u186, u187, u188, u189], []⟩ wc := by
  conv => arg 2; whnf
  by_cases hend3 : i3 < s.size
  · have hne : ((i3 : Int) == (s.size : Int)) = false := by simp; omega
    obtain ⟨ad', had, hcr⟩ := HR.out.at_ (show i3 < s.size by omega)
    injection had with had
    subst had
    have hrr := bt_range s (i3 : Nat)
    obtain ⟨r, hr⟩ : ∃ x, bt s (i3 : Nat) = x := ⟨_, rfl⟩
    rw [hr] at hcr hrr
    have HR1 := Lib.hid hr
    clear hr
    by_cases he : r = 101 ∨ r = 69
    · have HEX := Lib.hid (show numExp s i3 = digitsAt s (numSign s (i3 + 1)) by unfold numExp; rw [if_pos (by rw [HR1.out]; exact he)])
      go_upto_region 29 with (fail)
      go_cut [129] (fun v wy => wy = wc ∧ v = .bool true)
      case first =>
        rcases he with rfl | rfl
        all_goals
          go_wp2
          go_meet
          case rel => exact ⟨rfl, rfl⟩
      case rest =>
        obtain ⟨hwy, rfl⟩ := hcut
        subst hwy
        clear he hcr hrr HR1
        by_cases hlt5 : i3 + 1 < s.size
        · have hne5 : ((i3 : Int) + 1 == (s.size : Int)) = false := by simp; omega
          obtain ⟨ad', had, hcq⟩ := HR.out.at_ (show i3 + 1 < s.size by omega)
          injection had with had
          subst had
          rw [add_succ] at hcq
          have hrq := bt_range s (i3 + 1 : Nat)
          obtain ⟨q, hq⟩ : ∃ x, bt s (i3 + 1 : Nat) = x := ⟨_, rfl⟩
          rw [hq] at hcq hrq
          have HQ := Lib.hid hq
          clear hq
          go_upto_region 33 with (fail)
          go_cut [148] (fun v wy => ∃ b, wy = wc ∧ v = .bool b ∧ (b = true ↔ q = 43 ∨ q = 45))
          case first =>
            by_cases q1 : q = 43
            · subst q1
              go_wp2
              go_meet
              case rel => exact ⟨_, rfl, rfl, by simp⟩
            · by_cases q2 : q = 45
              · subst q2
                go_wp2
                go_meet
                case rel => exact ⟨_, rfl, rfl, by simp⟩
              · go_wp2
                go_meet
                case rel => exact ⟨_, rfl, rfl, by simp [q1, q2]⟩
          case rest =>
            obtain ⟨b, hwy, rfl, hb⟩ := hcut
            subst hwy
            have HB := Lib.hid hb
            clear hb hcq hrq
            go_upto_if 148 with (fail)
            go_cut [1] (fun v1 wy => ∃ i4 : Nat, wy = wc ∧ v1 = .int .i64 (i4 : Int) ∧ i4 ≤ s.size ∧ numSign s (i3 + 1) = i4)
            case first =>
              cases b with
              | true =>
                have HE := Lib.hid (show numSign s (i3 + 1) = i3 + 1 + 1 by unfold numSign; rw [if_pos (by rw [HQ.out]; exact HB.out.1 rfl)])
                go_wp2
                go_meet
                case rel => exact ⟨i3 + 1 + 1, rfl, by go_num, by omega, HE.out⟩
              | false =>
                have HE := Lib.hid (show numSign s (i3 + 1) = i3 + 1 by unfold numSign; rw [if_neg (by rw [HQ.out]; exact fun h => absurd (HB.out.2 h) (by simp))])
                go_wp2
                go_meet
                case rel => exact ⟨i3 + 1, rfl, by go_num, by omega, HE.out⟩
            case rest =>
              obtain ⟨i4, hwy, rfl, hi4, hsg⟩ := hcut
              subst hwy
              have HX4 := Lib.hid (show numExp s i3 = digitsAt s i4 by rw [HEX.out, hsg])
              clear hsg HEX HB HQ hne5
              by_cases hend4 : i4 < s.size
              · have hne4 : ((i4 : Int) == (s.size : Int)) = false := by simp; omega
                obtain ⟨ad', had, hcq⟩ := HR.out.at_ (show i4 < s.size by omega)
                injection had with had
                subst had
                have hrq := bt_range s (i4 : Nat)
                obtain ⟨q, hq⟩ : ∃ x, bt s (i4 : Nat) = x := ⟨_, rfl⟩
                rw [hq] at hcq hrq
                have HQ := Lib.hid hq
                clear hq
                by_cases q1 : q < 48
                · have HE := Lib.hid (show numAt s i0 = none by rw [HF.out, HX4.out, digits_stop (by rw [dg_iff, HQ.out]; omega)])
                  go_wp2
                  go_ret2
                  exact VPost.no rfl HE.out rfl
                · by_cases q2 : 57 < q
                  · have HE := Lib.hid (show numAt s i0 = none by rw [HF.out, HX4.out, digits_stop (by rw [dg_iff, HQ.out]; omega)])
                    go_wp2
                    go_ret2
                    exact VPost.no rfl HE.out rfl
                  · have HE := Lib.hid (show numExp s i3 = some (skip isDigit s (i4 + 1)) by rw [HX4.out, digits_run hend4 (by rw [dg_iff, HQ.out]; omega)])
                    go_wp2
                    go_loopg [1] (s.size - (i4 + 1)) (fun d v1 wr => ∃ j : Nat, v1 = .int .i64 (j : Int) ∧ wr = wc ∧ skip isDigit s j = skip isDigit s (i4 + 1) ∧ j ≤ s.size ∧ d = s.size - j)
                    case atStart => exact ⟨i4 + 1, by go_num, rfl, rfl, by omega, rfl⟩
                    case round =>
                      obtain ⟨j, rfl, hwr, hk, hjl, hdd⟩ := hrel
                      subst hwr
                      have HK := Lib.hid hk
                      have HDD := Lib.hid hdd
                      clear hk hdd
                      by_cases hlt : j < s.size
                      · obtain ⟨ad', had, hcellj⟩ := HR.out.at_ hlt
                        injection had with had
                        subst had
                        have hr := bt_range s j
                        obtain ⟨z, hz⟩ : ∃ x, bt s j = x := ⟨_, rfl⟩
                        rw [hz] at hcellj hr
                        have HZ := Lib.hid hz
                        clear hz
                        by_cases z1 : 48 ≤ z
                        · by_cases z2 : z ≤ 57
                          · have HS := Lib.hid (skip_yes (p := isDigit) hlt (by rw [dg_iff, HZ.out]; omega))
                            go_wp2
                            go_roundg (s.size - (j + 1))
                            case measure => have := HDD.out; omega
                            case rel => exact ⟨j + 1, by go_num, rfl, HS.out.symm.trans HK.out, by omega, rfl⟩
                          · have HS := Lib.hid (skip_no (p := isDigit) (s := s) (i := j) (by rw [dg_iff, HZ.out]; omega))
                            go_wp2
                            go_ret2
                            exact VPost.yes rfl (by rw [HF.out, HE.out, ← HK.out, HS.out]) rfl (by omega)
                        · have HS := Lib.hid (skip_no (p := isDigit) (s := s) (i := j) (by rw [dg_iff, HZ.out]; omega))
                          go_wp2
                          go_ret2
                          exact VPost.yes rfl (by rw [HF.out, HE.out, ← HK.out, HS.out]) rfl (by omega)
                      · have HS := Lib.hid (skip_no (p := isDigit) (s := s) (i := j) (by omega))
                        go_wp2
                        go_ret2
                        exact VPost.yes rfl (by rw [HF.out, HE.out, ← HK.out, HS.out]) rfl (by omega)
              · have hne4 : ((i4 : Int) == (s.size : Int)) = true := by simp; omega
                have HE := Lib.hid (show numAt s i0 = none by have e := bt_out s i4 (by omega); rw [HF.out, HX4.out, digits_stop (by rw [e]; decide)])
                go_wp2
                go_ret2
                exact VPost.no rfl HE.out rfl
        · have hne5 : ((i3 : Int) + 1 == (s.size : Int)) = true := by simp; omega
          have HE := Lib.hid (show numAt s i0 = none by have e := bt_out s (i3 + 1 : Nat) (by omega); rw [HF.out, HEX.out]; unfold numSign; rw [if_neg (by rw [e]; decide), digits_stop (by rw [e]; decide)])
          go_wp2
          go_ret2
          exact VPost.no rfl HE.out rfl
    · have HE := Lib.hid (show numExp s i3 = some i3 by unfold numExp; rw [if_neg (by rw [HR1.out]; exact he)])
      obtain ⟨r1, r2⟩ : ¬ r = 101 ∧ ¬ r = 69 := by omega
      have r1b : (r == 101) = false := beq_false_of_ne r1
      have r2b : (r == 69) = false := beq_false_of_ne r2
      clear he
      go_wp2
      go_ret2
      exact VPost.yes rfl (by rw [HF.out, HE.out]) rfl rfl
  · have hne : ((i3 : Int) == (s.size : Int)) = true := by simp; omega
    have HE := Lib.hid (show numExp s i3 = some i3 by have e := bt_out s i3 (by omega); unfold numExp; rw [if_neg (by rw [e]; decide)])
    go_wp2
    go_ret2
    exact VPost.yes rfl (by rw [HF.out, HE.out]) rfl rfl

set_option maxRecDepth 100000 in
set_option maxHeartbeats 8000000 in
theorem numTail15 (ad : Addr) (s : ByteArray) (c i0 i2 : Nat) (wc : World) (hs : s.size ≤ 140737488351232) (HR : Hid (Rd wc (some ad) s)) (hi2 : i2 ≤ s.size) (HF : Hid (numAt s i0 = (numFrac s i2).bind fun j => numExp s j)) (u2 u3 u4 u5 u6 u7 u8 u9 u10 u11 u12 u13 u14 u15 u16 u17 u18 u19 u20 u21 u22 u23 u24 u25 u26 u27 u28 u29 u30 u31 u32 u33 u34 u35 u36 u37 u38 u39 u40 u41 u42 u43 u44 u45 u46 u47 u48 u49 u50 u51 u52 u53 u54 u55 u56 u57 u58 u59 u60 u61 u62 u63 u64 u65 u66 u67 u68 u69 u70 u71 u72 u73 u74 u75 u76 u77 u78 u79 u80 u81 u82 u83 u84 u85 u86 u87 u88 u89 u90 u91 u92 u93 u94 u95 u96 u97 u98 u99 u100 u101 u102 u103 u104 u105 u106 u107 u108 u109 u110 u111 u112 u113 u114 u115 u116 u117 u118 u119 u120 u121 u122 u123 u124 u125 u126 u127 u128 u129 u130 u131 u132 u133 u134 u135 u136 u137 u138 u139 u140 u141 u142 u143 u144 u145 u146 u147 u148 u149 u150 u151 u152 u153 u154 u155 u156 u157 u158 u159 u160 u161 u162 u163 u164 u165 u166 u167 u168 u169 u170 u171 u172 u173 u174 u175 u176 u177 u178 u179 u180 u181 u182 u183 u184 u185 u186 u187 u188 u189 : Value) :
    Code.wp Try.prog (numTail 15) (bodyPost Try.prog Try.f27 (VPost (numAt s i0) wc)) ⟨#[.slice (some ad) s.size c, .int .i64 (i2 : Int), u2, u3, u4, u5, u6, u7, u8, u9, u10, u11, u12, u13, u14, u15, u16, u17, u18, u19, u20, u21, u22, u23, u24, u25, u26, u27, u28, u29, u30, u31, u32, u33, u34, u35, u36, u37, u38, u39, u40, u41, u42, u43, u44, u45, u46, u47, u48, u49, u50, u51, u52, u53, u54, u55, u56, u57, u58, u59, u60, u61, u62, u63, u64, u65, u66, u67, u68, u69, u70, u71, u72, u73, u74, u75, u76, u77, u78, u79, u80, u81, u82, u83, u84, u85, u86, u87, u88, u89, u90, u91, u92, u93, u94, u95, u96, u97, u98, u99, u100, u101, u102, u103, u104, u105, u106, u107, u108, u109, u110, u111, u112, u113, u114, u115, u116, u117, u118, u119, u120, u121, u122, u123, u124, u125, u126, u127, u128, u129, u130, u131, u132, u133, u134, u135, u136, u137, u138, u139, u140, u141, u142, u143, u144, u145, u146, u147, u148, u149, u150, u151, u152, u153, u154, u155, u156, u157, u158, u159, u160, u161, u162, u163, u164, u165, u166, u167, u168, u169, u170, u171, u172, u173, u174, u175, u176, u177, u178, u179, u180, u181, u182, u183, u184, u185, u186, u187, u188, u189], []⟩ wc := by
  conv => arg 2; whnf
  by_cases hend2 : i2 < s.size
  · have hne : ((i2 : Int) == (s.size : Int)) = false := by simp; omega
    obtain ⟨ad', had, hcp⟩ := HR.out.at_ (show i2 < s.size by omega)
    injection had with had
    subst had
    have hrp := bt_range s (i2 : Nat)
    obtain ⟨p, hp⟩ : ∃ x, bt s (i2 : Nat) = x := ⟨_, rfl⟩
    rw [hp] at hcp hrp
    have HP := Lib.hid hp
    clear hp
    obtain ⟨b46, hb46⟩ : ∃ b, (p == 46) = b := ⟨_, rfl⟩
    go_upto_if 72 with (fail)
    go_cut [1] (fun v1 wy => ∃ i3 : Nat, wy = wc ∧ v1 = .int .i64 (i3 : Int) ∧ i3 ≤ s.size ∧ numFrac s i2 = some i3)
    case first =>
      by_cases hp : p = 46
      · subst hp
        simp at hb46
        subst hb46
        have HP46 := Lib.hid (show numFrac s i2 = digitsAt s (i2 + 1) by unfold numFrac; rw [if_pos HP.out])
        by_cases hlt : i2 + 1 < s.size
        · have hne3 : ((i2 : Int) + 1 == (s.size : Int)) = false := by simp; omega
          obtain ⟨ad', had, hcq⟩ := HR.out.at_ (show i2 + 1 < s.size by omega)
          injection had with had
          subst had
          rw [add_succ] at hcq
          have hrq := bt_range s (i2 + 1 : Nat)
          obtain ⟨q, hq⟩ : ∃ x, bt s (i2 + 1 : Nat) = x := ⟨_, rfl⟩
          rw [hq] at hcq hrq
          have HQ := Lib.hid hq
          clear hq
          by_cases q1 : q < 48
          · have HE := Lib.hid (show numAt s i0 = none by rw [HF.out, HP46.out, digits_stop (by rw [dg_iff, HQ.out]; omega)]; rfl)
            go_wp2
            go_ret2
            exact VPost.no rfl HE.out rfl
          · by_cases q2 : 57 < q
            · have HE := Lib.hid (show numAt s i0 = none by rw [HF.out, HP46.out, digits_stop (by rw [dg_iff, HQ.out]; omega)]; rfl)
              go_wp2
              go_ret2
              exact VPost.no rfl HE.out rfl
            · have HE := Lib.hid (show numFrac s i2 = some (skip isDigit s (i2 + 1 + 1)) by rw [HP46.out, digits_run hlt (by rw [dg_iff, HQ.out]; omega)])
              go_wp2
              go_loopg [1] (s.size - (i2 + 1 + 1)) (fun d v1 wr => ∃ j : Nat, v1 = .int .i64 (j : Int) ∧ wr = wc ∧ skip isDigit s j = skip isDigit s (i2 + 1 + 1) ∧ j ≤ s.size ∧ d = s.size - j)
              case atStart => exact ⟨i2 + 1 + 1, by go_num, rfl, rfl, by omega, rfl⟩
              case round =>
                obtain ⟨j, rfl, hwr, hk, hjl, hdd⟩ := hrel
                subst hwr
                have HK := Lib.hid hk
                have HDD := Lib.hid hdd
                clear hk hdd
                by_cases hlt : j < s.size
                · obtain ⟨ad', had, hcellj⟩ := HR.out.at_ hlt
                  injection had with had
                  subst had
                  have hr := bt_range s j
                  obtain ⟨z, hz⟩ : ∃ x, bt s j = x := ⟨_, rfl⟩
                  rw [hz] at hcellj hr
                  have HZ := Lib.hid hz
                  clear hz
                  by_cases z1 : 48 ≤ z
                  · by_cases z2 : z ≤ 57
                    · have HS := Lib.hid (skip_yes (p := isDigit) hlt (by rw [dg_iff, HZ.out]; omega))
                      go_wp2
                      go_roundg (s.size - (j + 1))
                      case measure => have := HDD.out; omega
                      case rel => exact ⟨j + 1, by go_num, rfl, HS.out.symm.trans HK.out, by omega, rfl⟩
                    · have HS := Lib.hid (skip_no (p := isDigit) (s := s) (i := j) (by rw [dg_iff, HZ.out]; omega))
                      go_wp2
                      go_meet
                      case rel => exact ⟨j, rfl, rfl, hjl, by rw [HE.out, ← HK.out, HS.out]⟩
                  · have HS := Lib.hid (skip_no (p := isDigit) (s := s) (i := j) (by rw [dg_iff, HZ.out]; omega))
                    go_wp2
                    go_meet
                    case rel => exact ⟨j, rfl, rfl, hjl, by rw [HE.out, ← HK.out, HS.out]⟩
                · have HS := Lib.hid (skip_no (p := isDigit) (s := s) (i := j) (by omega))
                  go_wp2
                  go_meet
                  case rel => exact ⟨j, rfl, rfl, hjl, by rw [HE.out, ← HK.out, HS.out]⟩
        · have hne3 : ((i2 : Int) + 1 == (s.size : Int)) = true := by simp; omega
          have HE := Lib.hid (show numAt s i0 = none by have e := bt_out s (i2 + 1 : Nat) (by omega); rw [HF.out, HP46.out, digits_stop (by rw [e]; decide)]; rfl)
          go_wp2
          go_ret2
          exact VPost.no rfl HE.out rfl
      · have HE := Lib.hid (show numFrac s i2 = some i2 by unfold numFrac; rw [if_neg (by rw [HP.out]; exact hp)])
        rw [beq_false_of_ne hp] at hb46
        subst hb46
        go_wp2
        go_meet
        case rel => exact ⟨i2, rfl, rfl, hi2, HE.out⟩
    case rest =>
      obtain ⟨i3, hwy, rfl, hi3, hfr⟩ := hcut
      subst hwy
      have HF2 := Lib.hid (show numAt s i0 = numExp s i3 by rw [HF.out, hfr]; rfl)
      refine (by assumption : ∀ (a : Act) (w : World), Code.wp Try.prog _ _ a w → _) _ _ ?_
      exact numTail27 ad s c i0 i3 _ hs HR hi3 HF2 _ _ _ _ _ _ _ _ _ _ _ _ _ _ _ _ _ _ _ _ _ _ _ _ _ _ _ _ _ _ _ _ _ _ _ _ _ _ _ _ _ _ _ _ _ _ _ _ _ _ _ _ _ _ _ _ _ _ _ _ _ _ _ _ _ _ _ _ _ _ _ _ _ _ _ _ _ _ _ _ _ _ _ _ _ _ _ _ _ _ _ _ _ _ _ _ _ _ _ _ _ _ _ _ _ _ _ _ _ _ _ _ _ _ _ _ _ _ _ _ _ _ _ _ _ _ _ _ _ _ _ _ _ _ _ _ _ _ _ _ _ _ _ _ _ _ _ _ _ _ _ _ _ _ _ _ _ _ _ _ _ _ _ _ _ _ _ _ _ _ _ _ _ _ _ _ _ _ _ _ _ _ _ _ _ _ _ _ 
  · have hne : ((i2 : Int) == (s.size : Int)) = true := by simp; omega
    have HE := Lib.hid (show numAt s i0 = some i2 by
      have e := bt_out s i2 (by omega)
      rw [HF.out]
      unfold numFrac
      rw [if_neg (by rw [e]; decide)]
      show numExp s i2 = _
      unfold numExp
      rw [if_neg (by rw [e]; decide)])
    go_wp2
    go_ret2
    exact VPost.yes rfl HE.out rfl rfl

set_option maxRecDepth 100000 in
set_option maxHeartbeats 8000000 in
theorem numberW (A : Option Addr) (s : ByteArray) (c i0 : Nat) (w : World) (h : Sl w A s c) (hi : i0 < s.size) (h1 : bt s i0 = 45 ∨ (48 ≤ bt s i0 ∧ bt s i0 ≤ 57)) :
    Calls Try.prog 27 #[.slice A s.size c, .int .i64 ((i0 : Int) + 1)] w (VPost (numAt s i0) w) := by
  have hs := h.sz
  have HR := Lib.hid h.rd
  clear h
  obtain ⟨ad, rfl, hcell⟩ := HR.out.at_ hi
  obtain ⟨x, hx⟩ : ∃ x, bt s i0 = x := ⟨_, rfl⟩
  rw [hx] at hcell h1
  have HX := Lib.hid hx
  clear hx
  go_enter Try.func27, Try.ntmps27
  obtain ⟨b45, hb45⟩ : ∃ b, (x == 45) = b := ⟨_, rfl⟩
  go_upto_if 12 with (fail)
  go_cut [1] (fun v1 wc => ∃ i1 : Nat, wc = w ∧ v1 = .int .i64 (i1 : Int) ∧ i1 < s.size ∧ isDigit (bt s i1) = true ∧ numAt s i0 = (numInt s i1).bind fun j => (numFrac s j).bind fun j => numExp s j)
  case first =>
    by_cases h45 : x = 45
    · subst h45
      clear h1
      simp at hb45
      subst hb45
      have HF := Lib.hid (show numAt s i0 = (numInt s (i0 + 1)).bind fun j => (numFrac s j).bind fun j => numExp s j by unfold numAt; rw [if_pos HX.out])
      by_cases hlt : i0 + 1 < s.size
      · have hne : ((i0 : Int) + 1 == (s.size : Int)) = false := by simp; omega
        obtain ⟨ad', had, hcell2⟩ := HR.out.at_ hlt
        injection had with had
        subst had
        rw [add_succ] at hcell2
        have hr := bt_range s (i0 + 1 : Nat)
        obtain ⟨y, hy⟩ : ∃ y, bt s (i0 + 1 : Nat) = y := ⟨_, rfl⟩
        rw [hy] at hcell2 hr
        have HY := Lib.hid hy
        clear hy
        by_cases h48 : y < 48
        · have HE := Lib.hid (show numAt s i0 = none by rw [HF.out]; unfold numInt; rw [if_neg (by rw [HY.out]; omega), digits_stop (by rw [dg_iff, HY.out]; omega)]; rfl)
          go_wp2
          go_ret2
          exact VPost.no rfl HE.out rfl
        · by_cases h57 : 57 < y
          · have HE := Lib.hid (show numAt s i0 = none by rw [HF.out]; unfold numInt; rw [if_neg (by rw [HY.out]; omega), digits_stop (by rw [dg_iff, HY.out]; omega)]; rfl)
            go_wp2
            go_ret2
            exact VPost.no rfl HE.out rfl
          · go_wp2
            go_meet
            case rel => exact ⟨i0 + 1, rfl, by go_num, hlt, by rw [dg_iff, HY.out]; omega, HF.out⟩
      · have hne : ((i0 : Int) + 1 == (s.size : Int)) = true := by simp; omega
        have HE := Lib.hid (show numAt s i0 = none by have e := bt_out s (i0 + 1 : Nat) (by omega); rw [HF.out]; unfold numInt; rw [if_neg (by rw [e]; decide), digits_stop (by rw [e]; decide)]; rfl)
        go_wp2
        go_ret2
        exact VPost.no rfl HE.out rfl
    · have HF := Lib.hid (show numAt s i0 = (numInt s i0).bind fun j => (numFrac s j).bind fun j => numExp s j by unfold numAt; rw [if_neg (by rw [HX.out]; exact h45)])
      obtain ⟨b1, b2⟩ : 48 ≤ x ∧ x ≤ 57 := by omega
      clear h1
      rw [beq_false_of_ne h45] at hb45
      subst hb45
      go_wp2
      go_meet
      case rel => exact ⟨i0, rfl, rfl, hi, by rw [dg_iff, HX.out]; omega, HF.out⟩
  case rest =>
    obtain ⟨i1, hwc, rfl, hi1, hd1, hfin⟩ := hcut
    subst hwc
    have HF := Lib.hid hfin
    have HD1 := Lib.hid hd1
    clear hfin h1 hcell HX hi hb45
    rw [dg_iff] at hd1
    have hne : ((i1 : Int) == (s.size : Int)) = false := by simp; omega
    obtain ⟨ad', had, hcell⟩ := HR.out.at_ hi1
    injection had with had
    subst had
    obtain ⟨x1, hx1⟩ : ∃ x, bt s i1 = x := ⟨_, rfl⟩
    rw [hx1] at hcell hd1
    have HX := Lib.hid hx1
    clear hx1
    obtain ⟨d1, d2⟩ := hd1
    obtain ⟨b48, hb48⟩ : ∃ b, (x1 == 48) = b := ⟨_, rfl⟩
    go_upto_if 42 with (fail)
    go_cut [1] (fun v1 wx => ∃ i2 : Nat, wx = wc ∧ v1 = .int .i64 (i2 : Int) ∧ i2 ≤ s.size ∧ numInt s i1 = some i2)
    case first =>
      by_cases h48 : x1 = 48
      · subst h48
        simp at hb48
        subst hb48
        have HE := Lib.hid (show numInt s i1 = some (i1 + 1) by unfold numInt; rw [if_pos HX.out])
        go_wp2
        go_meet
        case rel => exact ⟨i1 + 1, rfl, by go_num, by omega, HE.out⟩
      · have HE := Lib.hid (show numInt s i1 = some (skip isDigit s i1) by unfold numInt; rw [if_neg (by rw [HX.out]; exact h48), digits_run hi1 HD1.out, skip_yes hi1 HD1.out])
        rw [beq_false_of_ne h48] at hb48
        subst hb48
        go_wp2
        go_loopg [1] (s.size - (i1)) (fun d v1 wr => ∃ j : Nat, v1 = .int .i64 (j : Int) ∧ wr = wc ∧ skip isDigit s j = skip isDigit s (i1) ∧ j ≤ s.size ∧ d = s.size - j)
        case atStart => exact ⟨i1, by go_num, rfl, rfl, by omega, rfl⟩
        case round =>
          obtain ⟨j, rfl, hwr, hk, hjl, hdd⟩ := hrel
          subst hwr
          have HK := Lib.hid hk
          have HDD := Lib.hid hdd
          clear hk hdd
          by_cases hlt : j < s.size
          · obtain ⟨ad', had, hcellj⟩ := HR.out.at_ hlt
            injection had with had
            subst had
            have hr := bt_range s j
            obtain ⟨z, hz⟩ : ∃ x, bt s j = x := ⟨_, rfl⟩
            rw [hz] at hcellj hr
            have HZ := Lib.hid hz
            clear hz
            by_cases z1 : 48 ≤ z
            · by_cases z2 : z ≤ 57
              · have HS := Lib.hid (skip_yes (p := isDigit) hlt (by rw [dg_iff, HZ.out]; omega))
                go_wp2
                go_roundg (s.size - (j + 1))
                case measure => have := HDD.out; omega
                case rel => exact ⟨j + 1, by go_num, rfl, HS.out.symm.trans HK.out, by omega, rfl⟩
              · have HS := Lib.hid (skip_no (p := isDigit) (s := s) (i := j) (by rw [dg_iff, HZ.out]; omega))
                go_wp2
                go_meet
                case rel => exact ⟨j, rfl, rfl, hjl, by rw [HE.out, ← HK.out, HS.out]⟩
            · have HS := Lib.hid (skip_no (p := isDigit) (s := s) (i := j) (by rw [dg_iff, HZ.out]; omega))
              go_wp2
              go_meet
              case rel => exact ⟨j, rfl, rfl, hjl, by rw [HE.out, ← HK.out, HS.out]⟩
          · have HS := Lib.hid (skip_no (p := isDigit) (s := s) (i := j) (by omega))
            go_wp2
            go_meet
            case rel => exact ⟨j, rfl, rfl, hjl, by rw [HE.out, ← HK.out, HS.out]⟩
    case rest =>
      obtain ⟨i2, hwx, rfl, hi2, hint⟩ := hcut
      subst hwx
      have HF2 := Lib.hid (show numAt s i0 = (numFrac s i2).bind fun j => numExp s j by rw [HF.out, hint]; rfl)
      refine (by assumption : ∀ (a : Act) (w : World), Code.wp Try.prog _ _ a w → _) _ _ ?_
      exact numTail15 ad s c i0 i2 _ hs HR hi2 HF2 _ _ _ _ _ _ _ _ _ _ _ _ _ _ _ _ _ _ _ _ _ _ _ _ _ _ _ _ _ _ _ _ _ _ _ _ _ _ _ _ _ _ _ _ _ _ _ _ _ _ _ _ _ _ _ _ _ _ _ _ _ _ _ _ _ _ _ _ _ _ _ _ _ _ _ _ _ _ _ _ _ _ _ _ _ _ _ _ _ _ _ _ _ _ _ _ _ _ _ _ _ _ _ _ _ _ _ _ _ _ _ _ _ _ _ _ _ _ _ _ _ _ _ _ _ _ _ _ _ _ _ _ _ _ _ _ _ _ _ _ _ _ _ _ _ _ _ _ _ _ _ _ _ _ _ _ _ _ _ _ _ _ _ _ _ _ _ _ _ _ _ _ _ _ _ _ _ _ _ _ _ _ _ _ _ _ _ _ 
end Go.Proofs.Ytmpjkhcddfdboaa.L
