/- The walks of gjson's Valid, fifth part: validobject. -/
import Derived.Test.YtmpjkhcddfdboaaValid4
import Derived.Test.YtmpjkhcddfdboaaReader4
import Derived.ScopeJumps
import Derived.WalkMore
namespace Go.Proofs.Ytmpjkhcddfdboaa.L
open Go.RowKit
set_option linter.unusedVariables false
set_option linter.unusedSimpArgs false

theorem string_yes (A : Option Addr) (s : ByteArray) (c i : Nat) (w : World) (h : Sl w A s c) (hi : i < s.size) {j : Nat} (hr : strAt s i = some j) :
    Calls Try.prog 26 #[.slice A s.size c, .int .i64 ((i : Int) + 1)] w fun e w' => e = .returned (.tuple #[.int .i64 (j : Int), .bool true]) ∧ w' = w := by
  have := stringW A s c (i + 1) w h (by omega)
  rw [show ((i + 1 : Nat) : Int) = (i : Int) + 1 by omega] at this
  exact this.mono fun e w' hp => hp.some hr
theorem string_no (A : Option Addr) (s : ByteArray) (c i : Nat) (w : World) (h : Sl w A s c) (hi : i < s.size) (hr : strAt s i = none) :
    Calls Try.prog 26 #[.slice A s.size c, .int .i64 ((i : Int) + 1)] w fun e w' => ∃ j : Int, e = .returned (.tuple #[.int .i64 j, .bool false]) ∧ w' = w := by
  have := stringW A s c (i + 1) w h (by omega)
  rw [show ((i + 1 : Nat) : Int) = (i : Int) + 1 by omega] at this
  exact this.mono fun e w' hp => hp.none hr
theorem colon_yes (A : Option Addr) (s : ByteArray) (c i0 : Nat) (w : World) (h : Sl w A s c) (hi : i0 ≤ s.size) (hr : bt s (skip isBlank s i0) = 58) {m : Nat} (hm : skip isBlank s i0 + 1 = m) :
    Calls Try.prog 31 #[.slice A s.size c, .int .i64 (i0 : Int)] w fun e w' => e = .returned (.tuple #[.int .i64 (m : Int), .bool true]) ∧ w' = w :=
  (colonW A s c i0 w h hi).mono fun e w' hp => hp.some (by unfold colonAt; rw [if_pos hr, hm])
theorem colon_no (A : Option Addr) (s : ByteArray) (c i0 : Nat) (w : World) (h : Sl w A s c) (hi : i0 ≤ s.size) (hr : ¬ bt s (skip isBlank s i0) = 58) :
    Calls Try.prog 31 #[.slice A s.size c, .int .i64 (i0 : Int)] w fun e w' => ∃ j : Int, e = .returned (.tuple #[.int .i64 j, .bool false]) ∧ w' = w :=
  (colonW A s c i0 w h hi).mono fun e w' hp => hp.none (by unfold colonAt; rw [if_neg hr])
theorem wp_scope_head {P : Program} {a : Act} {w : World} {Q : Exit → Act → World → Prop} {b : Code} (l : Nat) (J : Act → World → Prop) (μ : Act → World → Nat) (hJ : J a w)
    (pass : ∀ a w, J a w → b.wp P (Exit.jump l (fun a' w' => J a' w' ∧ μ a' w' < μ a w) Q) a w) : (Code.scope (.seq (.label l) b)).wp P Q a w := by
  refine wp_scope_jumps (rest := .seq .skip b) l J μ (by simp [findLabel]) ?_ ?_
  · refine wp_seq ?_
    go_step3
    show b.wp P _ a w
    refine Code.wp_mono (fun e a' w' h => ?_) (pass a w hJ)
    cases e <;> first | exact h | exact ⟨h.1, h.2.1⟩
  · intro a' w' h
    refine wp_seq (wp_skip ?_)
    exact pass a' w' h
def natOf : Value → Nat | .int _ q => q.toNat | _ => 0

set_option maxRecDepth 100000 in
set_option maxHeartbeats 8000000 in
theorem objectW {s : ByteArray} {n : Nat} (hv : VC s n) (A : Option Addr) (c i0 : Nat) (w : World) (h : Sl w A s c) (hi : i0 < s.size) (hn : s.size - i0 ≤ n) :
    Calls Try.prog 24 #[.slice A s.size c, .int .i64 ((i0 : Int) + 1)] w (VPost ((membsAt (valN s n) s i0).map (·.1)) w) := by
  have hs := h.sz
  have HV := Lib.hid hv
  have HSL := Lib.hid h
  clear h hv
  go_enter Try.func24, Try.ntmps24
  go_wp2
  go_loopg [1] (s.size - (i0 + 1)) (fun d v1 wr => ∃ i : Nat, v1 = .int .i64 (i : Int) ∧ wr = w ∧ d = s.size - i ∧ i0 < i ∧ i ≤ s.size ∧ skip isBlank s i = skip isBlank s (i0 + 1))
  case atStart => exact ⟨i0 + 1, by go_num, rfl, rfl, by omega, by omega, rfl⟩
  case round =>
    obtain ⟨i, rfl, hwr, hd, hi0, hil, hk⟩ := hrel
    subst hwr
    have HD := Lib.hid hd
    have HK := Lib.hid hk
    clear hd hk
    by_cases hlt : i < s.size
    · obtain ⟨ad, rfl, hcell⟩ := HSL.out.rd.at_ hlt
      have hr := bt_range s i
      obtain ⟨x, hx⟩ : ∃ x, bt s i = x := ⟨_, rfl⟩
      rw [hx] at hcell hr
      have HX := Lib.hid hx
      clear hx
      by_cases hb : isBlank x = true
      · have HS := Lib.hid (skip_yes (p := isBlank) hlt (by rw [HX.out]; exact hb))
        rcases blank_cases hb with rfl | rfl | rfl | rfl
        all_goals
          go_wp2
          go_roundg (s.size - (i + 1))
          case measure => have := HD.out; omega
          case rel => exact ⟨i + 1, by go_num, rfl, rfl, by omega, by omega, HS.out.symm.trans HK.out⟩
      · have HS := Lib.hid (skip_no (p := isBlank) (s := s) (i := i) (by rw [HX.out]; exact fun h => hb h.2))
        obtain ⟨b1, b2, b3, b4⟩ := blank_not hb
        clear hb
        by_cases h125 : x = 125
        · have HE := Lib.hid (show (membsAt (valN s n) s i0).map (·.1) = some (i + 1) by unfold membsAt; rw [← HK.out, HS.out, if_pos (by rw [HX.out]; exact h125)]; rfl)
          subst h125
          go_wp2
          go_ret2
          exact VPost.yes rfl HE.out rfl (by omega)
        · have HE := Lib.hid (show membsAt (valN s n) s i0 = membsN (valN s n) s (s.size + 1) i [] [] by unfold membsAt; rw [← HK.out, HS.out, if_neg (by rw [HX.out]; exact h125)])
          by_cases h34 : x = 34
          · subst h34
            clear hr b1 b2 b3 b4 h125
            go_upto_if 26 with (fail)
            go_step
            refine wp_scope_head 0 (fun a' w' => w' = wr ∧ ∃ (k d : Nat) (ns : List (Nat × Nat)) (ks : List Pl), bt s k = 34 ∧ membsN (valN s n) s d k ns ks = membsAt (valN s n) s i0 ∧ i0 < k ∧ s.size - k < d ∧ ∃ (u2 u3 u4 u5 u6 u7 u8 u9 u10 u11 u12 u13 u14 u15 u16 u17 u18 u19 u20 u21 u22 u23 u24 u25 u26 u27 u28 u29 u30 u31 u32 u33 u34 u35 u36 u37 u38 u39 u40 u41 u42 u43 u44 u45 u46 u47 u48 u49 u50 u51 u52 u53 u54 u55 u56 u57 u58 u59 u60 u61 u62 u63 u64 u65 u66 u67 u68 u69 u70 u71 u72 u73 u74 u75 u76 u77 u78 u79 u80 u81 u82 u83 u84 u85 u86 u87 u88 u89 u90 u91 u92 u93 : Value), a' = ⟨#[.slice (some ad) s.size c, .int .i64 (k : Int), u2, u3, u4, u5, u6, u7, u8, u9, u10, u11, u12, u13, u14, u15, u16, u17, u18, u19, u20, u21, u22, u23, u24, u25, u26, u27, u28, u29, u30, u31, u32, u33, u34, u35, u36, u37, u38, u39, u40, u41, u42, u43, u44, u45, u46, u47, u48, u49, u50, u51, u52, u53, u54, u55, u56, u57, u58, u59, u60, u61, u62, u63, u64, u65, u66, u67, u68, u69, u70, u71, u72, u73, u74, u75, u76, u77, u78, u79, u80, u81, u82, u83, u84, u85, u86, u87, u88, u89, u90, u91, u92, u93], []⟩) (fun a' _ => s.size - natOf (a'.tmps.getD 1 undef)) ⟨rfl, i, s.size + 1, [], [], HX.out, HE.out.symm, hi0, by omega, _, _, _, _, _, _, _, _, _, _, _, _, _, _, _, _, _, _, _, _, _, _, _, _, _, _, _, _, _, _, _, _, _, _, _, _, _, _, _, _, _, _, _, _, _, _, _, _, _, _, _, _, _, _, _, _, _, _, _, _, _, _, _, _, _, _, _, _, _, _, _, _, _, _, _, _, _, _, _, _, _, _, _, _, _, _, _, _, _, _, _, _, rfl⟩ ?_
            clear hcell HS HE HX hlt HD HK hil hi0
            clear i
            rintro a' w' ⟨hwr, k, d, ns, ks, h34, hmb, hik, hfu, hJ⟩
            subst hwr
            obtain ⟨u2, hJ⟩ := hJ
            obtain ⟨u3, hJ⟩ := hJ
            obtain ⟨u4, hJ⟩ := hJ
            obtain ⟨u5, hJ⟩ := hJ
            obtain ⟨u6, hJ⟩ := hJ
            obtain ⟨u7, hJ⟩ := hJ
            obtain ⟨u8, hJ⟩ := hJ
            obtain ⟨u9, hJ⟩ := hJ
            obtain ⟨u10, hJ⟩ := hJ
            obtain ⟨u11, hJ⟩ := hJ
            obtain ⟨u12, hJ⟩ := hJ
            obtain ⟨u13, hJ⟩ := hJ
            obtain ⟨u14, hJ⟩ := hJ
            obtain ⟨u15, hJ⟩ := hJ
            obtain ⟨u16, hJ⟩ := hJ
            obtain ⟨u17, hJ⟩ := hJ
            obtain ⟨u18, hJ⟩ := hJ
            obtain ⟨u19, hJ⟩ := hJ
            obtain ⟨u20, hJ⟩ := hJ
            obtain ⟨u21, hJ⟩ := hJ
            obtain ⟨u22, hJ⟩ := hJ
            obtain ⟨u23, hJ⟩ := hJ
            obtain ⟨u24, hJ⟩ := hJ
            obtain ⟨u25, hJ⟩ := hJ
            obtain ⟨u26, hJ⟩ := hJ
            obtain ⟨u27, hJ⟩ := hJ
            obtain ⟨u28, hJ⟩ := hJ
            obtain ⟨u29, hJ⟩ := hJ
            obtain ⟨u30, hJ⟩ := hJ
            obtain ⟨u31, hJ⟩ := hJ
            obtain ⟨u32, hJ⟩ := hJ
            obtain ⟨u33, hJ⟩ := hJ
            obtain ⟨u34, hJ⟩ := hJ
            obtain ⟨u35, hJ⟩ := hJ
            obtain ⟨u36, hJ⟩ := hJ
            obtain ⟨u37, hJ⟩ := hJ
            obtain ⟨u38, hJ⟩ := hJ
            obtain ⟨u39, hJ⟩ := hJ
            obtain ⟨u40, hJ⟩ := hJ
            obtain ⟨u41, hJ⟩ := hJ
            obtain ⟨u42, hJ⟩ := hJ
            obtain ⟨u43, hJ⟩ := hJ
            obtain ⟨u44, hJ⟩ := hJ
            obtain ⟨u45, hJ⟩ := hJ
            obtain ⟨u46, hJ⟩ := hJ
            obtain ⟨u47, hJ⟩ := hJ
            obtain ⟨u48, hJ⟩ := hJ
            obtain ⟨u49, hJ⟩ := hJ
            obtain ⟨u50, hJ⟩ := hJ
            obtain ⟨u51, hJ⟩ := hJ
            obtain ⟨u52, hJ⟩ := hJ
            obtain ⟨u53, hJ⟩ := hJ
            obtain ⟨u54, hJ⟩ := hJ
            obtain ⟨u55, hJ⟩ := hJ
            obtain ⟨u56, hJ⟩ := hJ
            obtain ⟨u57, hJ⟩ := hJ
            obtain ⟨u58, hJ⟩ := hJ
            obtain ⟨u59, hJ⟩ := hJ
            obtain ⟨u60, hJ⟩ := hJ
            obtain ⟨u61, hJ⟩ := hJ
            obtain ⟨u62, hJ⟩ := hJ
            obtain ⟨u63, hJ⟩ := hJ
            obtain ⟨u64, hJ⟩ := hJ
            obtain ⟨u65, hJ⟩ := hJ
            obtain ⟨u66, hJ⟩ := hJ
            obtain ⟨u67, hJ⟩ := hJ
            obtain ⟨u68, hJ⟩ := hJ
            obtain ⟨u69, hJ⟩ := hJ
            obtain ⟨u70, hJ⟩ := hJ
            obtain ⟨u71, hJ⟩ := hJ
            obtain ⟨u72, hJ⟩ := hJ
            obtain ⟨u73, hJ⟩ := hJ
            obtain ⟨u74, hJ⟩ := hJ
            obtain ⟨u75, hJ⟩ := hJ
            obtain ⟨u76, hJ⟩ := hJ
            obtain ⟨u77, hJ⟩ := hJ
            obtain ⟨u78, hJ⟩ := hJ
            obtain ⟨u79, hJ⟩ := hJ
            obtain ⟨u80, hJ⟩ := hJ
            obtain ⟨u81, hJ⟩ := hJ
            obtain ⟨u82, hJ⟩ := hJ
            obtain ⟨u83, hJ⟩ := hJ
            obtain ⟨u84, hJ⟩ := hJ
            obtain ⟨u85, hJ⟩ := hJ
            obtain ⟨u86, hJ⟩ := hJ
            obtain ⟨u87, hJ⟩ := hJ
            obtain ⟨u88, hJ⟩ := hJ
            obtain ⟨u89, hJ⟩ := hJ
            obtain ⟨u90, hJ⟩ := hJ
            obtain ⟨u91, hJ⟩ := hJ
            obtain ⟨u92, hJ⟩ := hJ
            obtain ⟨u93, hJ⟩ := hJ
            subst hJ
            obtain ⟨d, rfl⟩ : ∃ d', d = d' + 1 := ⟨d - 1, by omega⟩
            have hkl := lt_of_bt (s := s) (i := k) (by omega)
            have HMB := Lib.hid hmb
            have H34 := Lib.hid h34
            clear hmb h34
            cases hst : strAt s k with
            | none =>
              have HN := Lib.hid (show (membsAt (valN s n) s i0).map (·.1) = none by rw [← HMB.out, mb_nos H34.out hst]; rfl)
              have HST := Lib.hid hst
              clear hst
              go_wp2_with (first
                | (go_at_call 26; go_must (refine (string_no _ s c k _ HSL.out hkl HST.out).mono ?_); rintro e w2 ⟨j, rfl, rfl⟩))
              show bodyPost Try.prog Try.f24 (VPost ((membsAt (valN s n) s i0).map (·.1)) _) .ret _ _
              go_ret2
              exact VPost.no rfl HN.out rfl
            | some j =>
              have hj := strAt_step hst
              have HST := Lib.hid hst
              clear hst
              by_cases h58 : bt s (skip isBlank s j) = 58
              · have hm0 := lt_of_bt (s := s) (i := skip isBlank s j) (by omega)
                have hm2 := skip_le isBlank s j
                have H58 := Lib.hid h58
                obtain ⟨m, hm⟩ : ∃ m, skip isBlank s j + 1 = m := ⟨_, rfl⟩
                have hm1 : m ≤ s.size := by omega
                have hm3 : k < m := by omega
                have HM := Lib.hid hm
                clear h58 hm hm0 hm2
                cases hval : valN s n (skip isBlank s m) with
                | none =>
                  have HVAL := Lib.hid hval
                  have HN := Lib.hid (show (membsAt (valN s n) s i0).map (·.1) = none by rw [← HMB.out, mb_nov H34.out HST.out H58.out (by rw [HM.out]; exact hval)]; rfl)
                  clear hval
                  go_wp2_with (first
                    | (go_at_call 26; go_must (refine (string_yes _ s c k _ HSL.out hkl HST.out).mono ?_); rintro e w2 ⟨rfl, rfl⟩)
                    | (go_at_call 31; go_must (refine (colon_yes _ s c j _ HSL.out hj.2 H58.out HM.out).mono ?_); rintro e w2 ⟨rfl, rfl⟩)
                    | (go_at_call 22; go_must (refine (HV.out.no _ c m _ HSL.out hm1 (by omega) HVAL.out).mono ?_); rintro e w2 ⟨jj, rfl, rfl⟩))
                  show bodyPost Try.prog Try.f24 (VPost ((membsAt (valN s n) s i0).map (·.1)) _) .ret _ _
                  go_ret2
                  exact VPost.no rfl HN.out rfl
                | some lp =>
                  obtain ⟨l, p⟩ := lp
                  have HVAL := Lib.hid hval
                  have hl := valN_fwd s n _ _ _ (skip_top isBlank s hm1) hval
                  have hl2 := skip_le isBlank s m
                  clear hval
                  obtain ⟨q, hq⟩ : ∃ q, skip isBlank s l = q := ⟨_, rfl⟩
                  have hq0 := skip_le isBlank s l
                  have hq1 := skip_top isBlank s hl.2
                  rw [hq] at hq0 hq1
                  have HQ := Lib.hid hq
                  clear hq
                  have HVM := Lib.hid (show valN s n (skip isBlank s (skip isBlank s j + 1)) = some (l, p) by rw [HM.out]; exact HVAL.out)
                  by_cases h125 : bt s q = 125
                  · have hqlt := lt_of_bt (s := s) (i := q) (by omega)
                    have HC := Lib.hid (show commaAt s 125 l = some q by unfold commaAt; rw [HQ.out, if_pos (.inr h125)])
                    have HN := Lib.hid (show (membsAt (valN s n) s i0).map (·.1) = some (q + 1) by rw [← HMB.out, mb_end H34.out HST.out H58.out HVM.out (by rw [HQ.out]; exact h125), HQ.out]; rfl)
                    obtain ⟨ad', had, hcell⟩ := HSL.out.rd.at_ hqlt
                    injection had with had
                    subst had
                    rw [h125] at hcell
                    clear h125
                    go_wp2_with (first
                      | (go_at_call 26; go_must (refine (string_yes _ s c k _ HSL.out hkl HST.out).mono ?_); rintro e w2 ⟨rfl, rfl⟩)
                      | (go_at_call 31; go_must (refine (colon_yes _ s c j _ HSL.out hj.2 H58.out HM.out).mono ?_); rintro e w2 ⟨rfl, rfl⟩)
                      | (go_at_call 22; go_must (refine (HV.out.yes _ c m _ HSL.out hm1 (by omega) HVAL.out).mono ?_); rintro e w2 ⟨rfl, rfl⟩)
                      | (go_at_call 32; go_must (refine (comma_yes _ s c l 125 _ HSL.out hl.2 (by omega) HC.out).mono ?_); rintro e w2 ⟨rfl, rfl⟩))
                    show bodyPost Try.prog Try.f24 (VPost ((membsAt (valN s n) s i0).map (·.1)) _) .ret _ _
                    go_ret2
                    exact VPost.yes rfl HN.out rfl (by omega)
                  · by_cases h44 : bt s q = 44
                    · have hqlt := lt_of_bt (s := s) (i := q) (by omega)
                      have HC := Lib.hid (show commaAt s 125 l = some q by unfold commaAt; rw [HQ.out, if_pos (.inl h44)])
                      have HN := Lib.hid ((mb_more (k := d) (ns := ns) (ks := ks) H34.out HST.out H58.out HVM.out (by rw [HQ.out]; exact h125) (by rw [HQ.out]; exact h44)).symm.trans HMB.out)
                      obtain ⟨ad', had, hcell⟩ := HSL.out.rd.at_ hqlt
                      injection had with had
                      subst had
                      rw [h44] at hcell
                      clear h125 h44
                      obtain ⟨d, rfl⟩ : ∃ d', d = d' + 1 := ⟨d - 1, by omega⟩
                      go_wp2_with (first
                        | (go_at_call 26; go_must (refine (string_yes _ s c k _ HSL.out hkl HST.out).mono ?_); rintro e w2 ⟨rfl, rfl⟩)
                        | (go_at_call 31; go_must (refine (colon_yes _ s c j _ HSL.out hj.2 H58.out HM.out).mono ?_); rintro e w2 ⟨rfl, rfl⟩)
                        | (go_at_call 22; go_must (refine (HV.out.yes _ c m _ HSL.out hm1 (by omega) HVAL.out).mono ?_); rintro e w2 ⟨rfl, rfl⟩)
                        | (go_at_call 32; go_must (refine (comma_yes _ s c l 125 _ HSL.out hl.2 (by omega) HC.out).mono ?_); rintro e w2 ⟨rfl, rfl⟩))
                      go_loopg [1] (s.size - (q + 1)) (fun d' v1 wr' => ∃ i' : Nat, v1 = .int .i64 (i' : Int) ∧ wr' = w2 ∧ d' = s.size - i' ∧ q < i' ∧ i' ≤ s.size ∧ skip isBlank s i' = skip isBlank s (q + 1))
                      case atStart => exact ⟨q + 1, by go_num, rfl, rfl, by omega, by omega, rfl⟩
                      case round =>
                        obtain ⟨i', rfl, hwr', hd', hqi, hil', hk'⟩ := hrel
                        subst hwr'
                        have HD' := Lib.hid hd'
                        have HK' := Lib.hid hk'
                        clear hd' hk' hcell
                        by_cases hlt' : i' < s.size
                        · obtain ⟨ad', had, hcell⟩ := HSL.out.rd.at_ hlt'
                          injection had with had
                          subst had
                          have hr := bt_range s i'
                          obtain ⟨x, hx⟩ : ∃ x, bt s i' = x := ⟨_, rfl⟩
                          rw [hx] at hcell hr
                          have HX := Lib.hid hx
                          clear hx
                          by_cases hb : isBlank x = true
                          · have HS := Lib.hid (skip_yes (p := isBlank) hlt' (by rw [HX.out]; exact hb))
                            rcases blank_cases hb with rfl | rfl | rfl | rfl
                            all_goals
                              go_wp2
                              go_roundg (s.size - (i' + 1))
                              case measure => have := HD'.out; omega
                              case rel => exact ⟨i' + 1, by go_num, rfl, rfl, by omega, by omega, HS.out.symm.trans HK'.out⟩
                          · have HS := Lib.hid (skip_no (p := isBlank) (s := s) (i := i') (by rw [HX.out]; exact fun h => hb h.2))
                            obtain ⟨b1, b2, b3, b4⟩ := blank_not hb
                            clear hb
                            have HQ2 := Lib.hid (show skip isBlank s (skip isBlank s l + 1) = i' by rw [HQ.out, ← HK'.out, HS.out])
                            by_cases h34 : x = 34
                            · subst h34
                              go_wp2
                              go_step3
                              refine ⟨rfl, ⟨rfl, i', _, _, _, HX.out, by rw [← HQ2.out]; exact HN.out, by omega, by omega, _, _, _, _, _, _, _, _, _, _, _, _, _, _, _, _, _, _, _, _, _, _, _, _, _, _, _, _, _, _, _, _, _, _, _, _, _, _, _, _, _, _, _, _, _, _, _, _, _, _, _, _, _, _, _, _, _, _, _, _, _, _, _, _, _, _, _, _, _, _, _, _, _, _, _, _, _, _, _, _, _, _, _, _, _, _, _, _, _, _, _, _, rfl⟩, ?_⟩
                              show s.size - i' < s.size - k
                              omega
                            · have HF := Lib.hid (show (membsAt (valN s n) s i0).map (·.1) = none by rw [← HN.out, HQ2.out, mb_noq (by rw [HX.out]; exact h34)]; rfl)
                              go_wp2
                              show bodyPost Try.prog Try.f24 (VPost ((membsAt (valN s n) s i0).map (·.1)) _) .ret _ _
                              go_ret2
                              exact VPost.no rfl HF.out rfl
                        · have HF := Lib.hid (show (membsAt (valN s n) s i0).map (·.1) = none by
                            obtain rfl : i' = s.size := by omega
                            rw [← HN.out, HQ.out, ← HK'.out, skip_end, mb_noq (by rw [bt_out s _ (by omega)]; decide)]; rfl)
                          go_wp2
                          show bodyPost Try.prog Try.f24 (VPost ((membsAt (valN s n) s i0).map (·.1)) _) .ret _ _
                          go_ret2
                          exact VPost.no rfl HF.out rfl
                    · have HC := Lib.hid (show commaAt s 125 l = none by unfold commaAt; rw [HQ.out, if_neg (by omega)])
                      have HN := Lib.hid (show (membsAt (valN s n) s i0).map (·.1) = none by rw [← HMB.out, mb_bad H34.out HST.out H58.out HVM.out (by rw [HQ.out]; exact h125) (by rw [HQ.out]; exact h44)]; rfl)
                      clear h125 h44
                      go_wp2_with (first
                        | (go_at_call 26; go_must (refine (string_yes _ s c k _ HSL.out hkl HST.out).mono ?_); rintro e w2 ⟨rfl, rfl⟩)
                        | (go_at_call 31; go_must (refine (colon_yes _ s c j _ HSL.out hj.2 H58.out HM.out).mono ?_); rintro e w2 ⟨rfl, rfl⟩)
                        | (go_at_call 22; go_must (refine (HV.out.yes _ c m _ HSL.out hm1 (by omega) HVAL.out).mono ?_); rintro e w2 ⟨rfl, rfl⟩)
                        | (go_at_call 32; go_must (refine (comma_no _ s c l 125 _ HSL.out hl.2 (by omega) HC.out).mono ?_); rintro e w2 ⟨jj, rfl, rfl⟩))
                      show bodyPost Try.prog Try.f24 (VPost ((membsAt (valN s n) s i0).map (·.1)) _) .ret _ _
                      go_ret2
                      exact VPost.no rfl HN.out rfl
              · have H58 := Lib.hid h58
                have HN := Lib.hid (show (membsAt (valN s n) s i0).map (·.1) = none by rw [← HMB.out, mb_noc H34.out HST.out h58]; rfl)
                clear h58
                go_wp2_with (first
                  | (go_at_call 26; go_must (refine (string_yes _ s c k _ HSL.out hkl HST.out).mono ?_); rintro e w2 ⟨rfl, rfl⟩)
                  | (go_at_call 31; go_must (refine (colon_no _ s c j _ HSL.out hj.2 H58.out).mono ?_); rintro e w2 ⟨jj, rfl, rfl⟩))
                show bodyPost Try.prog Try.f24 (VPost ((membsAt (valN s n) s i0).map (·.1)) _) .ret _ _
                go_ret2
                exact VPost.no rfl HN.out rfl
          · have HN := Lib.hid (show (membsAt (valN s n) s i0).map (·.1) = none by rw [HE.out]; unfold membsN; rw [if_neg (by rw [HX.out]; exact h34)]; rfl)
            go_wp2
            go_ret2
            exact VPost.no rfl HN.out rfl
    · have HN := Lib.hid (show (membsAt (valN s n) s i0).map (·.1) = none by
        obtain rfl : i = s.size := by omega
        have e : skip isBlank s (i0 + 1) = s.size := by rw [← HK.out, skip_end]
        unfold membsAt
        rw [e, bt_out s _ (by omega), if_neg (by decide)]
        unfold membsN
        rw [bt_out s _ (by omega), if_neg (by decide)]; rfl)
      go_wp2
      go_ret2
      exact VPost.no rfl HN.out rfl
end Go.Proofs.Ytmpjkhcddfdboaa.L
