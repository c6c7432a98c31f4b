/- The walks of jsonparser's h2I, decodeSingleUnicodeEscape and decodeUnicodeEscape. -/
import Derived.Test.YtkdkdhcjpgmjdaaGreatDoorJuP
import Derived.Test.YtkdkdhcjpgmjdaaGreatDoorJpTok
import Derived.Deep.QuietTactic
namespace Go.Proofs.YtkdkdhcjpgmjdaaGreatDoor.Jp
open Go.RowKit L
set_option linter.unusedVariables false
set_option linter.unusedSimpArgs false

set_option maxRecDepth 100000 in
set_option maxHeartbeats 4000000 in
theorem h2iW (c : Int) (w : World) (hx : isHex c = true) : Calls Tryz.prog 123 #[.int .u8 c] w fun e w' => e = .returned (.int .i64 (hexV c)) ∧ w = w' := by
  obtain ⟨v, hv⟩ : ∃ v, hexV c = v := ⟨_, rfl⟩
  rw [hv]
  simp only [isHex, isDigit, Bool.or_eq_true, Bool.and_eq_true, decide_eq_true_eq] at hx
  by_cases h1 : 48 ≤ c ∧ c ≤ 57
  · obtain ⟨h1, h2⟩ := h1
    obtain rfl : v = c - 48 := by rw [← hv]; unfold hexV; repeat' split
                                  all_goals omega
    have e1 : IntKind.u8.wrap (c - 48) = c - 48 := IntWalk.u8_in _ (by omega)
    have e2 : IntKind.i64.wrap (c - 48) = c - 48 := IntWalk.i64_in _ (by omega)
    clear hx hv
    go_enter Tryz.func123, Tryz.ntmps123
    go_wp2
    go_ret
    exact ⟨rfl, rfl⟩
  by_cases h2 : 65 ≤ c ∧ c ≤ 70
  · obtain ⟨h2, h3⟩ := h2
    obtain rfl : v = c - 65 + 10 := by rw [← hv]; unfold hexV; repeat' split
                                       all_goals omega
    have e1 : IntKind.u8.wrap (c - 65) = c - 65 := IntWalk.u8_in _ (by omega)
    have e2 : IntKind.i64.wrap (c - 65) = c - 65 := IntWalk.i64_in _ (by omega)
    have e3 : IntKind.i64.wrap (c - 65 + 10) = c - 65 + 10 := IntWalk.i64_in _ (by omega)
    have n1 : ¬ c ≤ 57 := by omega
    clear hx hv h1
    go_enter Tryz.func123, Tryz.ntmps123
    go_wp2
    go_ret
    exact ⟨rfl, rfl⟩
  · obtain ⟨h3, h4⟩ : 97 ≤ c ∧ c ≤ 102 := by omega
    obtain rfl : v = c - 97 + 10 := by rw [← hv]; unfold hexV; repeat' split
                                       all_goals omega
    have e1 : IntKind.u8.wrap (c - 97) = c - 97 := IntWalk.u8_in _ (by omega)
    have e2 : IntKind.i64.wrap (c - 97) = c - 97 := IntWalk.i64_in _ (by omega)
    have e3 : IntKind.i64.wrap (c - 97 + 10) = c - 97 + 10 := IntWalk.i64_in _ (by omega)
    have n1 : ¬ c ≤ 57 := by omega
    have n2 : ¬ c ≤ 70 := by omega
    clear hx hv h1 h2
    go_enter Tryz.func123, Tryz.ntmps123
    go_wp2
    go_ret
    exact ⟨rfl, rfl⟩
set_option maxRecDepth 100000 in
set_option maxHeartbeats 4000000 in
theorem dsingW (ad : Addr) (t : ByteArray) (c n : Nat) (w : World) (h : Rd w (some ad) t) (hn : n = t.size) (h6 : 6 ≤ t.size) (hs : t.size ≤ 1000000) (hx : hex4 t 2 = true) :
    Calls Tryz.prog 115 #[.slice (some ad) n c] w fun e w' => e = .returned (.tuple #[.int .i32 (hexQ t 2), .bool true]) ∧ ∃ m, w' = w.drewN m := by
  subst hn
  obtain ⟨q, hq⟩ : ∃ q, hexQ t 2 = q := ⟨_, rfl⟩
  have hqr := hexQ_le hx
  rw [hq] at hqr ⊢
  unfold hex4 at hx
  simp only [Bool.and_eq_true] at hx
  obtain ⟨⟨⟨x2, x3⟩, x4⟩, x5⟩ := hx
  have cell : ∀ k : Nat, k < t.size → w.cell? (ad.add k) = some (.int .u8 (bt t (k : Nat))) := fun k hk => by
    obtain ⟨ad', e, -, hc⟩ := h (by omega)
    injection e with e
    subst e
    exact hc k hk
  have k2 : w.cell? ⟨ad.block, ad.off + 2, none⟩ = some (.int .u8 (bt t ((2 : Nat) : Int))) := cell 2 (by omega)
  have k3 : w.cell? ⟨ad.block, ad.off + 3, none⟩ = some (.int .u8 (bt t ((3 : Nat) : Int))) := cell 3 (by omega)
  have k4 : w.cell? ⟨ad.block, ad.off + 4, none⟩ = some (.int .u8 (bt t ((4 : Nat) : Int))) := cell 4 (by omega)
  have k5 : w.cell? ⟨ad.block, ad.off + 5, none⟩ = some (.int .u8 (bt t ((5 : Nat) : Int))) := cell 5 (by omega)
  unfold hexQ at hq
  have r2 := hexV_le x2
  have r3 := hexV_le x3
  have r4 := hexV_le x4
  have r5 := hexV_le x5
  simp only [show ((2 + 1 : Nat)) = 3 from rfl, show ((2 + 2 : Nat)) = 4 from rfl, show ((2 + 3 : Nat)) = 5 from rfl] at *
  obtain ⟨b2, hb2⟩ : ∃ b, bt t ((2 : Nat) : Int) = b := ⟨_, rfl⟩
  obtain ⟨b3, hb3⟩ : ∃ b, bt t ((3 : Nat) : Int) = b := ⟨_, rfl⟩
  obtain ⟨b4, hb4⟩ : ∃ b, bt t ((4 : Nat) : Int) = b := ⟨_, rfl⟩
  obtain ⟨b5, hb5⟩ : ∃ b, bt t ((5 : Nat) : Int) = b := ⟨_, rfl⟩
  rw [hb2] at k2 x2 hq r2
  rw [hb3] at k3 x3 hq r3
  rw [hb4] at k4 x4 hq r4
  rw [hb5] at k5 x5 hq r5
  obtain ⟨v2, hv2⟩ : ∃ v, hexV b2 = v := ⟨_, rfl⟩
  obtain ⟨v3, hv3⟩ : ∃ v, hexV b3 = v := ⟨_, rfl⟩
  obtain ⟨v4, hv4⟩ : ∃ v, hexV b4 = v := ⟨_, rfl⟩
  obtain ⟨v5, hv5⟩ : ∃ v, hexV b5 = v := ⟨_, rfl⟩
  have c2 : ∀ W, Calls Tryz.prog 123 #[.int .u8 b2] W fun e w' => e = .returned (.int .i64 v2) ∧ w' = W := fun W => by rw [← hv2]; exact (h2iW b2 W x2).mono fun e w' h => ⟨h.1, h.2.symm⟩
  have c3 : ∀ W, Calls Tryz.prog 123 #[.int .u8 b3] W fun e w' => e = .returned (.int .i64 v3) ∧ w' = W := fun W => by rw [← hv3]; exact (h2iW b3 W x3).mono fun e w' h => ⟨h.1, h.2.symm⟩
  have c4 : ∀ W, Calls Tryz.prog 123 #[.int .u8 b4] W fun e w' => e = .returned (.int .i64 v4) ∧ w' = W := fun W => by rw [← hv4]; exact (h2iW b4 W x4).mono fun e w' h => ⟨h.1, h.2.symm⟩
  have c5 : ∀ W, Calls Tryz.prog 123 #[.int .u8 b5] W fun e w' => e = .returned (.int .i64 v5) ∧ w' = W := fun W => by rw [← hv5]; exact (h2iW b5 W x5).mono fun e w' h => ⟨h.1, h.2.symm⟩
  rw [hv2, hv3, hv4, hv5] at hq
  rw [hv2] at r2
  rw [hv3] at r3
  rw [hv4] at r4
  rw [hv5] at r5
  have C2 := Lib.hid c2
  have C3 := Lib.hid c3
  have C4 := Lib.hid c4
  have C5 := Lib.hid c5
  clear cell c2 c3 c4 c5 x2 x3 x4 x5 hb2 hb3 hb4 hb5 hv2 hv3 hv4 hv5 h
  have HQ := Lib.hid hq
  have n2 : (v2 == -1) = false := by simp; omega
  have n3 : (v3 == -1) = false := by simp; omega
  have n4 : (v4 == -1) = false := by simp; omega
  have n5 : (v5 == -1) = false := by simp; omega
  have a2 : (2 : Int) < (t.size : Int) := by omega
  have a3 : (3 : Int) < (t.size : Int) := by omega
  have a4 : (4 : Int) < (t.size : Int) := by omega
  have a5 : (5 : Int) < (t.size : Int) := by omega
  clear hq
  go_enter Tryz.func115, Tryz.ntmps115
  go_wp2
  go_quiet (first
    | (go_at_call 123; (with_reducible refine Calls.quiet_of_same (C2.out _)))
    | (go_at_call 123; (with_reducible refine Calls.quiet_of_same (C3.out _)))
    | (go_at_call 123; (with_reducible refine Calls.quiet_of_same (C4.out _)))
    | (go_at_call 123; (with_reducible refine Calls.quiet_of_same (C5.out _))))
  go_wp2
  go_ret2
  have e : v2 * 4096 + v3 * 256 + v4 * 16 + v5 = q := by rw [← HQ.out]; omega
  exact ⟨by rw [← e]; rfl, _, rfl⟩
set_option maxRecDepth 100000 in
set_option maxHeartbeats 4000000 in
/-- One escape of four digits, or a pair of them. -/
theorem decW (ad : Addr) (t : ByteArray) (c n : Nat) (u : Int) (w : World) (h : Rd w (some ad) t) (hsp : ad.spot = none) (hn : n = t.size) (hc : t.size ≤ c) (hs : t.size ≤ 1000000) (ho : EscOk t 0) (hu : unitB t 0 = some u) :
    Calls Tryz.prog 107 #[.slice (some ad) n c] w fun e w' => ∃ (r : Int) (k : Nat), e = .returned (.tuple #[.int .i32 r, .int .i64 (k : Int)]) ∧ 0 ≤ r ∧ r ≤ 1114111 ∧ UnSt t k (Lib.encodeRuneZ r) ∧ ∃ m, w' = w.drewN m := by
  subst hn
  have HO := Lib.hid ho
  have HU := Lib.hid hu
  have hus := unit_some hu
  obtain ⟨-, -, hx, hq, u0, u1, h6⟩ := hus
  rw [Nat.zero_add] at hx hq h6
  have HD := Lib.hid (fun W hW => dsingW ad t c t.size W hW rfl h6 hs hx)
  rw [← hq] at HD
  have HR := Lib.hid h
  have h0 : 0 < t.size := by omega
  clear ho hu hx hq h
  by_cases hsur : 55296 ≤ u ∧ u ≤ 57343
  case neg =>
    have hf1 : (decide (55296 ≤ u) && decide (u ≤ 57343)) = false := by simp only [Bool.and_eq_false_iff, decide_eq_false_iff_not]; omega
    have HI : ∀ W, Calls Tryz.prog 116 #[.int .i32 u] W fun e w' => e = .returned (.bool false) ∧ W = w' := by
      intro W
      by_cases h1 : 55296 ≤ u
      · have h2 : ¬ u ≤ 57343 := by omega
        clear HD HR HO HU
        go_enter Tryz.func116, Tryz.ntmps116
        go_wp2
        go_ret
        exact ⟨by simp [h2], rfl⟩
      · clear HD HR HO HU
        go_enter Tryz.func116, Tryz.ntmps116
        go_wp2
        go_ret
        exact ⟨rfl, rfl⟩
    have HII := Lib.hid HI
    have HUN := Lib.hid (UnSt.one (r := u) HO.out h0 HU.out (fun m _ => by
      have : highI u = false := by unfold highI; simp only [Bool.and_eq_false_iff, decide_eq_false_iff_not]; omega
      rw [this]; rfl) (.inr ⟨by unfold highI lowI; simp only [Bool.or_eq_false_iff, Bool.and_eq_false_iff, decide_eq_false_iff_not]; omega, rfl⟩))
    clear HI hf1
    go_enter Tryz.func107, Tryz.ntmps107
    go_wp2_with (first
      | (go_at_call 115; go_must (refine (HD.out _ HR.out).mono ?_); rintro e w1 ⟨rfl, m1, rfl⟩)
      | (go_at_call 116; go_must (refine (HII.out _).mono ?_); rintro e w1 ⟨rfl, rfl⟩))
    go_ret2
    exact ⟨u, 6, rfl, u0, by omega, HUN.out, _, rfl⟩
  obtain ⟨s1, s2⟩ := hsur
  have HI : ∀ W, Calls Tryz.prog 116 #[.int .i32 u] W fun e w' => e = .returned (.bool true) ∧ W = w' := by
    intro W
    clear HD HR HO HU
    go_enter Tryz.func116, Tryz.ntmps116
    go_wp2
    go_ret
    exact ⟨by simp [s2], rfl⟩
  have HII := Lib.hid HI
  clear HI
  have hsu : (highI u || lowI u) = true := by unfold highI lowI; simp only [Bool.or_eq_true, Bool.and_eq_true, decide_eq_true_eq]; omega
  by_cases hlow : 56320 ≤ u
  · have HUN := Lib.hid (UnSt.one (r := 65533) HO.out h0 HU.out (fun m _ => by
      have : highI u = false := by unfold highI; simp only [Bool.and_eq_false_iff, decide_eq_false_iff_not]; omega
      rw [this]; rfl) (.inl ⟨hsu, rfl⟩))
    clear hsu
    go_enter Tryz.func107, Tryz.ntmps107
    go_wp2_with (first
      | (go_at_call 115; go_must (refine (HD.out _ HR.out).mono ?_); rintro e w1 ⟨rfl, m1, rfl⟩)
      | (go_at_call 116; go_must (refine (HII.out _).mono ?_); rintro e w1 ⟨rfl, rfl⟩))
    go_ret2
    exact ⟨65533, 6, rfl, by decide, by decide, HUN.out, _, rfl⟩
  have hhi : highI u = true := by unfold highI; simp only [Bool.and_eq_true, decide_eq_true_eq]; omega
  have HON := Lib.hid (fun hm => UnSt.one (r := 65533) HO.out h0 HU.out hm (.inl ⟨hsu, rfl⟩))
  have ho6 := HO.out.six HU.out
  rw [Nat.zero_add] at ho6
  have cell : ∀ k : Nat, k < t.size → w.cell? (ad.add k) = some (.int .u8 (bt t (k : Nat))) := fun k hk => by
    obtain ⟨ad', e, -, hc⟩ := HR.out h0
    injection e with e
    subst e
    exact hc k hk
  by_cases h8 : t.size < 8
  · have HUN := Lib.hid (HON.out (fun m hm => by have := (unit_some hm).2.2.2.2.2.2; omega))
    have hd8 : decide ((t.size : Int) < 8) = true := by simp; omega
    clear hsu HON cell ho6 hhi
    go_enter Tryz.func107, Tryz.ntmps107
    go_wp2_with (first
      | (go_at_call 115; go_must (refine (HD.out _ HR.out).mono ?_); rintro e w1 ⟨rfl, m1, rfl⟩)
      | (go_at_call 116; go_must (refine (HII.out _).mono ?_); rintro e w1 ⟨rfl, rfl⟩))
    go_ret2
    exact ⟨65533, 6, rfl, by decide, by decide, HUN.out, _, rfl⟩
  have hd8 : decide ((t.size : Int) < 8) = false := by simp; omega
  have k6 : w.cell? ⟨ad.block, ad.off + 6, none⟩ = some (.int .u8 (bt t ((6 : Nat) : Int))) := cell 6 (by omega)
  have k7 : w.cell? ⟨ad.block, ad.off + 7, none⟩ = some (.int .u8 (bt t ((7 : Nat) : Int))) := cell 7 (by omega)
  by_cases h92 : bt t ((6 : Nat) : Int) = 92
  case neg =>
    have HUN := Lib.hid (HON.out (fun m hm => absurd (unit_some hm).1 h92))
    obtain ⟨b6, hb6⟩ : ∃ b, bt t ((6 : Nat) : Int) = b := ⟨_, rfl⟩
    rw [hb6] at k6 h92
    have n6 : (b6 == 92) = false := by simp [h92]
    clear hsu HON cell ho6 hhi
    go_enter Tryz.func107, Tryz.ntmps107
    go_wp2_with (first
      | (go_at_call 115; go_must (refine (HD.out _ HR.out).mono ?_); rintro e w1 ⟨rfl, m1, rfl⟩)
      | (go_at_call 116; go_must (refine (HII.out _).mono ?_); rintro e w1 ⟨rfl, rfl⟩))
    go_ret2
    exact ⟨65533, 6, rfl, by decide, by decide, HUN.out, _, rfl⟩
  rw [h92] at k6
  by_cases h117 : bt t ((7 : Nat) : Int) = 117
  case neg =>
    have HUN := Lib.hid (HON.out (fun m hm => absurd (unit_some hm).2.1 h117))
    obtain ⟨b7, hb7⟩ : ∃ b, bt t ((7 : Nat) : Int) = b := ⟨_, rfl⟩
    rw [hb7] at k7 h117
    have n7 : (b7 == 117) = false := by simp [h117]
    clear hsu HON cell ho6 hhi
    go_enter Tryz.func107, Tryz.ntmps107
    go_wp2_with (first
      | (go_at_call 115; go_must (refine (HD.out _ HR.out).mono ?_); rintro e w1 ⟨rfl, m1, rfl⟩)
      | (go_at_call 116; go_must (refine (HII.out _).mono ?_); rintro e w1 ⟨rfl, rfl⟩))
    go_ret2
    exact ⟨65533, 6, rfl, by decide, by decide, HUN.out, _, rfl⟩
  rw [h117] at k7
  obtain ⟨m, hm⟩ : ∃ m, unitB t 6 = some m := by
    rcases ho6.letters (by omega) h92 with ⟨-, hl⟩ | h
    · exfalso
      rw [show (6 + 1 : Nat) = 7 from rfl, h117] at hl
      omega
    · exact h
  have HM := Lib.hid hm
  obtain ⟨-, -, hx2, hq2, m0, m1, h12⟩ := unit_some hm
  have hc6 : ¬ c = 6 := by omega
  have hR2 : Rd w (some ⟨ad.block, ad.off + 6, none⟩) (t.extract 6 t.size) := by
    have := rdc HR.out (i := 6) hc
    rw [if_neg hc6] at this
    exact this
  have hz2 : (t.extract 6 t.size).size = t.size - 6 := by rw [size_ext]; omega
  have hx3 : hex4 (t.extract 6 t.size) 2 = true := by
    have := hx2
    simp only [hex4, bt_drop t (show 6 ≤ t.size by omega), Nat.reduceAdd] at this ⊢
    exact this
  have hq3 : hexQ (t.extract 6 t.size) 2 = m := by
    rw [hq2]
    simp only [hexQ, bt_drop t (show 6 ≤ t.size by omega), Nat.reduceAdd]
  have HD2 := Lib.hid (fun k : Nat => dsingW ⟨ad.block, ad.off + 6, none⟩ (t.extract 6 t.size) (c - 6) (t.size - 6) (w.drewN k) hR2 hz2.symm (by omega) (by omega) hx3)
  rw [hq3] at HD2
  have e1 : (6 : Int) ≤ (t.size : Int) := by omega
  clear hsu hR2 hz2 hx3 hq3 hx2 hq2 ho6 cell
  by_cases hml : 56320 ≤ m ∧ m ≤ 57343
  · obtain ⟨l1, l2⟩ := hml
    have HUN := Lib.hid (UnSt.pair (r := 65536 + (u - 55296) * 1024 + (m - 56320)) HO.out h0 HU.out HM.out hhi (by unfold lowI; simp only [Bool.and_eq_true, decide_eq_true_eq]; omega) rfl)
    have HC : ∀ W, Calls Tryz.prog 117 #[.int .i32 u, .int .i32 m] W fun e w' => e = .returned (.int .i32 (65536 + (u - 55296) * 1024 + (m - 56320))) ∧ W = w' := by
      intro W
      obtain ⟨a, ha⟩ : ∃ a, u - 55296 = a := ⟨_, rfl⟩
      have g1 : IntKind.i32.wrap (u - 55296) = u - 55296 := IntWalk.i32_in _ (by omega)
      have g2 : IntKind.i32.wrap ((u - 55296) * 1024) = (u - 55296) * 1024 := IntWalk.i32_in _ (by omega)
      have g3 : IntKind.i32.wrap (65536 + (u - 55296) * 1024) = 65536 + (u - 55296) * 1024 := IntWalk.i32_in _ (by omega)
      have g4 : IntKind.i32.wrap (m - 56320) = m - 56320 := IntWalk.i32_in _ (by omega)
      have g5 : IntKind.i32.wrap (65536 + (u - 55296) * 1024 + (m - 56320)) = 65536 + (u - 55296) * 1024 + (m - 56320) := IntWalk.i32_in _ (by omega)
      clear HD HR HO HU HD2 HM HUN ha
      go_enter Tryz.func117, Tryz.ntmps117
      go_wp2
      go_ret
      exact ⟨rfl, rfl⟩
    have HCC := Lib.hid HC
    have nl1 : ¬ m < 56320 := by omega
    have nl2 : ¬ 57343 < m := by omega
    clear HC
    obtain ⟨r, hr⟩ : ∃ r, 65536 + (u - 55296) * 1024 + (m - 56320) = r := ⟨_, rfl⟩
    have hr0 : 0 ≤ r ∧ r ≤ 1114111 := by omega
    rw [hr] at HCC HUN
    clear hr
    go_enter Tryz.func107, Tryz.ntmps107
    go_wp2_with (first
      | (go_at_call 115; (with_reducible refine (HD.out _ HR.out).mono ?_); rintro e w1 ⟨rfl, m1, rfl⟩)
      | (go_at_call 115; (with_reducible refine (HD2.out _).mono ?_); rintro e w1 ⟨rfl, m2, rfl⟩)
      | (go_at_call 116; go_must (refine (HII.out _).mono ?_); rintro e w1 ⟨rfl, rfl⟩)
      | (go_at_call 117; go_must (refine (HCC.out _).mono ?_); rintro e w1 ⟨rfl, rfl⟩))
    go_ret2
    exact ⟨r, 12, rfl, hr0.1, hr0.2, HUN.out, _, rfl⟩
  · have HUN := Lib.hid (HON.out (fun m' hm' => by
      obtain rfl : m = m' := Option.some.inj (HM.out.symm.trans hm')
      have : lowI m = false := by unfold lowI; simp only [Bool.and_eq_false_iff, decide_eq_false_iff_not]; omega
      rw [this, Bool.and_false]))
    by_cases nl1 : m < 56320
    · go_enter Tryz.func107, Tryz.ntmps107
      go_wp2_with (first
        | (go_at_call 115; (with_reducible refine (HD.out _ HR.out).mono ?_); rintro e w1 ⟨rfl, m1, rfl⟩)
        | (go_at_call 115; (with_reducible refine (HD2.out _).mono ?_); rintro e w1 ⟨rfl, m2, rfl⟩)
        | (go_at_call 116; go_must (refine (HII.out _).mono ?_); rintro e w1 ⟨rfl, rfl⟩))
      go_ret2
      exact ⟨65533, 6, rfl, by decide, by decide, HUN.out, _, rfl⟩
    · have nl2 : 57343 < m := by omega
      go_enter Tryz.func107, Tryz.ntmps107
      go_wp2_with (first
        | (go_at_call 115; (with_reducible refine (HD.out _ HR.out).mono ?_); rintro e w1 ⟨rfl, m1, rfl⟩)
        | (go_at_call 115; (with_reducible refine (HD2.out _).mono ?_); rintro e w1 ⟨rfl, m2, rfl⟩)
        | (go_at_call 116; go_must (refine (HII.out _).mono ?_); rintro e w1 ⟨rfl, rfl⟩))
      go_ret2
      exact ⟨65533, 6, rfl, by decide, by decide, HUN.out, _, rfl⟩
end Go.Proofs.YtkdkdhcjpgmjdaaGreatDoor.Jp
