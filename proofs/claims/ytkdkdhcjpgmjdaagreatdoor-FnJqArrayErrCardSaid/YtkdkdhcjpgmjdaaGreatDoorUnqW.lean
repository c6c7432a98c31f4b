/- The walks of spec.unit, short, high, low, appendUTF8. -/
import Derived.Test.YtkdkdhcjpgmjdaaGreatDoorUnqP
import Derived.Test.YtkdkdhcjpgmjdaaGreatDoorApp
import Derived.Outline
import Derived.Deep.LoopGhost
import Derived.Deep.DeepMust
import Derived.Lib.Hide
namespace Go.Proofs.YtkdkdhcjpgmjdaaGreatDoor.L
open Go.RowKit
set_option linter.unusedVariables false
set_option linter.unusedSimpArgs false

theorem highW (c : Int) (b : Bool) (hb : highI c = b) (w : World) : Calls Tryz.prog 44 #[.int .i64 c] w fun e w' => e = .returned (.bool b) ∧ w = w' := by
  subst hb
  unfold highI
  by_cases h1 : 55296 ≤ c
  · by_cases h2 : c ≤ 56319
    · go_enter Tryz.func44, Tryz.ntmps44
      go_wp2
      go_ret
      exact ⟨by simp [h1, h2], rfl⟩
    · go_enter Tryz.func44, Tryz.ntmps44
      go_wp2
      go_ret
      exact ⟨by simp [h2], rfl⟩
  · go_enter Tryz.func44, Tryz.ntmps44
    go_wp2
    go_ret
    exact ⟨by simp [show ¬ 55296 ≤ c by omega], rfl⟩
theorem lowW (c : Int) (b : Bool) (hb : lowI c = b) (w : World) : Calls Tryz.prog 45 #[.int .i64 c] w fun e w' => e = .returned (.bool b) ∧ w = w' := by
  subst hb
  unfold lowI
  by_cases h1 : 56320 ≤ c
  · by_cases h2 : c ≤ 57343
    · go_enter Tryz.func45, Tryz.ntmps45
      go_wp2
      go_ret
      exact ⟨by simp [h1, h2], rfl⟩
    · go_enter Tryz.func45, Tryz.ntmps45
      go_wp2
      go_ret
      exact ⟨by simp [h2], rfl⟩
  · go_enter Tryz.func45, Tryz.ntmps45
    go_wp2
    go_ret
    exact ⟨by simp [show ¬ 56320 ≤ c by omega], rfl⟩
theorem shortW (c d : Int) (hd : shortI c = d) (h0 : 0 ≤ c) (h1 : c ≤ 255) (w : World) : Calls Tryz.prog 43 #[.int .u8 c] w fun e w' => e = .returned (.int .u8 d) ∧ w = w' := by
  unfold shortI at hd
  by_cases c1 : c = 98
  · subst c1
    obtain rfl : 8 = d := hd
    go_enter Tryz.func43, Tryz.ntmps43
    go_wp2
    go_ret
    exact ⟨rfl, rfl⟩
  rw [if_neg c1] at hd
  by_cases c2 : c = 102
  · subst c2
    obtain rfl : 12 = d := hd
    go_enter Tryz.func43, Tryz.ntmps43
    go_wp2
    go_ret
    exact ⟨rfl, rfl⟩
  rw [if_neg c2] at hd
  by_cases c3 : c = 110
  · subst c3
    obtain rfl : 10 = d := hd
    go_enter Tryz.func43, Tryz.ntmps43
    go_wp2
    go_ret
    exact ⟨rfl, rfl⟩
  rw [if_neg c3] at hd
  by_cases c4 : c = 114
  · subst c4
    obtain rfl : 13 = d := hd
    go_enter Tryz.func43, Tryz.ntmps43
    go_wp2
    go_ret
    exact ⟨rfl, rfl⟩
  rw [if_neg c4] at hd
  by_cases c5 : c = 116
  · subst c5
    obtain rfl : 9 = d := hd
    go_enter Tryz.func43, Tryz.ntmps43
    go_wp2
    go_ret
    exact ⟨rfl, rfl⟩
  rw [if_neg c5] at hd
  subst hd
  go_enter Tryz.func43, Tryz.ntmps43
  go_wp2
  go_ret
  exact ⟨rfl, rfl⟩
/-- What k hexadecimal digits from b on write. -/
def hexP (s : ByteArray) (b : Nat) : Nat → Int
  | 0 => 0
  | j + 1 => hexP s b j * 16 + hexV (bt s (b + j : Nat))
theorem hexP_le {s : ByteArray} {b j : Nat} (hj : j ≤ 4) (h : ∀ m : Nat, m < j → isHex (bt s (b + m : Nat)) = true) : 0 ≤ hexP s b j ∧ hexP s b j ≤ 65535 ∧ (j < 4 → hexP s b j ≤ 4095) := by
  have hv : ∀ m : Nat, m < j → 0 ≤ hexV (bt s (b + m : Nat)) ∧ hexV (bt s (b + m : Nat)) ≤ 15 := fun m hm => hexV_le (h m hm)
  rcases (by omega : j = 0 ∨ j = 1 ∨ j = 2 ∨ j = 3 ∨ j = 4) with rfl | rfl | rfl | rfl | rfl
  · simp [hexP]
  · have h0 := hv 0 (by omega)
    simp only [hexP]; omega
  · have h0 := hv 0 (by omega)
    have h1 := hv 1 (by omega)
    simp only [hexP]; omega
  · have h0 := hv 0 (by omega)
    have h1 := hv 1 (by omega)
    have h2 := hv 2 (by omega)
    simp only [hexP]; omega
  · have h0 := hv 0 (by omega)
    have h1 := hv 1 (by omega)
    have h2 := hv 2 (by omega)
    have h3 := hv 3 (by omega)
    simp only [hexP]; omega
theorem hexP_four (s : ByteArray) (b : Nat) : hexP s b 4 = hexQ s b := by
  show (((0 * 16 + hexV (bt s (b + 0 : Nat))) * 16 + hexV (bt s (b + 1 : Nat))) * 16 + hexV (bt s (b + 2 : Nat))) * 16 + hexV (bt s (b + 3 : Nat)) = _
  unfold hexQ
  rw [Nat.add_zero]
  omega
theorem hex4_all {s : ByteArray} {b : Nat} (h : hex4 s b = true) : ∀ m : Nat, m < 4 → isHex (bt s (b + m : Nat)) = true := by
  unfold hex4 at h
  simp only [Bool.and_eq_true] at h
  intro m hm
  rcases (by omega : m = 0 ∨ m = 1 ∨ m = 2 ∨ m = 3) with rfl | rfl | rfl | rfl
  · exact h.1.1.1
  · exact h.1.1.2
  · exact h.1.2
  · exact h.2
theorem hex4_mk {s : ByteArray} {b : Nat} (h : ∀ m : Nat, m < 4 → isHex (bt s (b + m : Nat)) = true) : hex4 s b = true := by
  unfold hex4
  have h0 := h 0 (by omega)
  rw [Nat.add_zero] at h0
  rw [h0, h 1 (by omega), h 2 (by omega), h 3 (by omega)]
  rfl
set_option maxRecDepth 100000 in
set_option maxHeartbeats 4000000 in
theorem unitYes (s : ByteArray) (i : Nat) (n : Int) (w : World) (hs : s.size ≤ 2147483648) (hu : unitB s i = some n) :
    Calls Tryz.prog 42 #[.string s, .int .i64 (i : Int)] w fun e w' => e = .returned (.tuple #[.int .i64 n, .bool true]) ∧ w = w' := by
  obtain ⟨h92, h117, hh, hn, n0, n1, h6⟩ := unit_some hu
  have hx := hex4_all hh
  have x0 : ∀ h : i < s.size, ((s[i]'h).toNat : Int) = bt s i := bt_at s i
  have x1 : ∀ h : i + 1 < s.size, ((s[i + 1]'h).toNat : Int) = bt s (i + 1 : Nat) := bt_at s (i + 1)
  rw [h92] at x0
  rw [h117] at x1
  have HX := Lib.hid hx
  have HN := Lib.hid hn
  have hlen : ¬ ((s.size : Int) - i < 6) := by omega
  clear h92 h117 hh hn hx hu
  go_enter Tryz.func42, Tryz.ntmps42
  go_wp2
  go_loopg [6, 7] 4 (fun d v6 v7 wx => ∃ (j : Nat) (y : Int), v6 = .int .i64 y ∧ v7 = .int .i64 ((i + 2 + j : Nat) : Int) ∧ j ≤ 4 ∧ 4 - j ≤ d ∧ hexP s (i + 2) j = y ∧ w = wx)
  case atStart => exact ⟨0, 0, rfl, by go_num, by omega, by omega, rfl, rfl⟩
  case round =>
    obtain ⟨j, y, rfl, rfl, hj, hd, hy, rfl⟩ := hrel
    have HD := Lib.hid hd
    have hb := hexP_le (s := s) (b := i + 2) hj (fun m hm => HX.out m (by omega))
    rw [hy] at hb
    obtain ⟨y0, y1, y2⟩ := hb
    have HY := Lib.hid hy
    clear hd hy
    by_cases hlt : j < 4
    · have y3 := y2 hlt
      have x2 : ∀ h : i + 2 + j < s.size, ((s[i + 2 + j]'h).toNat : Int) = bt s (i + 2 + j : Nat) := bt_at s (i + 2 + j)
      have hr := bt_range s ((i + 2 + j : Nat) : Int)
      have hh := HX.out j hlt
      obtain ⟨c, hc⟩ : ∃ c, bt s ((i + 2 + j : Nat) : Int) = c := ⟨_, rfl⟩
      rw [hc] at x2 hr hh
      have hv := hexV_le hh
      obtain ⟨v, hv2⟩ : ∃ v, hexV c = v := ⟨_, rfl⟩
      rw [hv2] at hv
      have HH := Lib.hid hh
      have HC := Lib.hid hc
      have HV := Lib.hid hv2
      have hi2 : i + 2 + j < s.size := by omega
      obtain ⟨v0, v1⟩ := hv
      obtain ⟨r0, r1⟩ := hr
      clear hh hc hv2 y2
      go_wp2_with (first
        | (go_at_call 63; refine (hex_of c r0 r1 HH.out _).mono ?_; rw [HV.out]; rintro e w' ⟨rfl, rfl⟩))
      go_roundg (4 - (j + 1))
      case measure => have := HD.out; omega
      case rel => exact ⟨j + 1, y * 16 + v, rfl, by go_num, by omega, by omega, by rw [show hexP s (i + 2) (j + 1) = hexP s (i + 2) j * 16 + hexV (bt s (i + 2 + j : Nat)) from rfl, HY.out, HC.out, HV.out], rfl⟩
    · obtain rfl : j = 4 := by omega
      have HYN := Lib.hid (show y = n by rw [← HY.out, hexP_four, HN.out])
      go_wp2
      go_ret2
      exact ⟨by rw [HYN.out]; rfl, rfl⟩
set_option maxRecDepth 100000 in
set_option maxHeartbeats 4000000 in
theorem unitNo (s : ByteArray) (i : Nat) (w : World) (hs : s.size ≤ 2147483648) (hi : i ≤ s.size) (hu : unitB s i = none) :
    Calls Tryz.prog 42 #[.string s, .int .i64 (i : Int)] w fun e w' => e = .returned (.tuple #[.int .i64 0, .bool false]) ∧ w = w' := by
  by_cases hlen : (s.size : Int) - i < 6
  · go_enter Tryz.func42, Tryz.ntmps42
    go_wp2
    go_ret2
    exact ⟨rfl, rfl⟩
  have x0 : ∀ h : i < s.size, ((s[i]'h).toNat : Int) = bt s i := bt_at s i
  have x1 : ∀ h : i + 1 < s.size, ((s[i + 1]'h).toNat : Int) = bt s (i + 1 : Nat) := bt_at s (i + 1)
  have hr0 := bt_range s i
  have hr1 := bt_range s ((i + 1 : Nat) : Int)
  obtain ⟨c0, hc0⟩ : ∃ c, bt s (i : Nat) = c := ⟨_, rfl⟩
  obtain ⟨c1, hc1⟩ : ∃ c, bt s ((i + 1 : Nat) : Int) = c := ⟨_, rfl⟩
  rw [hc0] at x0 hr0
  rw [hc1] at x1 hr1
  unfold unitB at hu
  rw [hc0, hc1] at hu
  clear hc0 hc1
  by_cases h92 : c0 = 92
  case neg =>
    clear hu
    go_enter Tryz.func42, Tryz.ntmps42
    go_wp2
    go_ret2
    exact ⟨rfl, rfl⟩
  by_cases h117 : c1 = 117
  case neg =>
    clear hu
    go_enter Tryz.func42, Tryz.ntmps42
    go_wp2
    go_ret2
    exact ⟨rfl, rfl⟩
  have hno : ¬ hex4 s (i + 2) = true := fun e => by rw [if_pos ⟨h92, h117, e⟩] at hu; cases hu
  subst h92 h117
  have HNO := Lib.hid hno
  clear hu hno
  go_enter Tryz.func42, Tryz.ntmps42
  go_wp2
  go_loopg [6, 7] 4 (fun d v6 v7 wx => ∃ (j : Nat) (y : Int), v6 = .int .i64 y ∧ v7 = .int .i64 ((i + 2 + j : Nat) : Int) ∧ j ≤ 4 ∧ 4 - j ≤ d ∧ hexP s (i + 2) j = y ∧ (∀ m : Nat, m < j → isHex (bt s (i + 2 + m : Nat)) = true) ∧ w = wx)
  case atStart => exact ⟨0, 0, rfl, by go_num, by omega, by omega, rfl, (fun m hm => absurd hm (by omega)), rfl⟩
  case round =>
    obtain ⟨j, y, rfl, rfl, hj, hd, hy, hall, rfl⟩ := hrel
    have HD := Lib.hid hd
    have hb := hexP_le (s := s) (b := i + 2) hj hall
    rw [hy] at hb
    obtain ⟨y0, y1, y2⟩ := hb
    have HY := Lib.hid hy
    have HA := Lib.hid hall
    clear hd hy hall
    by_cases hlt : j < 4
    · have y3 := y2 hlt
      have x2 : ∀ h : i + 2 + j < s.size, ((s[i + 2 + j]'h).toNat : Int) = bt s (i + 2 + j : Nat) := bt_at s (i + 2 + j)
      have hr := bt_range s ((i + 2 + j : Nat) : Int)
      obtain ⟨c, hc⟩ : ∃ c, bt s ((i + 2 + j : Nat) : Int) = c := ⟨_, rfl⟩
      rw [hc] at x2 hr
      have HC := Lib.hid hc
      have hi2 : i + 2 + j < s.size := by omega
      obtain ⟨r0, r1⟩ := hr
      clear hc y2
      cases hh : isHex c with
      | true =>
        have hv := hexV_le hh
        obtain ⟨v, hv2⟩ : ∃ v, hexV c = v := ⟨_, rfl⟩
        rw [hv2] at hv
        have HV := Lib.hid hv2
        have HH := Lib.hid hh
        obtain ⟨v0, v1⟩ := hv
        clear hv2 hh
        go_wp2_with (first
          | (go_at_call 63; refine (hex_of c r0 r1 HH.out _).mono ?_; rw [HV.out]; rintro e w' ⟨rfl, rfl⟩))
        go_roundg (4 - (j + 1))
        case measure => have := HD.out; omega
        case rel => exact ⟨j + 1, y * 16 + v, rfl, by go_num, by omega, by omega, by rw [show hexP s (i + 2) (j + 1) = hexP s (i + 2) j * 16 + hexV (bt s (i + 2 + j : Nat)) from rfl, HY.out, HC.out, HV.out], (fun m hm => by
          by_cases e : m = j
          · rw [e, HC.out]; exact HH.out
          · exact HA.out m (by omega)), rfl⟩
      | false =>
        have HH := Lib.hid hh
        clear hh
        go_wp2_with (first
          | (go_at_call 63; refine (hex_of c r0 r1 HH.out _).mono ?_; rintro e w' ⟨rfl, rfl⟩))
        go_ret2
        exact ⟨rfl, rfl⟩
    · obtain rfl : j = 4 := by omega
      exact absurd (hex4_mk HA.out) HNO.out
/-- What appendUTF8 gives: the slice, grown. -/
def AppPost (base : Nat) (w0 : World) (x : ByteArray) (e : Ending) (w' : World) : Prop := ∃ v', e = .returned v' ∧ Own w' base v' x ∧ Below base w0 w' ∧ base ≤ w'.heap.size
theorem utfB_len (c : Int) : (utfB c).length ≤ 4 := by
  unfold utfB; repeat' split
  all_goals simp
theorem appFin {base : Nat} {w0 wa w' : World} {v v' : Value} {x : ByteArray} {o : Obj} (hO : Own w' base v' x) (hg : (wa.alloc o).grownBy w' v.ownBlock) (hB : Below base w0 wa) (hb : base ≤ wa.heap.size) (hv : ∀ j, v.ownBlock = some j → base ≤ j) :
    AppPost base w0 x (.returned v') w' := ⟨v', rfl, hO, (hB.alloc hb o).grown hg (by simp; omega) hv, by have := hg.size; simp at this; omega⟩
set_option maxRecDepth 100000 in
set_option maxHeartbeats 4000000 in
theorem app1 (base : Nat) (v : Value) (x : ByteArray) (c : Int) (w0 w : World) (h0 : 0 ≤ c) (h1 : c ≤ 1114111) (hc : c < 128) (hx : x.size ≤ 100000000000) (hO : Own w base v x) (hB : Below base w0 w) (hb : base ≤ w.heap.size) :
    Calls Tryz.prog 46 #[v, .int .i64 c] w (AppPost base w0 (x ++ strOfNums (utfB c))) := by
  have hu : utfB c = [c] := by unfold utfB; rw [if_pos hc]
  obtain ⟨r, hr⟩ : ∃ r, x ++ strOfNums (utfB c) = r := ⟨_, rfl⟩
  have HR := Lib.hid (show x ++ strOfNums [c] = r by rw [← hu]; exact hr)
  have HO := Lib.hid hO
  have HB := Lib.hid hB
  rw [hr]
  clear hu hr hO hB
  go_enter Tryz.func46, Tryz.ntmps46
  go_wp2_with (first
    | (at_builtin; go_must (refine app_rd _ rfl (.tmp 8) (.tmp 11) rfl base _ x (strOfNums [c]) _ 1 1 rfl rfl (by rw [strOfNums_size]; rfl) (HO.out.alloc _) (rd_lit _ 5 [c] (by simp; try omega)) (by rw [strOfNums_size]; simp; omega) (by simp; omega) ?_); intro v' w' hO' hg' hat'; rw [HR.out] at hO'))
  go_ret
  exact appFin hO' hg' HB.out hb (fun j hj => (HO.out.block j hj).1)
set_option maxRecDepth 100000 in
set_option maxHeartbeats 4000000 in
theorem app2 (base : Nat) (v : Value) (x : ByteArray) (c : Int) (w0 w : World) (h0 : 0 ≤ c) (h1 : c ≤ 1114111) (hc1 : ¬ c < 128) (hc : c < 2048) (hx : x.size ≤ 100000000000) (hO : Own w base v x) (hB : Below base w0 w) (hb : base ≤ w.heap.size) :
    Calls Tryz.prog 46 #[v, .int .i64 c] w (AppPost base w0 (x ++ strOfNums (utfB c))) := by
  have hu : utfB c = [192 + c / 64, 128 + c % 64] := by unfold utfB; rw [if_neg hc1, if_pos hc]
  obtain ⟨r, hr⟩ : ∃ r, x ++ strOfNums (utfB c) = r := ⟨_, rfl⟩
  have HR := Lib.hid (show x ++ strOfNums [192 + c / 64, 128 + c % 64] = r by rw [← hu]; exact hr)
  have HO := Lib.hid hO
  have HB := Lib.hid hB
  rw [hr]
  clear hu hr hO hB
  go_enter Tryz.func46, Tryz.ntmps46
  go_wp2_with (first
    | (at_builtin; go_must (refine app_rd _ rfl (.tmp 16) (.tmp 25) rfl base _ x (strOfNums [192 + c / 64, 128 + c % 64]) _ 2 2 rfl rfl (by rw [strOfNums_size]; rfl) (HO.out.alloc _) (rd_lit _ 5 [192 + c / 64, 128 + c % 64] (by simp; try omega)) (by rw [strOfNums_size]; simp; omega) (by simp; omega) ?_); intro v' w' hO' hg' hat'; rw [HR.out] at hO'))
  go_ret
  exact appFin hO' hg' HB.out hb (fun j hj => (HO.out.block j hj).1)
set_option maxRecDepth 100000 in
set_option maxHeartbeats 4000000 in
theorem app3h (base : Nat) (v : Value) (x : ByteArray) (c : Int) (w0 w : World) (h0 : 0 ≤ c) (h1 : c ≤ 1114111) (hc1 : ¬ c < 128) (hc : ¬ c < 2048) (hhi : highI c = true) (hx : x.size ≤ 100000000000) (hO : Own w base v x) (hB : Below base w0 w) (hb : base ≤ w.heap.size) :
    Calls Tryz.prog 46 #[v, .int .i64 c] w (AppPost base w0 (x ++ strOfNums (utfB c))) := by
  have hu : utfB c = [239, 191, 189] := by unfold utfB; rw [if_neg hc1, if_neg hc, hhi]; rfl
  obtain ⟨r, hr⟩ : ∃ r, x ++ strOfNums (utfB c) = r := ⟨_, rfl⟩
  have HR := Lib.hid (show x ++ strOfNums [239, 191, 189] = r by rw [← hu]; exact hr)
  have HO := Lib.hid hO
  have HB := Lib.hid hB
  rw [hr]
  clear hu hr hO hB
  go_enter Tryz.func46, Tryz.ntmps46
  go_wp2_with (first
    | (go_at_call 44; refine (highW c _ hhi _).mono ?_; rintro e w' ⟨rfl, rfl⟩)
    | (at_builtin; go_must (refine app_rd _ rfl (.tmp 34) (.tmp 35) rfl base _ x (strOfNums [239, 191, 189]) _ 3 3 rfl rfl (by rw [strOfNums_size]; rfl) (HO.out.alloc _) (rd_lit _ 5 [239, 191, 189] (by simp; try omega)) (by rw [strOfNums_size]; simp; omega) (by simp; omega) ?_); intro v' w' hO' hg' hat'; rw [HR.out] at hO'))
  go_ret
  exact appFin hO' hg' HB.out hb (fun j hj => (HO.out.block j hj).1)
set_option maxRecDepth 100000 in
set_option maxHeartbeats 4000000 in
theorem app3l (base : Nat) (v : Value) (x : ByteArray) (c : Int) (w0 w : World) (h0 : 0 ≤ c) (h1 : c ≤ 1114111) (hc1 : ¬ c < 128) (hc : ¬ c < 2048) (hhi : highI c = false) (hlo : lowI c = true) (hx : x.size ≤ 100000000000) (hO : Own w base v x) (hB : Below base w0 w) (hb : base ≤ w.heap.size) :
    Calls Tryz.prog 46 #[v, .int .i64 c] w (AppPost base w0 (x ++ strOfNums (utfB c))) := by
  have hu : utfB c = [239, 191, 189] := by unfold utfB; rw [if_neg hc1, if_neg hc, hhi, hlo]; rfl
  obtain ⟨r, hr⟩ : ∃ r, x ++ strOfNums (utfB c) = r := ⟨_, rfl⟩
  have HR := Lib.hid (show x ++ strOfNums [239, 191, 189] = r by rw [← hu]; exact hr)
  have HO := Lib.hid hO
  have HB := Lib.hid hB
  rw [hr]
  clear hu hr hO hB
  go_enter Tryz.func46, Tryz.ntmps46
  go_wp2_with (first
    | (go_at_call 44; refine (highW c _ hhi _).mono ?_; rintro e w' ⟨rfl, rfl⟩)
    | (go_at_call 45; refine (lowW c _ hlo _).mono ?_; rintro e w' ⟨rfl, rfl⟩)
    | (at_builtin; go_must (refine app_rd _ rfl (.tmp 34) (.tmp 35) rfl base _ x (strOfNums [239, 191, 189]) _ 3 3 rfl rfl (by rw [strOfNums_size]; rfl) (HO.out.alloc _) (rd_lit _ 5 [239, 191, 189] (by simp; try omega)) (by rw [strOfNums_size]; simp; omega) (by simp; omega) ?_); intro v' w' hO' hg' hat'; rw [HR.out] at hO'))
  go_ret
  exact appFin hO' hg' HB.out hb (fun j hj => (HO.out.block j hj).1)
set_option maxRecDepth 100000 in
set_option maxHeartbeats 4000000 in
theorem app4 (base : Nat) (v : Value) (x : ByteArray) (c : Int) (w0 w : World) (h0 : 0 ≤ c) (h1 : c ≤ 1114111) (hc1 : ¬ c < 128) (hc : ¬ c < 2048) (hhi : highI c = false) (hlo : lowI c = false) (hc2 : c < 65536) (hx : x.size ≤ 100000000000) (hO : Own w base v x) (hB : Below base w0 w) (hb : base ≤ w.heap.size) :
    Calls Tryz.prog 46 #[v, .int .i64 c] w (AppPost base w0 (x ++ strOfNums (utfB c))) := by
  have hu : utfB c = [224 + c / 4096, 128 + c / 64 % 64, 128 + c % 64] := by unfold utfB; rw [if_neg hc1, if_neg hc, hhi, hlo, if_neg (by decide), if_pos hc2]
  obtain ⟨r, hr⟩ : ∃ r, x ++ strOfNums (utfB c) = r := ⟨_, rfl⟩
  have HR := Lib.hid (show x ++ strOfNums [224 + c / 4096, 128 + c / 64 % 64, 128 + c % 64] = r by rw [← hu]; exact hr)
  have HO := Lib.hid hO
  have HB := Lib.hid hB
  rw [hr]
  clear hu hr hO hB
  go_enter Tryz.func46, Tryz.ntmps46
  go_wp2_with (first
    | (go_at_call 44; refine (highW c _ hhi _).mono ?_; rintro e w' ⟨rfl, rfl⟩)
    | (go_at_call 45; refine (lowW c _ hlo _).mono ?_; rintro e w' ⟨rfl, rfl⟩)
    | (at_builtin; go_must (refine app_rd _ rfl (.tmp 40) (.tmp 54) rfl base _ x (strOfNums [224 + c / 4096, 128 + c / 64 % 64, 128 + c % 64]) _ 3 3 rfl rfl (by rw [strOfNums_size]; rfl) (HO.out.alloc _) (rd_lit _ 5 [224 + c / 4096, 128 + c / 64 % 64, 128 + c % 64] (by simp; try omega)) (by rw [strOfNums_size]; simp; omega) (by simp; omega) ?_); intro v' w' hO' hg' hat'; rw [HR.out] at hO'))
  go_ret
  exact appFin hO' hg' HB.out hb (fun j hj => (HO.out.block j hj).1)
set_option maxRecDepth 100000 in
set_option maxHeartbeats 4000000 in
theorem app5 (base : Nat) (v : Value) (x : ByteArray) (c : Int) (w0 w : World) (h0 : 0 ≤ c) (h1 : c ≤ 1114111) (hc1 : ¬ c < 128) (hc : ¬ c < 2048) (hhi : highI c = false) (hlo : lowI c = false) (hc2 : ¬ c < 65536) (hx : x.size ≤ 100000000000) (hO : Own w base v x) (hB : Below base w0 w) (hb : base ≤ w.heap.size) :
    Calls Tryz.prog 46 #[v, .int .i64 c] w (AppPost base w0 (x ++ strOfNums (utfB c))) := by
  have hu : utfB c = [240 + c / 262144, 128 + c / 4096 % 64, 128 + c / 64 % 64, 128 + c % 64] := by unfold utfB; rw [if_neg hc1, if_neg hc, hhi, hlo, if_neg (by decide), if_neg hc2]
  obtain ⟨r, hr⟩ : ∃ r, x ++ strOfNums (utfB c) = r := ⟨_, rfl⟩
  have HR := Lib.hid (show x ++ strOfNums [240 + c / 262144, 128 + c / 4096 % 64, 128 + c / 64 % 64, 128 + c % 64] = r by rw [← hu]; exact hr)
  have HO := Lib.hid hO
  have HB := Lib.hid hB
  rw [hr]
  clear hu hr hO hB
  go_enter Tryz.func46, Tryz.ntmps46
  go_wp2_with (first
    | (go_at_call 44; refine (highW c _ hhi _).mono ?_; rintro e w' ⟨rfl, rfl⟩)
    | (go_at_call 45; refine (lowW c _ hlo _).mono ?_; rintro e w' ⟨rfl, rfl⟩)
    | (at_builtin; go_must (refine app_rd _ rfl (.tmp 56) (.tmp 75) rfl base _ x (strOfNums [240 + c / 262144, 128 + c / 4096 % 64, 128 + c / 64 % 64, 128 + c % 64]) _ 4 4 rfl rfl (by rw [strOfNums_size]; rfl) (HO.out.alloc _) (rd_lit _ 5 [240 + c / 262144, 128 + c / 4096 % 64, 128 + c / 64 % 64, 128 + c % 64] (by simp; try omega)) (by rw [strOfNums_size]; simp; omega) (by simp; omega) ?_); intro v' w' hO' hg' hat'; rw [HR.out] at hO'))
  go_ret
  exact appFin hO' hg' HB.out hb (fun j hj => (HO.out.block j hj).1)
theorem appW (base : Nat) (v : Value) (x : ByteArray) (c : Int) (w0 w : World) (h0 : 0 ≤ c) (h1 : c ≤ 1114111) (hx : x.size ≤ 100000000000) (hO : Own w base v x) (hB : Below base w0 w) (hb : base ≤ w.heap.size) :
    Calls Tryz.prog 46 #[v, .int .i64 c] w (AppPost base w0 (x ++ strOfNums (utfB c))) := by
  by_cases hc1 : c < 128
  · exact app1 base v x c w0 w h0 h1 hc1 hx hO hB hb
  by_cases hc : c < 2048
  · exact app2 base v x c w0 w h0 h1 hc1 hc hx hO hB hb
  cases hhi : highI c with
  | true => exact app3h base v x c w0 w h0 h1 hc1 hc hhi hx hO hB hb
  | false =>
    cases hlo : lowI c with
    | true => exact app3l base v x c w0 w h0 h1 hc1 hc hhi hlo hx hO hB hb
    | false =>
      by_cases hc2 : c < 65536
      · exact app4 base v x c w0 w h0 h1 hc1 hc hhi hlo hc2 hx hO hB hb
      · exact app5 base v x c w0 w h0 h1 hc1 hc hhi hlo hc2 hx hO hB hb
end Go.Proofs.YtkdkdhcjpgmjdaaGreatDoor.L
