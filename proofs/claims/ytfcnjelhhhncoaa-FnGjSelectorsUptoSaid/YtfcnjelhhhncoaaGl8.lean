/- The walks of spec.Character and spec.UTF8: that they answer. -/
import Derived.Test.YtfcnjelhhhncoaaProg
import Derived.Test.YtfcnjelhhhncoaaBase
import Derived.WalkKit
import Derived.Outline
import Derived.Deep.LoopGhost
import Derived.Lib.Hide
import Derived.Deep.DeepCutAuto
import Derived.Deep.CutBlock
namespace Go.Proofs.Ytfcnjelhhhncoaa.L
open Go.RowKit
set_option linter.unusedVariables false
set_option linter.unusedSimpArgs false

def hiB (c : Int) : Bool := decide (55296 ≤ c) && decide (c ≤ 56319)
def loB (c : Int) : Bool := decide (56320 ≤ c) && decide (c ≤ 57343)
theorem highA (c : Int) (w : World) : Calls Try.prog 33 #[.int .i64 c] w fun e w' => e = .returned (.bool (hiB c)) ∧ w = w' := by
  unfold hiB
  by_cases h1 : 55296 ≤ c
  · by_cases h2 : c ≤ 56319
    · go_enter Try.func33, Try.ntmps33
      go_wp2
      go_ret
      exact ⟨by simp [h1, h2], rfl⟩
    · go_enter Try.func33, Try.ntmps33
      go_wp2
      go_ret
      exact ⟨by simp [h2], rfl⟩
  · go_enter Try.func33, Try.ntmps33
    go_wp2
    go_ret
    exact ⟨by simp [show ¬ 55296 ≤ c by omega], rfl⟩
theorem lowA (c : Int) (w : World) : Calls Try.prog 34 #[.int .i64 c] w fun e w' => e = .returned (.bool (loB c)) ∧ w = w' := by
  unfold loB
  by_cases h1 : 56320 ≤ c
  · by_cases h2 : c ≤ 57343
    · go_enter Try.func34, Try.ntmps34
      go_wp2
      go_ret
      exact ⟨by simp [h1, h2], rfl⟩
    · go_enter Try.func34, Try.ntmps34
      go_wp2
      go_ret
      exact ⟨by simp [h2], rfl⟩
  · go_enter Try.func34, Try.ntmps34
    go_wp2
    go_ret
    exact ⟨by simp [show ¬ 56320 ≤ c by omega], rfl⟩
/-- A character's answer: how far it goes. -/
def ChPost (w : World) (e : Ending) (w' : World) : Prop := (∃ (c n : Int) (b : Bool), e = .returned (.tuple #[.int .i64 c, .int .i64 n, .bool b]) ∧ 1 ≤ n ∧ n ≤ 4) ∧ w = w'
theorem ChPost.mk {w : World} {e : Ending} (c n : Int) (b : Bool) (he : e = .returned (.tuple #[.int .i64 c, .int .i64 n, .bool b])) (h1 : 1 ≤ n) (h4 : n ≤ 4) : ChPost w e w := ⟨⟨c, n, b, he, h1, h4⟩, rfl⟩
/-- How great a character's number is behind k bytes. -/
def chB (k : Nat) (c : Int) : Prop := 0 ≤ c ∧ ((k = 1 ∧ c < 64) ∨ (k = 2 ∧ c < 4096) ∨ (k = 3 ∧ c < 262144) ∨ (k = 4 ∧ c < 16777216))
theorem chB.step {k : Nat} {c b : Int} (h : chB k c) (hk : k ≤ 3) (h0 : 128 ≤ b) (h1 : b ≤ 191) : chB (k + 1) (c * 64 + b - 128) := by
  unfold chB at h ⊢
  omega
theorem chB.le {k : Nat} {c : Int} (h : chB k c) : 0 ≤ c ∧ c < 16777216 ∧ 1 ≤ k ∧ k ≤ 4 := by unfold chB at h; omega
set_option maxRecDepth 100000 in
set_option maxHeartbeats 4000000 in
theorem char1 (s : ByteArray) (i : Nat) (w : World) (hs : s.size ≤ 2147483648) (hi : i < s.size) (h0 : 194 ≤ bt s i) (h1 : bt s i ≤ 223) : Calls Try.prog 26 #[.string s, .int .i64 (i : Int)] w (ChPost w) := by
  have hx : ∀ h : i < s.size, ((s[i]'h).toNat : Int) = bt s i := bt_at s i
  obtain ⟨c, hc⟩ : ∃ c, bt s (i : Nat) = c := ⟨_, rfl⟩
  rw [hc] at hx h0 h1
  clear hc
  by_cases hm : (s.size : Int) - i ≤ 1
  · go_enter Try.func26, Try.ntmps26
    go_wp2
    go_ret3
    exact ChPost.mk _ _ _ rfl (by decide) (by decide)
  · go_enter Try.func26, Try.ntmps26
    go_wp2
    go_loopg [7, 10] 5 (fun d v7 v10 wx => ∃ (k : Nat) (y : Int), v7 = .int .i64 y ∧ v10 = .int .i64 (k : Int) ∧ k ≤ 1 + 1 ∧ 5 - k ≤ d ∧ chB k y ∧ w = wx)
    case atStart => exact ⟨1, c - 192, rfl, rfl, by omega, by omega, by unfold chB; omega, rfl⟩
    case round =>
      obtain ⟨k, y, rfl, rfl, hk, hd, hy, rfl⟩ := hrel
      have HD := Lib.hid hd
      have HY := Lib.hid hy
      obtain ⟨y0, y1, k0, k1⟩ := hy.le
      clear hd hy
      by_cases hkm : k ≤ 1
      · have hlt : i + k < s.size := by omega
        have hx2 : ∀ h : i + k < s.size, ((s[i + k]'h).toNat : Int) = bt s (i + k : Nat) := bt_at s (i + k)
        have hr := bt_range s ((i + k : Nat) : Int)
        obtain ⟨b, hb⟩ : ∃ b, bt s ((i + k : Nat) : Int) = b := ⟨_, rfl⟩
        rw [hb] at hx2 hr
        clear hb
        by_cases hb0 : b < 128
        · go_wp2
          go_ret3
          exact ChPost.mk _ _ _ rfl (by decide) (by decide)
        · by_cases hb1 : 191 < b
          · go_wp2
            go_ret3
            exact ChPost.mk _ _ _ rfl (by decide) (by decide)
          · have HN := Lib.hid (HY.out.step (b := b) (by omega) (by omega) (by omega))
            go_wp2
            go_roundg (5 - (k + 1))
            case measure => have := HD.out; omega
            case rel => exact ⟨k + 1, y * 64 + b - 128, rfl, by go_num, by omega, by omega, HN.out, rfl⟩
      · go_wp2_with (first
          | (go_at_call 33; refine (highA _ _).mono ?_; rintro e w' ⟨rfl, rfl⟩)
          | (go_at_call 34; refine (lowA _ _).mono ?_; rintro e w' ⟨rfl, rfl⟩))
        all_goals go_ret3
        all_goals exact ChPost.mk _ _ _ rfl (by decide) (by decide)
set_option maxRecDepth 100000 in
set_option maxHeartbeats 4000000 in
theorem char2 (s : ByteArray) (i : Nat) (w : World) (hs : s.size ≤ 2147483648) (hi : i < s.size) (h0 : 224 ≤ bt s i) (h1 : bt s i ≤ 239) : Calls Try.prog 26 #[.string s, .int .i64 (i : Int)] w (ChPost w) := by
  have hx : ∀ h : i < s.size, ((s[i]'h).toNat : Int) = bt s i := bt_at s i
  obtain ⟨c, hc⟩ : ∃ c, bt s (i : Nat) = c := ⟨_, rfl⟩
  rw [hc] at hx h0 h1
  clear hc
  by_cases hm : (s.size : Int) - i ≤ 2
  · go_enter Try.func26, Try.ntmps26
    go_wp2
    go_ret3
    exact ChPost.mk _ _ _ rfl (by decide) (by decide)
  · go_enter Try.func26, Try.ntmps26
    go_wp2
    go_loopg [7, 10] 5 (fun d v7 v10 wx => ∃ (k : Nat) (y : Int), v7 = .int .i64 y ∧ v10 = .int .i64 (k : Int) ∧ k ≤ 2 + 1 ∧ 5 - k ≤ d ∧ chB k y ∧ w = wx)
    case atStart => exact ⟨1, c - 224, rfl, rfl, by omega, by omega, by unfold chB; omega, rfl⟩
    case round =>
      obtain ⟨k, y, rfl, rfl, hk, hd, hy, rfl⟩ := hrel
      have HD := Lib.hid hd
      have HY := Lib.hid hy
      obtain ⟨y0, y1, k0, k1⟩ := hy.le
      clear hd hy
      by_cases hkm : k ≤ 2
      · have hlt : i + k < s.size := by omega
        have hx2 : ∀ h : i + k < s.size, ((s[i + k]'h).toNat : Int) = bt s (i + k : Nat) := bt_at s (i + k)
        have hr := bt_range s ((i + k : Nat) : Int)
        obtain ⟨b, hb⟩ : ∃ b, bt s ((i + k : Nat) : Int) = b := ⟨_, rfl⟩
        rw [hb] at hx2 hr
        clear hb
        by_cases hb0 : b < 128
        · go_wp2
          go_ret3
          exact ChPost.mk _ _ _ rfl (by decide) (by decide)
        · by_cases hb1 : 191 < b
          · go_wp2
            go_ret3
            exact ChPost.mk _ _ _ rfl (by decide) (by decide)
          · have HN := Lib.hid (HY.out.step (b := b) (by omega) (by omega) (by omega))
            go_wp2
            go_roundg (5 - (k + 1))
            case measure => have := HD.out; omega
            case rel => exact ⟨k + 1, y * 64 + b - 128, rfl, by go_num, by omega, by omega, HN.out, rfl⟩
      · go_wp2_with (first
          | (go_at_call 33; refine (highA _ _).mono ?_; rintro e w' ⟨rfl, rfl⟩)
          | (go_at_call 34; refine (lowA _ _).mono ?_; rintro e w' ⟨rfl, rfl⟩))
        all_goals go_ret3
        all_goals exact ChPost.mk _ _ _ rfl (by decide) (by decide)
set_option maxRecDepth 100000 in
set_option maxHeartbeats 4000000 in
theorem char3 (s : ByteArray) (i : Nat) (w : World) (hs : s.size ≤ 2147483648) (hi : i < s.size) (h0 : 240 ≤ bt s i) (h1 : bt s i ≤ 244) : Calls Try.prog 26 #[.string s, .int .i64 (i : Int)] w (ChPost w) := by
  have hx : ∀ h : i < s.size, ((s[i]'h).toNat : Int) = bt s i := bt_at s i
  obtain ⟨c, hc⟩ : ∃ c, bt s (i : Nat) = c := ⟨_, rfl⟩
  rw [hc] at hx h0 h1
  clear hc
  by_cases hm : (s.size : Int) - i ≤ 3
  · go_enter Try.func26, Try.ntmps26
    go_wp2
    go_ret3
    exact ChPost.mk _ _ _ rfl (by decide) (by decide)
  · go_enter Try.func26, Try.ntmps26
    go_wp2
    go_loopg [7, 10] 5 (fun d v7 v10 wx => ∃ (k : Nat) (y : Int), v7 = .int .i64 y ∧ v10 = .int .i64 (k : Int) ∧ k ≤ 3 + 1 ∧ 5 - k ≤ d ∧ chB k y ∧ w = wx)
    case atStart => exact ⟨1, c - 240, rfl, rfl, by omega, by omega, by unfold chB; omega, rfl⟩
    case round =>
      obtain ⟨k, y, rfl, rfl, hk, hd, hy, rfl⟩ := hrel
      have HD := Lib.hid hd
      have HY := Lib.hid hy
      obtain ⟨y0, y1, k0, k1⟩ := hy.le
      clear hd hy
      by_cases hkm : k ≤ 3
      · have hlt : i + k < s.size := by omega
        have hx2 : ∀ h : i + k < s.size, ((s[i + k]'h).toNat : Int) = bt s (i + k : Nat) := bt_at s (i + k)
        have hr := bt_range s ((i + k : Nat) : Int)
        obtain ⟨b, hb⟩ : ∃ b, bt s ((i + k : Nat) : Int) = b := ⟨_, rfl⟩
        rw [hb] at hx2 hr
        clear hb
        by_cases hb0 : b < 128
        · go_wp2
          go_ret3
          exact ChPost.mk _ _ _ rfl (by decide) (by decide)
        · by_cases hb1 : 191 < b
          · go_wp2
            go_ret3
            exact ChPost.mk _ _ _ rfl (by decide) (by decide)
          · have HN := Lib.hid (HY.out.step (b := b) (by omega) (by omega) (by omega))
            go_wp2
            go_roundg (5 - (k + 1))
            case measure => have := HD.out; omega
            case rel => exact ⟨k + 1, y * 64 + b - 128, rfl, by go_num, by omega, by omega, HN.out, rfl⟩
      · go_wp2_with (first
          | (go_at_call 33; refine (highA _ _).mono ?_; rintro e w' ⟨rfl, rfl⟩)
          | (go_at_call 34; refine (lowA _ _).mono ?_; rintro e w' ⟨rfl, rfl⟩))
        all_goals go_ret3
        all_goals exact ChPost.mk _ _ _ rfl (by decide) (by decide)
set_option maxRecDepth 100000 in
set_option maxHeartbeats 4000000 in
theorem charA (s : ByteArray) (i : Nat) (w : World) (hs : s.size ≤ 2147483648) (hi : i < s.size) : Calls Try.prog 26 #[.string s, .int .i64 (i : Int)] w (ChPost w) := by
  by_cases c1 : 194 ≤ bt s i ∧ bt s i ≤ 223
  · exact char1 s i w hs hi c1.1 c1.2
  by_cases c2 : 224 ≤ bt s i ∧ bt s i ≤ 239
  · exact char2 s i w hs hi c2.1 c2.2
  by_cases c3 : 240 ≤ bt s i ∧ bt s i ≤ 244
  · exact char3 s i w hs hi c3.1 c3.2
  have hx : ∀ h : i < s.size, ((s[i]'h).toNat : Int) = bt s i := bt_at s i
  have hr := bt_range s (i : Nat)
  obtain ⟨c, hc⟩ : ∃ c, bt s (i : Nat) = c := ⟨_, rfl⟩
  rw [hc] at hx c1 c2 c3 hr
  clear hc
  by_cases h128 : c < 128
  · clear c1 c2 c3
    go_enter Try.func26, Try.ntmps26
    go_wp2
    go_ret3
    exact ChPost.mk _ _ _ rfl (by decide) (by decide)
  by_cases h194 : c < 194
  · clear c1 c2 c3
    go_enter Try.func26, Try.ntmps26
    go_wp2
    go_ret3
    exact ChPost.mk _ _ _ rfl (by decide) (by decide)
  · have h245 : 245 ≤ c := by omega
    clear c1 c2 c3
    go_enter Try.func26, Try.ntmps26
    go_wp2
    go_ret3
    exact ChPost.mk _ _ _ rfl (by decide) (by decide)
def AnyBool (w : World) (e : Ending) (w' : World) : Prop := (∃ b : Bool, e = .returned (.bool b)) ∧ w = w'
set_option maxRecDepth 100000 in
set_option maxHeartbeats 4000000 in
theorem utf8A (s : ByteArray) (w : World) (hs : s.size ≤ 2147483648) : Calls Try.prog 16 #[.string s] w (AnyBool w) := by
  go_enter Try.func16, Try.ntmps16
  go_wp2
  go_loopg [3] (s.size + 1) (fun d v3 wx => ∃ i : Nat, v3 = .int .i64 (i : Int) ∧ i ≤ s.size + 4 ∧ s.size - i < d ∧ w = wx)
  case atStart => exact ⟨0, rfl, by omega, by omega, rfl⟩
  case round =>
    obtain ⟨i, rfl, hi, hd, rfl⟩ := hrel
    have HD := Lib.hid hd
    clear hd
    by_cases hlt : i < s.size
    · go_wp2_with (first
        | (go_at_call 26; refine (charA s i _ hs hlt).mono ?_; rintro e w1 ⟨⟨c, n, b, rfl, hn1, hn4⟩, rfl⟩))
      · go_ret
        exact ⟨⟨_, rfl⟩, rfl⟩
      · go_roundg (gk - 1)
        case measure => have := HD.out; omega
        case rel => exact ⟨i + n.toNat, by rw [show ((i + n.toNat : Nat) : Int) = (i : Int) + n by omega], by omega, by have := HD.out; omega, rfl⟩
    · go_wp2
      go_ret
      exact ⟨⟨_, rfl⟩, rfl⟩
end Go.Proofs.Ytfcnjelhhhncoaa.L
