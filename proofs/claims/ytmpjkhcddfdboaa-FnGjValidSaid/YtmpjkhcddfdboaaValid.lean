/- The walks of gjson's Valid: they read bytes and change nothing. -/
import Derived.Test.YtmpjkhcddfdboaaProg
import Derived.Test.YtmpjkhcddfdboaaJson2
import Derived.Deep.QuietTactic
import Derived.BigQuiet
import Derived.Outline
import Derived.Deep.LoopGhost
import Derived.Deep.DeepMust
import Derived.Deep.RegionHeld3
import Derived.Deep.DeepCutAuto
import Derived.Deep.CutBlock
namespace Go.Proofs.Ytmpjkhcddfdboaa.L
open Go.RowKit
set_option linter.unusedVariables false
set_option linter.unusedSimpArgs false

/-- What a reader of bytes answers: where it ends, whether there is one. -/
def VPost (r : Option Nat) (w : World) (e : Ending) (w' : World) : Prop :=
  w' = w ∧ ∃ j : Int, e = .returned (.tuple #[.int .i64 j, .bool r.isSome]) ∧ ∀ k, r = some k → j = (k : Int)
theorem VPost.yes {r : Option Nat} {w w' : World} {e : Ending} {k : Nat} {j : Int} (hw : w' = w) (hr : r = some k) (he : e = .returned (.tuple #[.int .i64 j, .bool true])) (hj : j = (k : Int)) : VPost r w e w' :=
  ⟨hw, j, by rw [he, hr]; rfl, fun l h => by rw [hr] at h; injection h with h; rw [← h]; exact hj⟩
theorem VPost.no {r : Option Nat} {w w' : World} {e : Ending} {j : Int} (hw : w' = w) (hr : r = none) (he : e = .returned (.tuple #[.int .i64 j, .bool false])) : VPost r w e w' :=
  ⟨hw, j, by rw [he, hr]; rfl, fun l h => by rw [hr] at h; cases h⟩
theorem VPost.some {r : Option Nat} {k : Nat} {w w' : World} {e : Ending} (h : VPost r w e w') (hr : r = some k) : e = .returned (.tuple #[.int .i64 (k : Int), .bool true]) ∧ w' = w := by
  obtain ⟨h1, j, h2, h3⟩ := h
  rw [h3 k hr, hr] at h2
  exact ⟨h2, h1⟩
theorem VPost.none {r : Option Nat} {w w' : World} {e : Ending} (h : VPost r w e w') (hr : r = none) : ∃ j : Int, e = .returned (.tuple #[.int .i64 j, .bool false]) ∧ w' = w := by
  obtain ⟨h1, j, h2, h3⟩ := h
  rw [hr] at h2
  exact ⟨j, h2, h1⟩

/-- The byte slice that is read. -/
structure Sl (w : World) (A : Option Addr) (s : ByteArray) (c : Nat) : Prop where
  rd : Rd w A s
  sz : s.size ≤ 140737488351232

def colonAt (s : ByteArray) (i : Nat) : Option Nat := if bt s (skip isBlank s i) = 58 then some (skip isBlank s i + 1) else none
def commaAt (s : ByteArray) (c : Int) (i : Nat) : Option Nat := if bt s (skip isBlank s i) = 44 ∨ bt s (skip isBlank s i) = c then some (skip isBlank s i) else none
theorem blank_cases {c : Int} (h : isBlank c = true) : c = 32 ∨ c = 9 ∨ c = 10 ∨ c = 13 := by simpa [isBlank, or_assoc] using h
theorem blank_not {c : Int} (h : ¬ isBlank c = true) : ¬ c = 32 ∧ ¬ c = 9 ∧ ¬ c = 10 ∧ ¬ c = 13 := by simpa [isBlank, not_or, and_assoc] using h

set_option maxHeartbeats 2000000 in
theorem colonW (A : Option Addr) (s : ByteArray) (c i0 : Nat) (w : World) (h : Sl w A s c) (hi : i0 ≤ s.size) :
    Calls Try.prog 31 #[.slice A s.size c, .int .i64 (i0 : Int)] w (VPost (colonAt s i0) w) := by
  have hs := h.sz
  have HR := Lib.hid h.rd
  clear h
  go_enter Try.func31, Try.ntmps31
  go_wp2
  go_loopg [1] (s.size - i0) (fun d v1 wr => ∃ i : Nat, v1 = .int .i64 (i : Int) ∧ wr = w ∧ skip isBlank s i = skip isBlank s i0 ∧ i ≤ s.size ∧ d = s.size - i)
  case atStart => exact ⟨i0, rfl, rfl, rfl, hi, rfl⟩
  case round =>
    obtain ⟨i, rfl, rfl, hk, hil, hd⟩ := hrel
    have HK := Lib.hid hk
    have HD := Lib.hid hd
    clear hk hd
    by_cases hlt : i < s.size
    · obtain ⟨ad, rfl, hcell⟩ := HR.out.at_ hlt
      have hr := bt_range s i
      obtain ⟨x, hx⟩ : ∃ x, bt s i = x := ⟨_, rfl⟩
      rw [hx] at hcell hr
      have HX := Lib.hid hx
      clear hx
      by_cases hb : isBlank x = true
      · have HS := Lib.hid (skip_yes (p := isBlank) hlt (by rw [HX.out]; exact hb))
        rcases blank_cases hb with rfl | rfl | rfl | rfl
        all_goals
          go_wp2
          go_roundg (s.size - (i + 1))
          case measure => have := HD.out; omega
          case rel => exact ⟨i + 1, by go_num, rfl, HS.out.symm.trans HK.out, by omega, rfl⟩
      · have HS := Lib.hid (skip_no (p := isBlank) (s := s) (i := i) (by rw [HX.out]; exact fun h => hb h.2))
        obtain ⟨b1, b2, b3, b4⟩ := blank_not hb
        clear hb
        by_cases h58 : x = 58
        · have HE := Lib.hid (show colonAt s i0 = some (i + 1) by unfold colonAt; rw [← HK.out, HS.out, HX.out, if_pos h58])
          subst h58
          go_wp2
          go_ret2
          exact VPost.yes rfl HE.out rfl (by omega)
        · have HE := Lib.hid (show colonAt s i0 = none by unfold colonAt; rw [← HK.out, HS.out, HX.out, if_neg h58])
          go_wp2
          go_ret2
          exact VPost.no rfl HE.out rfl
    · have HE := Lib.hid (show colonAt s i0 = none by unfold colonAt; rw [← HK.out, skip_no (by omega), bt_out s i (by omega), if_neg (by decide)])
      go_wp2
      go_ret2
      exact VPost.no rfl HE.out rfl
set_option maxHeartbeats 2000000 in
theorem commaW (A : Option Addr) (s : ByteArray) (c i0 : Nat) (q : Int) (w : World) (h : Sl w A s c) (hi : i0 ≤ s.size) (hq : q = 93 ∨ q = 125) :
    Calls Try.prog 32 #[.slice A s.size c, .int .i64 (i0 : Int), .int .u8 q] w (VPost (commaAt s q i0) w) := by
  have hs := h.sz
  have HR := Lib.hid h.rd
  clear h
  go_enter Try.func32, Try.ntmps32
  go_wp2
  go_loopg [1] (s.size - i0) (fun d v1 wr => ∃ i : Nat, v1 = .int .i64 (i : Int) ∧ wr = w ∧ skip isBlank s i = skip isBlank s i0 ∧ i ≤ s.size ∧ d = s.size - i)
  case atStart => exact ⟨i0, rfl, rfl, rfl, hi, rfl⟩
  case round =>
    obtain ⟨i, rfl, rfl, hk, hil, hd⟩ := hrel
    have HK := Lib.hid hk
    have HD := Lib.hid hd
    clear hk hd
    by_cases hlt : i < s.size
    · obtain ⟨ad, rfl, hcell⟩ := HR.out.at_ hlt
      have hr := bt_range s i
      obtain ⟨x, hx⟩ : ∃ x, bt s i = x := ⟨_, rfl⟩
      rw [hx] at hcell hr
      have HX := Lib.hid hx
      clear hx
      by_cases hb : isBlank x = true
      · have HS := Lib.hid (skip_yes (p := isBlank) hlt (by rw [HX.out]; exact hb))
        rcases blank_cases hb with rfl | rfl | rfl | rfl
        all_goals
          go_wp2
          go_roundg (s.size - (i + 1))
          case measure => have := HD.out; omega
          case rel => exact ⟨i + 1, by go_num, rfl, HS.out.symm.trans HK.out, by omega, rfl⟩
      · have HS := Lib.hid (skip_no (p := isBlank) (s := s) (i := i) (by rw [HX.out]; exact fun h => hb h.2))
        obtain ⟨b1, b2, b3, b4⟩ := blank_not hb
        clear hb
        by_cases h58 : x = 44
        · have HE := Lib.hid (show commaAt s q i0 = some i by unfold commaAt; rw [← HK.out, HS.out, HX.out, if_pos (.inl h58)])
          subst h58
          go_wp2
          go_ret2
          exact VPost.yes rfl HE.out rfl (by omega)
        · by_cases h59 : x = q
          · have HE := Lib.hid (show commaAt s q i0 = some i by unfold commaAt; rw [← HK.out, HS.out, HX.out, if_pos (.inr h59)])
            subst h59
            clear hq
            go_wp2
            go_ret2
            exact VPost.yes rfl HE.out rfl (by omega)
          have HE := Lib.hid (show commaAt s q i0 = none by unfold commaAt; rw [← HK.out, HS.out, HX.out, if_neg (by omega)])
          clear hq
          go_wp2
          go_ret2
          exact VPost.no rfl HE.out rfl
    · have HE := Lib.hid (show commaAt s q i0 = none by unfold commaAt; rw [← HK.out, skip_no (by omega), bt_out s i (by omega), if_neg (by omega)])
      go_wp2
      go_ret2
      exact VPost.no rfl HE.out rfl

theorem add_succ (a : Addr) (n : Nat) : a.add (n + 1) = ⟨a.block, a.off + (n + 1), none⟩ := by simp [Addr.add]
theorem word_at {s t : ByteArray} {i : Nat} (hfit : i + t.size ≤ s.size) : wordAt s i t = true ↔ ∀ k : Nat, k < t.size → bt s (i + k : Nat) = bt t k := by
  unfold wordAt
  simp only [Bool.and_eq_true, decide_eq_true_eq]
  have hz : (s.extract i (i + t.size)).size = t.size := by rw [size_ext]; omega
  have hb : ∀ k : Nat, k < t.size → bt (s.extract i (i + t.size)) k = bt s (i + k : Nat) := fun k hk => by
    rw [bt_ext s i _ k (by omega) (by rw [hz]; omega)]
    congr 1
  constructor
  · rintro ⟨_, h⟩ k hk
    rw [← hb k hk, h]
  · intro h
    exact ⟨hfit, eq_of_bt hz fun k hk => by rw [hz] at hk; rw [hb k hk, h k hk]⟩
theorem word_iff3 {s : ByteArray} {i : Nat} (hf : bt s i = 116) (hfit : i + 4 ≤ s.size) : wordAt s i trueT = true ↔ (bt s (i + 1 : Nat) = 114 ∧ bt s (i + 2 : Nat) = 117 ∧ bt s (i + 3 : Nat) = 101) := by
  rw [word_at (by show i + 4 ≤ _; exact hfit)]
  constructor
  · intro h
    exact ⟨h 1 (by decide), h 2 (by decide), h 3 (by decide)⟩
  · rintro ⟨h1, h2, h3⟩ k hk
    have hk : k < 4 := hk
    obtain rfl | rfl | rfl | rfl : k = 0 ∨ k = 1 ∨ k = 2 ∨ k = 3 := by omega
    · exact hf
    · exact h1
    · exact h2
    · exact h3
theorem word_iff3n {s : ByteArray} {i : Nat} (hf : bt s i = 110) (hfit : i + 4 ≤ s.size) : wordAt s i nullT = true ↔ (bt s (i + 1 : Nat) = 117 ∧ bt s (i + 2 : Nat) = 108 ∧ bt s (i + 3 : Nat) = 108) := by
  rw [word_at (by show i + 4 ≤ _; exact hfit)]
  constructor
  · intro h
    exact ⟨h 1 (by decide), h 2 (by decide), h 3 (by decide)⟩
  · rintro ⟨h1, h2, h3⟩ k hk
    have hk : k < 4 := hk
    obtain rfl | rfl | rfl | rfl : k = 0 ∨ k = 1 ∨ k = 2 ∨ k = 3 := by omega
    · exact hf
    · exact h1
    · exact h2
    · exact h3
theorem word_iff4 {s : ByteArray} {i : Nat} (hf : bt s i = 102) (hfit : i + 5 ≤ s.size) : wordAt s i falseT = true ↔ (bt s (i + 1 : Nat) = 97 ∧ bt s (i + 2 : Nat) = 108 ∧ bt s (i + 3 : Nat) = 115 ∧ bt s (i + 4 : Nat) = 101) := by
  rw [word_at (by show i + 5 ≤ _; exact hfit)]
  constructor
  · intro h
    exact ⟨h 1 (by decide), h 2 (by decide), h 3 (by decide), h 4 (by decide)⟩
  · rintro ⟨h1, h2, h3, h4⟩ k hk
    have hk : k < 5 := hk
    obtain rfl | rfl | rfl | rfl | rfl : k = 0 ∨ k = 1 ∨ k = 2 ∨ k = 3 ∨ k = 4 := by omega
    · exact hf
    · exact h1
    · exact h2
    · exact h3
    · exact h4

theorem trueW (A : Option Addr) (s : ByteArray) (c i : Nat) (w : World) (h : Sl w A s c) (hi : i < s.size) (hf : bt s i = 116) :
    Calls Try.prog 28 #[.slice A s.size c, .int .i64 ((i : Int) + 1)] w (VPost (if wordAt s i trueT = true then some (i + 4) else none) w) := by
  have hs := h.sz
  by_cases hfit : i + 4 ≤ s.size
  · have hle : decide ((i : Int) + 1 + 3 ≤ (s.size : Int)) = true := by simp; omega
    obtain ⟨ad0, ha0, hc0⟩ := h.rd.at_ (show i + 1 < s.size by omega)
    obtain ⟨ad1, ha1, hc1⟩ := h.rd.at_ (show i + 2 < s.size by omega)
    obtain ⟨ad2, ha2, hc2⟩ := h.rd.at_ (show i + 3 < s.size by omega)
    subst ha0
    injection ha1 with ha1; subst ha1
    injection ha2 with ha2; subst ha2
    have hr0 := bt_range s (i + 1 : Nat)
    have hr1 := bt_range s (i + 2 : Nat)
    have hr2 := bt_range s (i + 3 : Nat)
    have hw : wordAt s i trueT = true ↔ (bt s (i + 1 : Nat) = 114 ∧ bt s (i + 2 : Nat) = 117 ∧ bt s (i + 3 : Nat) = 101) := word_iff3 hf hfit
    have HW := Lib.hid hw
    clear hw h
    obtain ⟨x0, hx0⟩ : ∃ x, bt s (i + 1 : Nat) = x := ⟨_, rfl⟩
    obtain ⟨x1, hx1⟩ : ∃ x, bt s (i + 2 : Nat) = x := ⟨_, rfl⟩
    obtain ⟨x2, hx2⟩ : ∃ x, bt s (i + 3 : Nat) = x := ⟨_, rfl⟩
    rw [hx0, hx1, hx2] at HW
    rw [hx0] at hc0 hr0
    rw [add_succ] at hc0
    rw [hx1] at hc1 hr1
    rw [add_succ] at hc1
    rw [hx2] at hc2 hr2
    rw [add_succ] at hc2
    clear hx0 hx1 hx2 hf
    by_cases b0 : x0 = 114
    · subst b0
      by_cases b1 : x1 = 117
      · subst b1
        by_cases b2 : x2 = 101
        · subst b2
          rw [if_pos (HW.out.2 (by simp))]
          clear HW
          go_enter Try.func28, Try.ntmps28
          go_wp2
          go_ret2
          exact VPost.yes rfl rfl rfl (by omega)
        · rw [if_neg (fun h' => b2 (HW.out.1 h').2.2)]
          clear HW
          go_enter Try.func28, Try.ntmps28
          go_wp2
          go_ret2
          exact VPost.no rfl rfl rfl
      · rw [if_neg (fun h' => b1 (HW.out.1 h').2.1)]
        clear HW
        go_enter Try.func28, Try.ntmps28
        go_wp2
        go_ret2
        exact VPost.no rfl rfl rfl
    · rw [if_neg (fun h' => b0 (HW.out.1 h').1)]
      clear HW
      go_enter Try.func28, Try.ntmps28
      go_wp2
      go_ret2
      exact VPost.no rfl rfl rfl
  · have hle : decide ((i : Int) + 1 + 3 ≤ (s.size : Int)) = false := by simp; omega
    have hz : trueT.size = 4 := rfl
    rw [if_neg (fun h' => by unfold wordAt at h'; simp only [Bool.and_eq_true, decide_eq_true_eq] at h'; omega)]
    clear h hz hf
    go_enter Try.func28, Try.ntmps28
    go_wp2
    go_ret2
    exact VPost.no rfl rfl rfl

theorem falseW (A : Option Addr) (s : ByteArray) (c i : Nat) (w : World) (h : Sl w A s c) (hi : i < s.size) (hf : bt s i = 102) :
    Calls Try.prog 29 #[.slice A s.size c, .int .i64 ((i : Int) + 1)] w (VPost (if wordAt s i falseT = true then some (i + 5) else none) w) := by
  have hs := h.sz
  by_cases hfit : i + 5 ≤ s.size
  · have hle : decide ((i : Int) + 1 + 4 ≤ (s.size : Int)) = true := by simp; omega
    obtain ⟨ad0, ha0, hc0⟩ := h.rd.at_ (show i + 1 < s.size by omega)
    obtain ⟨ad1, ha1, hc1⟩ := h.rd.at_ (show i + 2 < s.size by omega)
    obtain ⟨ad2, ha2, hc2⟩ := h.rd.at_ (show i + 3 < s.size by omega)
    obtain ⟨ad3, ha3, hc3⟩ := h.rd.at_ (show i + 4 < s.size by omega)
    subst ha0
    injection ha1 with ha1; subst ha1
    injection ha2 with ha2; subst ha2
    injection ha3 with ha3; subst ha3
    have hr0 := bt_range s (i + 1 : Nat)
    have hr1 := bt_range s (i + 2 : Nat)
    have hr2 := bt_range s (i + 3 : Nat)
    have hr3 := bt_range s (i + 4 : Nat)
    have hw : wordAt s i falseT = true ↔ (bt s (i + 1 : Nat) = 97 ∧ bt s (i + 2 : Nat) = 108 ∧ bt s (i + 3 : Nat) = 115 ∧ bt s (i + 4 : Nat) = 101) := word_iff4 hf hfit
    have HW := Lib.hid hw
    clear hw h
    obtain ⟨x0, hx0⟩ : ∃ x, bt s (i + 1 : Nat) = x := ⟨_, rfl⟩
    obtain ⟨x1, hx1⟩ : ∃ x, bt s (i + 2 : Nat) = x := ⟨_, rfl⟩
    obtain ⟨x2, hx2⟩ : ∃ x, bt s (i + 3 : Nat) = x := ⟨_, rfl⟩
    obtain ⟨x3, hx3⟩ : ∃ x, bt s (i + 4 : Nat) = x := ⟨_, rfl⟩
    rw [hx0, hx1, hx2, hx3] at HW
    rw [hx0] at hc0 hr0
    rw [add_succ] at hc0
    rw [hx1] at hc1 hr1
    rw [add_succ] at hc1
    rw [hx2] at hc2 hr2
    rw [add_succ] at hc2
    rw [hx3] at hc3 hr3
    rw [add_succ] at hc3
    clear hx0 hx1 hx2 hx3 hf
    by_cases b0 : x0 = 97
    · subst b0
      by_cases b1 : x1 = 108
      · subst b1
        by_cases b2 : x2 = 115
        · subst b2
          by_cases b3 : x3 = 101
          · subst b3
            rw [if_pos (HW.out.2 (by simp))]
            clear HW
            go_enter Try.func29, Try.ntmps29
            go_wp2
            go_ret2
            exact VPost.yes rfl rfl rfl (by omega)
          · rw [if_neg (fun h' => b3 (HW.out.1 h').2.2.2)]
            clear HW
            go_enter Try.func29, Try.ntmps29
            go_wp2
            go_ret2
            exact VPost.no rfl rfl rfl
        · rw [if_neg (fun h' => b2 (HW.out.1 h').2.2.1)]
          clear HW
          go_enter Try.func29, Try.ntmps29
          go_wp2
          go_ret2
          exact VPost.no rfl rfl rfl
      · rw [if_neg (fun h' => b1 (HW.out.1 h').2.1)]
        clear HW
        go_enter Try.func29, Try.ntmps29
        go_wp2
        go_ret2
        exact VPost.no rfl rfl rfl
    · rw [if_neg (fun h' => b0 (HW.out.1 h').1)]
      clear HW
      go_enter Try.func29, Try.ntmps29
      go_wp2
      go_ret2
      exact VPost.no rfl rfl rfl
  · have hle : decide ((i : Int) + 1 + 4 ≤ (s.size : Int)) = false := by simp; omega
    have hz : falseT.size = 5 := rfl
    rw [if_neg (fun h' => by unfold wordAt at h'; simp only [Bool.and_eq_true, decide_eq_true_eq] at h'; omega)]
    clear h hz hf
    go_enter Try.func29, Try.ntmps29
    go_wp2
    go_ret2
    exact VPost.no rfl rfl rfl

theorem nullW (A : Option Addr) (s : ByteArray) (c i : Nat) (w : World) (h : Sl w A s c) (hi : i < s.size) (hf : bt s i = 110) :
    Calls Try.prog 30 #[.slice A s.size c, .int .i64 ((i : Int) + 1)] w (VPost (if wordAt s i nullT = true then some (i + 4) else none) w) := by
  have hs := h.sz
  by_cases hfit : i + 4 ≤ s.size
  · have hle : decide ((i : Int) + 1 + 3 ≤ (s.size : Int)) = true := by simp; omega
    obtain ⟨ad0, ha0, hc0⟩ := h.rd.at_ (show i + 1 < s.size by omega)
    obtain ⟨ad1, ha1, hc1⟩ := h.rd.at_ (show i + 2 < s.size by omega)
    obtain ⟨ad2, ha2, hc2⟩ := h.rd.at_ (show i + 3 < s.size by omega)
    subst ha0
    injection ha1 with ha1; subst ha1
    injection ha2 with ha2; subst ha2
    have hr0 := bt_range s (i + 1 : Nat)
    have hr1 := bt_range s (i + 2 : Nat)
    have hr2 := bt_range s (i + 3 : Nat)
    have hw : wordAt s i nullT = true ↔ (bt s (i + 1 : Nat) = 117 ∧ bt s (i + 2 : Nat) = 108 ∧ bt s (i + 3 : Nat) = 108) := word_iff3n hf hfit
    have HW := Lib.hid hw
    clear hw h
    obtain ⟨x0, hx0⟩ : ∃ x, bt s (i + 1 : Nat) = x := ⟨_, rfl⟩
    obtain ⟨x1, hx1⟩ : ∃ x, bt s (i + 2 : Nat) = x := ⟨_, rfl⟩
    obtain ⟨x2, hx2⟩ : ∃ x, bt s (i + 3 : Nat) = x := ⟨_, rfl⟩
    rw [hx0, hx1, hx2] at HW
    rw [hx0] at hc0 hr0
    rw [add_succ] at hc0
    rw [hx1] at hc1 hr1
    rw [add_succ] at hc1
    rw [hx2] at hc2 hr2
    rw [add_succ] at hc2
    clear hx0 hx1 hx2 hf
    by_cases b0 : x0 = 117
    · subst b0
      by_cases b1 : x1 = 108
      · subst b1
        by_cases b2 : x2 = 108
        · subst b2
          rw [if_pos (HW.out.2 (by simp))]
          clear HW
          go_enter Try.func30, Try.ntmps30
          go_wp2
          go_ret2
          exact VPost.yes rfl rfl rfl (by omega)
        · rw [if_neg (fun h' => b2 (HW.out.1 h').2.2)]
          clear HW
          go_enter Try.func30, Try.ntmps30
          go_wp2
          go_ret2
          exact VPost.no rfl rfl rfl
      · rw [if_neg (fun h' => b1 (HW.out.1 h').2.1)]
        clear HW
        go_enter Try.func30, Try.ntmps30
        go_wp2
        go_ret2
        exact VPost.no rfl rfl rfl
    · rw [if_neg (fun h' => b0 (HW.out.1 h').1)]
      clear HW
      go_enter Try.func30, Try.ntmps30
      go_wp2
      go_ret2
      exact VPost.no rfl rfl rfl
  · have hle : decide ((i : Int) + 1 + 3 ≤ (s.size : Int)) = false := by simp; omega
    have hz : nullT.size = 4 := rfl
    rw [if_neg (fun h' => by unfold wordAt at h'; simp only [Bool.and_eq_true, decide_eq_true_eq] at h'; omega)]
    clear h hz hf
    go_enter Try.func30, Try.ntmps30
    go_wp2
    go_ret2
    exact VPost.no rfl rfl rfl
end Go.Proofs.Ytmpjkhcddfdboaa.L
