/- FnGjSelectors: the sizes, words, quoted names, paths. -/
import Derived.Test.YtfcnjelhhhncoaaGs0
import Derived.Test.YtfcnjelhhhncoaaGl8
namespace Go.Proofs.Ytfcnjelhhhncoaa.L
open Go.RowKit
set_option linter.unusedVariables false
set_option linter.unusedSimpArgs false

set_option maxRecDepth 100000 in
set_option maxHeartbeats 4000000 in
theorem fits1S (A : Option Addr) (n c : Nat) (ks : List ByteArray) (B : Nat → Prop) (w : World) (hR : Row w B 1 A n c (keysV ks)) (hn1 : n ≤ 1048576) (hk : ∀ k ∈ ks, k.size ≤ 1048576) :
    Calls Try.prog 6 #[.slice A n c] w fun e w' => e = .returned (.bool true) ∧ w = w' := by
  obtain ⟨hn, hnm⟩ := keys_len hR
  have HR := Lib.hid hR
  have HN := Lib.hid hn
  have HK := Lib.hid hk
  clear hR hn hk
  go_enter Try.func6, Try.ntmps6
  go_wp2
  go_loopg [10] n (fun d v10 wx => ∃ k : Nat, v10 = .int .i64 (k : Int) ∧ k ≤ n ∧ n - k ≤ d ∧ w = wx)
  case atStart => exact ⟨0, rfl, by omega, by omega, rfl⟩
  case round =>
    obtain ⟨k, rfl, hk, hd, rfl⟩ := hrel
    have HD := Lib.hid hd
    clear hd
    by_cases hlt : k < n
    · obtain ⟨x, hx⟩ : ∃ x, ks[k]? = some x := ⟨_, List.getElem?_eq_getElem (by rw [← HN.out]; exact hlt)⟩
      obtain ⟨ad, rfl, hlb, hc⟩ := keyAt HR.out hx
      have hxs := HK.out x (List.mem_of_getElem? hx)
      clear hx
      have hxb : decide (2147483647 < (x.size : Int)) = false := by simp; omega
      go_wp2
      go_roundg (gk - 1)
      case measure => have := HD.out; omega
      case rel => exact ⟨k + 1, by go_num, by omega, by have := HD.out; omega, rfl⟩
    · go_wp2
      go_ret
      exact ⟨rfl, rfl⟩
set_option maxRecDepth 100000 in
set_option maxHeartbeats 4000000 in
theorem fits3S (A : Option Addr) (n c : Nat) (ps : List (List ByteArray)) (xs : List Value) (B : Nat → Prop) (w : World) (hR : Row w B 1 A n c xs) (hC : KsO w B ps xs) (hn1 : n ≤ 1048576) (hk : ∀ k ∈ ps, k.length ≤ 1048576 ∧ ∀ x ∈ k, x.size ≤ 1048576) :
    Calls Try.prog 5 #[.slice A n c] w fun e w' => e = .returned (.bool true) ∧ w = w' := by
  have hnx : n = ps.length := by have := hR.1; have := hC.1; omega
  have HR := Lib.hid hR
  have HC := Lib.hid hC
  have HN := Lib.hid hnx
  have HK := Lib.hid hk
  clear hR hC hnx hk
  go_enter Try.func5, Try.ntmps5
  go_wp2
  go_loopg [10] n (fun d v10 wx => ∃ k : Nat, v10 = .int .i64 (k : Int) ∧ k ≤ n ∧ n - k ≤ d ∧ w = wx)
  case atStart => exact ⟨0, rfl, by omega, by omega, rfl⟩
  case round =>
    obtain ⟨k, rfl, hk, hd, rfl⟩ := hrel
    have HD := Lib.hid hd
    clear hd
    by_cases hlt : k < n
    · obtain ⟨x, hx⟩ : ∃ x, ps[k]? = some x := ⟨_, List.getElem?_eq_getElem (by rw [← HN.out]; exact hlt)⟩
      obtain ⟨ad, Ak, ck, rfl, hlb, hc, hrx⟩ := ksAtO HR.out HC.out hx
      have hxs := HK.out x (List.mem_of_getElem? hx)
      have HF := Lib.hid (fits1S Ak x.length ck x _ w hrx hxs.1 hxs.2)
      clear hx hrx hxs
      go_wp2_with (first
        | (go_at_call 6; (with_reducible refine HF.out.mono ?_); rintro e w1 ⟨rfl, rfl⟩))
      go_roundg (gk - 1)
      case measure => have := HD.out; omega
      case rel => exact ⟨k + 1, by go_num, by omega, by have := HD.out; omega, rfl⟩
    · go_wp2
      go_ret
      exact ⟨rfl, rfl⟩
/-- A letter, a digit or a low line. -/
def WordB (z : Int) : Prop := (97 ≤ z ∧ z ≤ 122) ∨ (65 ≤ z ∧ z ≤ 90) ∨ (48 ≤ z ∧ z ≤ 57) ∨ z = 95
/-- A word: not empty, letters, digits and low lines. -/
def IsWord (s : ByteArray) : Prop := 0 < s.size ∧ ∀ k : Nat, k < s.size → WordB (bt s (k : Int))
set_option maxRecDepth 100000 in
set_option maxHeartbeats 4000000 in
theorem letterW (z : Int) (w : World) (h : WordB z) (h0 : 0 ≤ z) : Calls Try.prog 27 #[.int .u8 z] w fun e w' => e = .returned (.bool true) ∧ w = w' := by
  rcases h with ⟨a, b⟩ | ⟨a, b⟩ | ⟨a, b⟩ | rfl
  · go_enter Try.func27, Try.ntmps27
    go_wp2
    go_ret
    exact ⟨rfl, rfl⟩
  · have c : ¬ 97 ≤ z := by omega
    go_enter Try.func27, Try.ntmps27
    go_wp2
    go_ret
    exact ⟨rfl, rfl⟩
  · have c : ¬ 97 ≤ z := by omega
    have d : ¬ 65 ≤ z := by omega
    go_enter Try.func27, Try.ntmps27
    go_wp2
    go_ret
    exact ⟨rfl, rfl⟩
  · go_enter Try.func27, Try.ntmps27
    go_wp2
    go_ret
    exact ⟨rfl, rfl⟩
set_option maxRecDepth 100000 in
set_option maxHeartbeats 4000000 in
theorem pathByteW (z : Int) (w : World) (h : WordB z) (h0 : 0 ≤ z) : Calls Try.prog 17 #[.int .u8 z] w fun e w' => e = .returned (.bool true) ∧ w = w' := by
  have HL := Lib.hid (letterW z w h h0)
  clear h
  go_enter Try.func17, Try.ntmps17
  go_wp2_with (first
    | (go_at_call 27; (with_reducible refine HL.out.mono ?_); rintro e w1 ⟨rfl, rfl⟩))
  go_ret
  exact ⟨rfl, rfl⟩
/-- Some Boolean; if it is true, p. -/
def YesIf (p : Prop) (w : World) (e : Ending) (w' : World) : Prop := (∃ b : Bool, e = .returned (.bool b) ∧ (b = true → p)) ∧ w = w'
theorem YesIf.no {p : Prop} {w : World} {e : Ending} (h : e = .returned (.bool false)) : YesIf p w e w := ⟨⟨false, h, fun h => by cases h⟩, rfl⟩
theorem YesIf.yes {p : Prop} {w : World} {e : Ending} (h : e = .returned (.bool true)) (hp : p) : YesIf p w e w := ⟨⟨true, h, fun _ => hp⟩, rfl⟩
set_option maxRecDepth 100000 in
set_option maxHeartbeats 4000000 in
theorem gjWordW (s : ByteArray) (w : World) (hs : s.size ≤ 1048576) : Calls Try.prog 9 #[.string s] w (YesIf (IsWord s) w) := by
  go_enter Try.func9, Try.ntmps9
  go_wp2
  go_loopg [3] s.size (fun d v3 wx => ∃ k : Nat, v3 = .int .i64 (k : Int) ∧ k ≤ s.size ∧ s.size - k ≤ d ∧ (∀ j : Nat, j < k → WordB (bt s (j : Int))) ∧ w = wx)
  case atStart => exact ⟨0, rfl, by omega, by omega, (fun j hj => absurd hj (Nat.not_lt_zero _)), rfl⟩
  case round =>
    obtain ⟨k, rfl, hk, hd, hall, rfl⟩ := hrel
    have HD := Lib.hid hd
    have HA := Lib.hid hall
    clear hd hall
    by_cases hlt : k < s.size
    · have x0 : ∀ h : k < s.size, ((s[k]'h).toNat : Int) = bt s k := bt_at s k
      have hr := bt_range s (k : Nat)
      obtain ⟨z, hz⟩ : ∃ c, bt s (k : Nat) = c := ⟨_, rfl⟩
      rw [hz] at x0 hr
      have HZ := Lib.hid hz
      clear hz
      obtain ⟨hr0, hr1⟩ := hr
      have fin : WordB z → ∀ j : Nat, j < k + 1 → WordB (bt s (j : Int)) := fun h j hj => by
        by_cases hjk : j < k
        · exact HA.out j hjk
        · rw [show j = k by omega, HZ.out]; exact h
      have FIN := Lib.hid fin
      clear fin
      have kk : IntKind.i64.wrap ((k : Int) + 1) = (k : Int) + 1 := IntWalk.i64_in _ (by omega)
      by_cases a1 : 97 ≤ z
      · by_cases a2 : z ≤ 122
        · go_wp2
          go_roundg (gk - 1)
          case measure => have := HD.out; omega
          case rel => exact ⟨k + 1, by go_num, by omega, by have := HD.out; omega, FIN.out (.inl ⟨a1, a2⟩), rfl⟩
        · have b1 : 65 ≤ z := by omega
          have b2 : ¬ z ≤ 90 := by omega
          have c1 : 48 ≤ z := by omega
          have c2 : ¬ z ≤ 57 := by omega
          have d1 : (z == 95) = false := beq_eq_false_iff_ne.2 (by omega)
          go_wp2
          go_ret
          exact YesIf.no rfl
      · by_cases b1 : 65 ≤ z
        · by_cases b2 : z ≤ 90
          · go_wp2
            go_roundg (gk - 1)
            case measure => have := HD.out; omega
            case rel => exact ⟨k + 1, by go_num, by omega, by have := HD.out; omega, FIN.out (.inr (.inl ⟨b1, b2⟩)), rfl⟩
          · have c1 : 48 ≤ z := by omega
            have c2 : ¬ z ≤ 57 := by omega
            by_cases d : z = 95
            · have d1 : (z == 95) = true := by rw [beq_iff_eq]; exact d
              go_wp2
              go_roundg (gk - 1)
              case measure => have := HD.out; omega
              case rel => exact ⟨k + 1, by go_num, by omega, by have := HD.out; omega, FIN.out (.inr (.inr (.inr d))), rfl⟩
            · have d1 : (z == 95) = false := beq_eq_false_iff_ne.2 d
              go_wp2
              go_ret
              exact YesIf.no rfl
        · have d1 : (z == 95) = false := beq_eq_false_iff_ne.2 (by omega)
          by_cases c1 : 48 ≤ z
          · by_cases c2 : z ≤ 57
            · go_wp2
              go_roundg (gk - 1)
              case measure => have := HD.out; omega
              case rel => exact ⟨k + 1, by go_num, by omega, by have := HD.out; omega, FIN.out (.inr (.inr (.inl ⟨c1, c2⟩))), rfl⟩
            · go_wp2
              go_ret
              exact YesIf.no rfl
          · go_wp2
            go_ret
            exact YesIf.no rfl
    · have HF := Lib.hid (show ∀ j : Nat, j < s.size → WordB (bt s (j : Int)) from fun j hj => HA.out j (by omega))
      by_cases h0 : s.size = 0
      · have hl : s.toList = [] := (nil_iff s).2 h0
        have hl2 : s.toList.isEmpty = true := by rw [hl]; rfl
        have hl3 : (s.toList == []) = true := by rw [hl]; rfl
        have hl4 : (s.toList != []) = false := by rw [hl]; rfl
        clear hl
        go_wp2
        go_ret
        exact YesIf.no rfl
      · have hne : ¬ s.toList = [] := fun e => h0 ((nil_iff s).1 e)
        have hl2 : s.toList.isEmpty = false := by cases h : s.toList with | nil => exact absurd h hne | cons a b => rfl
        have hl3 : (s.toList == []) = false := by cases h : s.toList with | nil => exact absurd h hne | cons a b => rfl
        have hl4 : (s.toList != []) = true := by cases h : s.toList with | nil => exact absurd h hne | cons a b => rfl
        go_wp2
        go_ret
        exact YesIf.yes rfl ⟨by omega, HF.out⟩
set_option maxRecDepth 100000 in
set_option maxHeartbeats 4000000 in
theorem gjRestW (A : Option Addr) (n c : Nat) (ks : List ByteArray) (B : Nat → Prop) (w : World) (hR : Row w B 1 A n c (keysV ks)) (hn1 : n ≤ 1048576) :
    Calls Try.prog 8 #[.slice A n c] w (YesIf (ks ≠ []) w) := by
  obtain ⟨hn, hnm⟩ := keys_len hR
  have HR := Lib.hid hR
  have HN := Lib.hid hn
  clear hR hn
  go_enter Try.func8, Try.ntmps8
  go_wp2
  go_loopg [7] n (fun d v7 wx => ∃ k : Nat, v7 = .int .i64 (k : Int) ∧ k ≤ n ∧ n - k ≤ d ∧ w = wx)
  case atStart => exact ⟨0, rfl, by omega, by omega, rfl⟩
  case round =>
    obtain ⟨k, rfl, hk, hd, rfl⟩ := hrel
    have HD := Lib.hid hd
    clear hd
    by_cases hlt : k < n
    · obtain ⟨x, hx⟩ : ∃ x, ks[k]? = some x := ⟨_, List.getElem?_eq_getElem (by rw [← HN.out]; exact hlt)⟩
      obtain ⟨ad, rfl, hlb, hc⟩ := keyAt HR.out hx
      clear hx
      by_cases h0 : x.size = 0
      · have hl : x.toList = [] := (nil_iff x).2 h0
        have hl2 : x.toList.isEmpty = true := by rw [hl]; rfl
        have hl3 : (x.toList == []) = true := by rw [hl]; rfl
        clear hl
        go_wp2
        go_ret
        exact YesIf.no rfl
      · have hne : ¬ x.toList = [] := fun e => h0 ((nil_iff x).1 e)
        have hl2 : x.toList.isEmpty = false := by cases h : x.toList with | nil => exact absurd h hne | cons a b => rfl
        have hl3 : (x.toList == []) = false := by cases h : x.toList with | nil => exact absurd h hne | cons a b => rfl
        go_wp2
        go_roundg (gk - 1)
        case measure => have := HD.out; omega
        case rel => exact ⟨k + 1, by go_num, by omega, by have := HD.out; omega, rfl⟩
    · go_wp2
      go_ret
      by_cases hn0 : 0 < n
      · exact YesIf.yes (show Ending.returned (.bool (decide (0 < n))) = _ by rw [decide_eq_true hn0]) fun e => by have := HN.out; rw [e] at this; simp only [List.length_nil] at this; omega
      · exact YesIf.no (show Ending.returned (.bool (decide (0 < n))) = _ by rw [decide_eq_false hn0])
end Go.Proofs.Ytfcnjelhhhncoaa.L
