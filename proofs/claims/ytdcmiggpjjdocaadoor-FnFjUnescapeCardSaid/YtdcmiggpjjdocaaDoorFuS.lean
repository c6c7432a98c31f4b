/- The walks of spec.Paired and spec.Unescape. -/
import Derived.Test.YtdcmiggpjjdocaaDoorFuP
namespace Go.Proofs.YtdcmiggpjjdocaaDoor.L
open Go.RowKit
set_option linter.unusedVariables false
set_option linter.unusedSimpArgs false

set_option maxRecDepth 100000 in
set_option maxHeartbeats 4000000 in
theorem pairedW (s : ByteArray) (w : World) (hs : s.size ≤ 2147483648) (ho : EscOk s 0) :
    Calls Tryd.prog 8 #[.string s] w fun e w' => (∃ b, e = .returned (.bool b) ∧ (b = true → PairOk s 0)) ∧ w = w' := by
  have HO0 := Lib.hid ho
  clear ho
  go_enter Tryd.func8, Tryd.ntmps8
  go_wp2
  go_loopg [3] s.size (fun d v3 wr => ∃ i : Nat, v3 = .int .i64 (i : Int) ∧ s.size - i ≤ d ∧ EscOk s i ∧ (PairOk s i → PairOk s 0) ∧ w = wr)
  case atStart => exact ⟨0, rfl, by omega, HO0.out, id, rfl⟩
  case round =>
    obtain ⟨i, rfl, hd, hok, hp, rfl⟩ := hrel
    have HD := Lib.hid hd
    have hile := hok.le
    have HOK := Lib.hid hok
    have HP := Lib.hid hp
    clear hd hok hp
    by_cases hlt : i < s.size
    · have x0 : ∀ h : i < s.size, ((s[i]'h).toNat : Int) = bt s i := bt_at s i
      have hr := bt_range s (i : Nat)
      obtain ⟨c, hc⟩ : ∃ c, bt s (i : Nat) = c := ⟨_, rfl⟩
      rw [hc] at x0 hr
      obtain ⟨hr0, hr1⟩ := hr
      by_cases h92 : c = 92
      · subst h92
        cases hu : unitB s i with
        | none =>
          have HU := Lib.hid hu
          have HOK2 := Lib.hid (HOK.out.two hlt hc hu).1
          have HP2 := Lib.hid (fun h : PairOk s (i + 2) => HP.out (.short hc hu h))
          clear hc hu
          go_wp2_with (first
            | (go_at_call 15; (with_reducible refine (unitNoA s i _ _ rfl hs hile HU.out).mono ?_); rintro e w1 ⟨rfl, rfl⟩))
          go_roundg (gk - 1)
          case measure => have := HD.out; omega
          case rel => exact ⟨i + 2, by go_num, by have := HD.out; omega, HOK2.out, HP2.out, rfl⟩
        | some n =>
          have hok6 := HOK.out.six hu
          have hle6 := hok6.le
          have HOK6 := Lib.hid hok6
          have HU := Lib.hid hu
          cases hhi : highI n with
          | true =>
            have HHI := Lib.hid hhi
            cases hu2 : unitB s (i + 6) with
            | none =>
              have HU2 := Lib.hid hu2
              clear hc hu hok6 hu2 hhi
              go_wp2_with (first
                | (go_at_call 15; (with_reducible refine (unitYesA s i _ n _ rfl hs HU.out).mono ?_); rintro e w1 ⟨rfl, rfl⟩)
                | (go_at_call 15; (with_reducible refine (unitNoA s (i + 6) _ _ (by omega) hs (by omega) HU2.out).mono ?_); rintro e w1 ⟨rfl, rfl⟩)
                | (go_at_call 16; (with_reducible refine (highW n _ HHI.out _).mono ?_); rintro e w1 ⟨rfl, rfl⟩))
              go_ret
              exact ⟨⟨false, rfl, fun h => by cases h⟩, rfl⟩
            | some m =>
              have HU2 := Lib.hid hu2
              have HOK12 := Lib.hid (hok6.six hu2)
              cases hlo : lowI m with
              | true =>
                have HLO := Lib.hid hlo
                have HP2 := Lib.hid (fun h : PairOk s (i + 12) => HP.out (.pair hu hu2 hhi hlo h))
                clear hc hu hok6 hu2 hhi hlo
                go_wp2_with (first
                  | (go_at_call 15; (with_reducible refine (unitYesA s i _ n _ rfl hs HU.out).mono ?_); rintro e w1 ⟨rfl, rfl⟩)
                  | (go_at_call 15; (with_reducible refine (unitYesA s (i + 6) _ m _ (by omega) hs HU2.out).mono ?_); rintro e w1 ⟨rfl, rfl⟩)
                  | (go_at_call 16; (with_reducible refine (highW n _ HHI.out _).mono ?_); rintro e w1 ⟨rfl, rfl⟩)
                  | (go_at_call 17; (with_reducible refine (lowW m _ HLO.out _).mono ?_); rintro e w1 ⟨rfl, rfl⟩))
                go_roundg (gk - 1)
                case measure => have := HD.out; omega
                case rel => exact ⟨i + 12, by go_num, by have := HD.out; omega, HOK12.out, HP2.out, rfl⟩
              | false =>
                have HLO := Lib.hid hlo
                clear hc hu hok6 hu2 hhi hlo
                go_wp2_with (first
                  | (go_at_call 15; (with_reducible refine (unitYesA s i _ n _ rfl hs HU.out).mono ?_); rintro e w1 ⟨rfl, rfl⟩)
                  | (go_at_call 15; (with_reducible refine (unitYesA s (i + 6) _ m _ (by omega) hs HU2.out).mono ?_); rintro e w1 ⟨rfl, rfl⟩)
                  | (go_at_call 16; (with_reducible refine (highW n _ HHI.out _).mono ?_); rintro e w1 ⟨rfl, rfl⟩)
                  | (go_at_call 17; (with_reducible refine (lowW m _ HLO.out _).mono ?_); rintro e w1 ⟨rfl, rfl⟩))
                go_ret
                exact ⟨⟨false, rfl, fun h => by cases h⟩, rfl⟩
          | false =>
            have HHI := Lib.hid hhi
            cases hlo : lowI n with
            | true =>
              have HLO := Lib.hid hlo
              clear hc hu hok6 hhi hlo
              go_wp2_with (first
                | (go_at_call 15; (with_reducible refine (unitYesA s i _ n _ rfl hs HU.out).mono ?_); rintro e w1 ⟨rfl, rfl⟩)
                | (go_at_call 16; (with_reducible refine (highW n _ HHI.out _).mono ?_); rintro e w1 ⟨rfl, rfl⟩)
                | (go_at_call 17; (with_reducible refine (lowW n _ HLO.out _).mono ?_); rintro e w1 ⟨rfl, rfl⟩))
              go_ret
              exact ⟨⟨false, rfl, fun h => by cases h⟩, rfl⟩
            | false =>
              have HLO := Lib.hid hlo
              have HP2 := Lib.hid (fun h : PairOk s (i + 6) => HP.out (.one hu hhi hlo h))
              clear hc hu hok6 hhi hlo
              go_wp2_with (first
                | (go_at_call 15; (with_reducible refine (unitYesA s i _ n _ rfl hs HU.out).mono ?_); rintro e w1 ⟨rfl, rfl⟩)
                | (go_at_call 16; (with_reducible refine (highW n _ HHI.out _).mono ?_); rintro e w1 ⟨rfl, rfl⟩)
                | (go_at_call 17; (with_reducible refine (lowW n _ HLO.out _).mono ?_); rintro e w1 ⟨rfl, rfl⟩))
              go_roundg (gk - 1)
              case measure => have := HD.out; omega
              case rel => exact ⟨i + 6, by go_num, by have := HD.out; omega, HOK6.out, HP2.out, rfl⟩
      · have HOK1 := Lib.hid (HOK.out.one hlt (by rw [hc]; exact h92))
        have HP2 := Lib.hid (fun h : PairOk s (i + 1) => HP.out (.plain (by rw [hc]; exact h92) h))
        clear hc
        go_wp2
        go_roundg (gk - 1)
        case measure => have := HD.out; omega
        case rel => exact ⟨i + 1, by go_num, by have := HD.out; omega, HOK1.out, HP2.out, rfl⟩
    · have HP2 := Lib.hid (HP.out (.done (by omega)))
      go_wp2
      go_ret
      exact ⟨⟨true, rfl, fun _ => HP2.out⟩, rfl⟩
theorem rd_at (w : World) (s : ByteArray) (i : Nat) (x : Int) (hx : x = (i : Int)) : RdS (w.alloc (.cells #[.string s, .int .i64 x] 36)) w.heap.size s i := by subst hx; exact heap_alloc_new w _
theorem quo_ext (s : ByteArray) : (strOfNums [34] ++ s ++ strOfNums [34]).extract 1 ((strOfNums [34] ++ s ++ strOfNums [34]).size - 1) = s := by
  have hz : (strOfNums [34] ++ s ++ strOfNums [34]).size = s.size + 2 := by simp only [ByteArray.size_append, strOfNums_size]; simp; omega
  refine eq_of_bt (by rw [size_ext]; omega) fun k hk => ?_
  rw [size_ext] at hk
  rw [bt_ext _ _ _ _ (by omega) (by rw [size_ext]; omega), bt_app_left _ _ _ (by omega) (by rw [ByteArray.size_append, strOfNums_size]; simp; omega), bt_app_right _ _ _ (by rw [strOfNums_size]; simp; omega), strOfNums_size]
  congr 1
  simp; omega
/-- What Unescape answers. -/
def UePost (s : ByteArray) (w : World) (e : Ending) (w' : World) : Prop :=
  ((EscOk s 0 ∧ e = .returned (.tuple #[.string (strOfNums (unq s 0)), .bool true])) ∨ ∃ a, e = .returned (.tuple #[.string a, .bool false])) ∧ Below w.heap.size w w'
theorem quo_lit (s : ByteArray) : ((⟨#[34]⟩ : ByteArray) ++ s ++ ⟨#[34]⟩).extract 1 (((⟨#[34]⟩ : ByteArray) ++ s ++ ⟨#[34]⟩).size - 1) = s := quo_ext s
theorem quo_size (s : ByteArray) : ((⟨#[34]⟩ : ByteArray) ++ s ++ ⟨#[34]⟩).size = s.size + 2 := by
  rw [ByteArray.size_append, ByteArray.size_append]
  show 1 + s.size + 1 = s.size + 2
  omega
set_option maxRecDepth 100000 in
set_option maxHeartbeats 8000000 in
theorem unescapeW (s : ByteArray) (w : World) (hs : s.size ≤ 2147483647) : Calls Tryd.prog 7 #[.string s] w (UePost s w) := by
  have HQ := Lib.hid (quo_lit s)
  have HQZ := Lib.hid (quo_size s)
  have hs' : s.size ≤ 140737488351232 := by omega
  go_enter Tryd.func7, Tryd.ntmps7
  go_wp2
  go_loopg [4] s.size (fun d v4 wr => ∃ i : Nat, v4 = .int .i64 (i : Int) ∧ s.size - i ≤ d ∧ i ≤ s.size ∧ (EscOk s i → EscOk s 0) ∧ Below w.heap.size w wr)
  case atStart => exact ⟨0, rfl, by omega, by omega, id, Below.refl _ _⟩
  case round =>
    obtain ⟨i, rfl, hd, hile, hok, hB⟩ := hrel
    have HD := Lib.hid hd
    have HOK := Lib.hid hok
    have HB := Lib.hid hB
    clear hd hok hB
    by_cases hlt : i < s.size
    · have x0 : ∀ h : i < s.size, ((s[i]'h).toNat : Int) = bt s i := bt_at s i
      have hr := bt_range s (i : Nat)
      obtain ⟨c, hc⟩ : ∃ c, bt s (i : Nat) = c := ⟨_, rfl⟩
      rw [hc] at x0 hr
      obtain ⟨hr0, hr1⟩ := hr
      by_cases h92 : c = 92
      · subst h92
        cases he : escAt s (i + 1) with
        | none =>
          have HE := Lib.hid he
          clear hc he
          go_wp2_with (first
            | (go_at_call 13; go_must (refine (escape_no wr.heap.size s (i + 1) _ (rd_at wr s (i + 1) _ (by omega)) hs' (by omega) HE.out).mono ?_); rintro e w1 ⟨rfl, j, hj, hM⟩))
          go_ret2
          exact ⟨.inr ⟨_, rfl⟩, (below_alloc HB.out _).grown hM.gr (by have := HB.out.size; simp; omega) (fun k hk => by injection hk with hk; subst hk; exact HB.out.size)⟩
        | some j =>
          have HE := Lib.hid he
          have hst := escAt_step he
          have HN := Lib.hid (fun h : EscOk s j => HOK.out (.esc hlt hc he h))
          clear hc he
          go_wp2_with (first
            | (go_at_call 13; go_must (refine (escape_yes wr.heap.size s (i + 1) j _ (rd_at wr s (i + 1) _ (by omega)) hs' (by omega) HE.out).mono ?_); rintro e w1 ⟨rfl, hM⟩; have hc1 := hM.rd.c1))
          go_roundg (gk - 1)
          case measure => have := HD.out; omega
          case rel => exact ⟨j, by go_num, by have := HD.out; omega, by omega, HN.out, (below_alloc HB.out _).grown hM.gr (by have := HB.out.size; simp; omega) (fun k hk => by injection hk with hk; subst hk; exact HB.out.size)⟩
      · have HN := Lib.hid (fun h : EscOk s (i + 1) => HOK.out (.plain hlt (by rw [hc]; exact h92) h))
        clear hc
        go_wp2
        go_roundg (gk - 1)
        case measure => have := HD.out; omega
        case rel => exact ⟨i + 1, by go_num, by have := HD.out; omega, by omega, HN.out, HB.out⟩
    · obtain rfl : i = s.size := by omega
      have HO := Lib.hid (HOK.out .done)
      go_wp2_with (first
        | (go_at_call 14; go_must (refine (unquoteW _ s _ HQ.out (by rw [HQZ.out]; omega) (by rw [HQZ.out]; omega) HO.out).mono ?_); rintro e w1 ⟨rfl, hb⟩))
      go_ret2
      exact ⟨.inl ⟨HO.out, rfl⟩, below_step HB.out hb⟩
end Go.Proofs.YtdcmiggpjjdocaaDoor.L
