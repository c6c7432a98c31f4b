/- The walk of spec.Unquote. -/
import Derived.Test.YtkdkdhcjpgmjdaaGreatDoorUnqW
namespace Go.Proofs.YtkdkdhcjpgmjdaaGreatDoor.L
open Go.RowKit
set_option linter.unusedVariables false
set_option linter.unusedSimpArgs false

/-- From i on each backslash begins an escape. -/
inductive EscOk (s : ByteArray) : Nat → Prop
  | done : EscOk s s.size
  | plain {i : Nat} (h : i < s.size) (hc : bt s (i : Nat) ≠ 92) (hn : EscOk s (i + 1)) : EscOk s i
  | esc {i j : Nat} (h : i < s.size) (hc : bt s (i : Nat) = 92) (he : escAt s (i + 1) = some j) (hn : EscOk s j) : EscOk s i
theorem EscOk.le {s : ByteArray} {i : Nat} (h : EscOk s i) : i ≤ s.size := by
  cases h <;> omega
theorem EscOk.one {s : ByteArray} {i : Nat} (h : EscOk s i) (hi : i < s.size) (hc : bt s (i : Nat) ≠ 92) : EscOk s (i + 1) := by
  cases h with
  | done => omega
  | plain _ _ hn => exact hn
  | esc _ hc' => exact absurd hc' hc
theorem esc_unit {s : ByteArray} {i : Nat} {n : Int} (hu : unitB s i = some n) : escAt s (i + 1) = some (i + 6) := by
  obtain ⟨h92, h117, hh, -⟩ := unit_some hu
  have hx := hh
  unfold hex4 at hx
  simp only [Bool.and_eq_true] at hx
  unfold escAt
  rw [if_neg (by rw [h117]; omega), if_pos h117, if_pos ⟨hx.1.1.1, hx.1.1.2, hx.1.2, hx.2⟩]
theorem EscOk.six {s : ByteArray} {i : Nat} {n : Int} (h : EscOk s i) (hu : unitB s i = some n) : EscOk s (i + 6) := by
  have h92 := (unit_some hu).1
  cases h with
  | done => rw [bt_out s _ (by omega)] at h92; cases h92
  | plain _ hc => exact absurd h92 hc
  | esc _ _ he hn =>
    rw [esc_unit hu] at he
    injection he with he
    subst he
    exact hn
theorem EscOk.two {s : ByteArray} {i : Nat} (h : EscOk s i) (hi : i < s.size) (h92 : bt s (i : Nat) = 92) (hu : unitB s i = none) : EscOk s (i + 2) ∧ i + 1 < s.size := by
  cases h with
  | done => omega
  | plain _ hc => exact absurd h92 hc
  | esc _ _ he hn =>
    rename_i j
    have hst := escAt_step he
    unfold escAt at he
    split at he
    · injection he with he
      subst he
      exact ⟨hn, by omega⟩
    · split at he
      · rename_i h117
        split at he
        · rename_i hh
          exfalso
          unfold unitB at hu
          rw [if_pos ⟨h92, h117, by unfold hex4; rw [hh.1, hh.2.1, hh.2.2.1, hh.2.2.2]; rfl⟩] at hu
          cases hu
        · cases he
      · cases he
theorem unitYesA (s : ByteArray) (i : Nat) (a n : Int) (w : World) (ha : a = (i : Int)) (hs : s.size ≤ 2147483648) (hu : unitB s i = some n) :
    Calls Tryz.prog 42 #[.string s, .int .i64 a] w fun e w' => e = .returned (.tuple #[.int .i64 n, .bool true]) ∧ w = w' := by
  subst ha; exact unitYes s i n w hs hu
theorem unitNoA (s : ByteArray) (i : Nat) (a : Int) (w : World) (ha : a = (i : Int)) (hs : s.size ≤ 2147483648) (hi : i ≤ s.size) (hu : unitB s i = none) :
    Calls Tryz.prog 42 #[.string s, .int .i64 a] w fun e w' => e = .returned (.tuple #[.int .i64 0, .bool false]) ∧ w = w' := by
  subst ha; exact unitNo s i w hs hi hu
/-- What Unquote stands at: written so far, and still to come. -/
structure UqAt (s tot : ByteArray) (base : Nat) (w0 : World) (i : Nat) (v : Value) (wr : World) : Prop where
  ex : ∃ x, Own wr base v x ∧ x ++ strOfNums (unq s i) = tot ∧ x.size ≤ i
  ok : EscOk s i
  bel : Below base w0 wr
  sz : base ≤ wr.heap.size
theorem UqAt.app {s tot : ByteArray} {base i j : Nat} {w0 wr w' : World} {v v' : Value} {x : ByteArray} {l : List Int} (hO : Own wr base v x) (ht : x ++ strOfNums (unq s i) = tot) (hx : x.size ≤ i)
    (hu : unq s i = l ++ unq s j) (hl : x.size + l.length ≤ j) (hO' : Own w' base v' (x ++ strOfNums l)) (hB : Below base w0 w') (hb : base ≤ w'.heap.size) (hok : EscOk s j) : UqAt s tot base w0 j v' w' :=
  ⟨⟨x ++ strOfNums l, hO', by rw [ByteArray.append_assoc, ← sON_append, ← hu]; exact ht, by rw [ByteArray.size_append, strOfNums_size]; exact hl⟩, hok, hB, hb⟩
set_option maxRecDepth 100000 in
set_option maxHeartbeats 8000000 in
theorem unquoteW (q s : ByteArray) (w : World) (hs : q.extract 1 (q.size - 1) = s) (h2 : 2 ≤ q.size) (hm : q.size ≤ 2147483650) (ho : EscOk s 0) :
    Calls Tryz.prog 30 #[.string q] w fun e w' => e = .returned (.string (strOfNums (unq s 0))) ∧ Below w.heap.size w w' := by
  obtain ⟨tot, htot⟩ : ∃ tot, strOfNums (unq s 0) = tot := ⟨_, rfl⟩
  have hsm : s.size ≤ 2147483648 := by rw [← hs, size_ext]; omega
  have HU0 := Lib.hid (show UqAt s tot w.heap.size w 0 (.slice none 0 0) w from ⟨⟨ByteArray.empty, Own.nil _ _, by rw [ByteArray.empty_append]; exact htot, by decide⟩, ho, Below.refl _ _, Nat.le_refl _⟩)
  rw [htot]
  have e1 : (0 : Int) ≤ (q.size : Int) - 1 := by omega
  have e2 : (1 : Int) ≤ (q.size : Int) - 1 := by omega
  have e3 : (q.size : Int) - 1 ≤ (q.size : Int) := by omega
  have e4 : ((q.size : Int) - 1).toNat = q.size - 1 := by omega
  clear htot ho
  go_enter Tryz.func30, Tryz.ntmps30
  go_wp2
  clear e1 e2 e3 e4 hs
  go_loopg [3, 5] s.size (fun d v3 v5 wr => ∃ i : Nat, v5 = .int .i64 (i : Int) ∧ s.size - i ≤ d ∧ UqAt s tot w.heap.size w i v3 wr)
  case atStart => exact ⟨0, rfl, by omega, HU0.out⟩
  case round =>
    obtain ⟨i, rfl, hd, hU⟩ := hrel
    have HD := Lib.hid hd
    obtain ⟨⟨x, hO, ht, hxi⟩, hok, hB, hsz⟩ := hU
    have hile := hok.le
    have HO := Lib.hid hO
    have HT := Lib.hid ht
    have HOK := Lib.hid hok
    have HB := Lib.hid hB
    clear hd hO ht hok hB
    by_cases hlt : i < s.size
    · have x0 : ∀ h : i < s.size, ((s[i]'h).toNat : Int) = bt s i := bt_at s i
      have hr := bt_range s (i : Nat)
      obtain ⟨c, hc⟩ : ∃ c, bt s (i : Nat) = c := ⟨_, rfl⟩
      rw [hc] at x0 hr
      obtain ⟨hr0, hr1⟩ := hr
      by_cases h92 : c = 92
      · subst h92
        cases hu : unitB s i with
        | none =>
          obtain ⟨hok2, hi1⟩ := HOK.out.two hlt hc hu
          have x1 : ∀ h : i + 1 < s.size, ((s[i + 1]'h).toNat : Int) = bt s (i + 1 : Nat) := bt_at s (i + 1)
          have hr1' := bt_range s ((i + 1 : Nat) : Int)
          have hq := unq_short hlt hc hu
          obtain ⟨c1, hc1⟩ : ∃ c, bt s ((i + 1 : Nat) : Int) = c := ⟨_, rfl⟩
          rw [hc1] at x1 hr1' hq
          obtain ⟨hs0, hs1⟩ := hr1'
          obtain ⟨y, hy⟩ : ∃ y, shortI c1 = y := ⟨_, rfl⟩
          have hyr : 0 ≤ y ∧ y ≤ 255 := by
            rw [← hy]; unfold shortI
            repeat' split
            all_goals omega
          rw [hy] at hq
          have HQ := Lib.hid hq
          have HY := Lib.hid hy
          have HU := Lib.hid hu
          have HOK2 := Lib.hid hok2
          obtain ⟨y0, y1⟩ := hyr
          clear hc hu hok2 hq hc1 hy
          go_wp2_with (first
            | (go_at_call 42; (with_reducible refine (unitNoA s i _ _ rfl hsm hile HU.out).mono ?_); rintro e w1 ⟨rfl, rfl⟩)
            | (go_at_call 43; (with_reducible refine (shortW c1 y HY.out hs0 hs1 _).mono ?_); rintro e w1 ⟨rfl, rfl⟩)
            | (at_builtin; go_must (refine app_rd _ rfl (.tmp 39) (.tmp 45) rfl w.heap.size _ x (strOfNums [y]) _ 1 1 rfl rfl (by rw [strOfNums_size]; rfl) (HO.out.alloc _) (rd_lit _ 5 [y] (by simp; omega)) (by rw [strOfNums_size]; simp; omega) (by simp; omega) ?_); intro v' w' hO' hg' hat'))
          go_roundg (gk - 1)
          case measure => have := HD.out; omega
          case rel => exact ⟨i + 2, by go_num, by have := HD.out; omega, UqAt.app HO.out HT.out hxi HQ.out (by simp; omega) hO' ((HB.out.alloc hsz _).grown hg' (by simp; omega) (fun j hj => (HO.out.block j hj).1)) (by have := hg'.size; simp at this; omega) HOK2.out⟩
        | some n =>
          have hok6 := HOK.out.six hu
          obtain ⟨-, -, -, -, n0, n1, hi6⟩ := unit_some hu
          have HU := Lib.hid hu
          have HOK6 := Lib.hid hok6
          cases hu2 : unitB s (i + 6) with
          | none =>
            have HQ := Lib.hid (unq_one hlt hu (fun m hm => by rw [hu2] at hm; cases hm))
            have HU2 := Lib.hid hu2
            clear hc hu hok6 hu2
            go_wp2_with (first
              | (go_at_call 42; (with_reducible refine (unitYesA s i _ n _ rfl hsm HU.out).mono ?_); rintro e w1 ⟨rfl, rfl⟩)
              | (go_at_call 42; (with_reducible refine (unitNoA s (i + 6) _ _ (by omega) hsm (by omega) HU2.out).mono ?_); rintro e w1 ⟨rfl, rfl⟩)
              | (go_at_call 46; (with_reducible refine (appW w.heap.size _ x n w _ n0 (by omega) (by omega) HO.out HB.out hsz).mono ?_); rintro e w1 ⟨v', rfl, hO', hB', hs'⟩))
            go_roundg (gk - 1)
            case measure => have := HD.out; omega
            case rel => exact ⟨i + 6, by go_num, by have := HD.out; omega, UqAt.app HO.out HT.out hxi HQ.out (by have := utfB_len n; omega) hO' hB' hs' HOK6.out⟩
          | some m =>
            obtain ⟨-, -, -, -, m0, m1, hi12⟩ := unit_some hu2
            have hok12 := hok6.six hu2
            have HU2 := Lib.hid hu2
            have HOK12 := Lib.hid hok12
            cases hhi : highI n with
            | false =>
              have HQ := Lib.hid (unq_one hlt hu (fun m hm => by rw [hhi]; rfl))
              have HHI := Lib.hid hhi
              clear hc hu hok6 hu2 hok12 hhi
              go_wp2_with (first
                | (go_at_call 42; (with_reducible refine (unitYesA s i _ n _ rfl hsm HU.out).mono ?_); rintro e w1 ⟨rfl, rfl⟩)
                | (go_at_call 42; (with_reducible refine (unitYesA s (i + 6) _ m _ (by omega) hsm HU2.out).mono ?_); rintro e w1 ⟨rfl, rfl⟩)
                | (go_at_call 44; (with_reducible refine (highW n _ HHI.out _).mono ?_); rintro e w1 ⟨rfl, rfl⟩)
                | (go_at_call 46; (with_reducible refine (appW w.heap.size _ x n w _ n0 (by omega) (by omega) HO.out HB.out hsz).mono ?_); rintro e w1 ⟨v', rfl, hO', hB', hs'⟩))
              go_roundg (gk - 1)
              case measure => have := HD.out; omega
              case rel => exact ⟨i + 6, by go_num, by have := HD.out; omega, UqAt.app HO.out HT.out hxi HQ.out (by have := utfB_len n; omega) hO' hB' hs' HOK6.out⟩
            | true =>
              cases hlo : lowI m with
              | false =>
                have HQ := Lib.hid (unq_one hlt hu (fun m' hm => by rw [hu2] at hm; injection hm with hm; rw [← hm, hlo]; exact Bool.and_false _))
                have HHI := Lib.hid hhi
                have HLO := Lib.hid hlo
                clear hc hu hok6 hu2 hok12 hhi hlo
                go_wp2_with (first
                  | (go_at_call 42; (with_reducible refine (unitYesA s i _ n _ rfl hsm HU.out).mono ?_); rintro e w1 ⟨rfl, rfl⟩)
                  | (go_at_call 42; (with_reducible refine (unitYesA s (i + 6) _ m _ (by omega) hsm HU2.out).mono ?_); rintro e w1 ⟨rfl, rfl⟩)
                  | (go_at_call 44; (with_reducible refine (highW n _ HHI.out _).mono ?_); rintro e w1 ⟨rfl, rfl⟩)
                  | (go_at_call 45; (with_reducible refine (lowW m _ HLO.out _).mono ?_); rintro e w1 ⟨rfl, rfl⟩)
                  | (go_at_call 46; (with_reducible refine (appW w.heap.size _ x n w _ n0 (by omega) (by omega) HO.out HB.out hsz).mono ?_); rintro e w1 ⟨v', rfl, hO', hB', hs'⟩))
                go_roundg (gk - 1)
                case measure => have := HD.out; omega
                case rel => exact ⟨i + 6, by go_num, by have := HD.out; omega, UqAt.app HO.out HT.out hxi HQ.out (by have := utfB_len n; omega) hO' hB' hs' HOK6.out⟩
              | true =>
                have HQ := Lib.hid (unq_pair hlt hu hu2 hhi hlo)
                have HHI := Lib.hid hhi
                have HLO := Lib.hid hlo
                have hnn : 55296 ≤ n ∧ n ≤ 56319 := by unfold highI at hhi; simpa using hhi
                have hmm : 56320 ≤ m ∧ m ≤ 57343 := by unfold lowI at hlo; simpa using hlo
                obtain ⟨na, nb⟩ := hnn
                obtain ⟨ma, mb⟩ := hmm
                clear hc hu hok6 hu2 hok12 hhi hlo
                go_wp2_with (first
                  | (go_at_call 42; (with_reducible refine (unitYesA s i _ n _ rfl hsm HU.out).mono ?_); rintro e w1 ⟨rfl, rfl⟩)
                  | (go_at_call 42; (with_reducible refine (unitYesA s (i + 6) _ m _ (by omega) hsm HU2.out).mono ?_); rintro e w1 ⟨rfl, rfl⟩)
                  | (go_at_call 44; (with_reducible refine (highW n _ HHI.out _).mono ?_); rintro e w1 ⟨rfl, rfl⟩)
                  | (go_at_call 45; (with_reducible refine (lowW m _ HLO.out _).mono ?_); rintro e w1 ⟨rfl, rfl⟩)
                  | (go_at_call 46; (with_reducible refine (appW w.heap.size _ x (65536 + (n - 55296) * 1024 + (m - 56320)) w _ (by omega) (by omega) (by omega) HO.out HB.out hsz).mono ?_); rintro e w1 ⟨v', rfl, hO', hB', hs'⟩))
                go_roundg (gk - 1)
                case measure => have := HD.out; omega
                case rel => exact ⟨i + 12, by go_num, by have := HD.out; omega, UqAt.app HO.out HT.out hxi HQ.out (by have := utfB_len (65536 + (n - 55296) * 1024 + (m - 56320)); omega) hO' hB' hs' HOK12.out⟩
      · have HQ := Lib.hid (show unq s i = [c] ++ unq s (i + 1) by rw [unq_plain hlt (by rw [hc]; exact h92), hc])
        have HOK1 := Lib.hid (HOK.out.one hlt (by rw [hc]; exact h92))
        clear hc
        go_wp2_with (first
          | (at_builtin; go_must (refine app_rd _ rfl (.tmp 23) (.tmp 27) rfl w.heap.size _ x (strOfNums [c]) _ 1 1 rfl rfl (by rw [strOfNums_size]; rfl) (HO.out.alloc _) (rd_lit _ 5 [c] (by simp; omega)) (by rw [strOfNums_size]; simp; omega) (by simp; omega) ?_); intro v' w' hO' hg' hat'))
        go_roundg (gk - 1)
        case measure => have := HD.out; omega
        case rel => exact ⟨i + 1, by go_num, by have := HD.out; omega, UqAt.app HO.out HT.out hxi HQ.out (by simp; omega) hO' ((HB.out.alloc hsz _).grown hg' (by simp; omega) (fun j hj => (HO.out.block j hj).1)) (by have := hg'.size; simp at this; omega) HOK1.out⟩
    · have hend : unq s i = [] := unq_out (by omega)
      have HT2 := Lib.hid (show x = tot by have h := HT.out; rw [hend] at h; rw [← h]; exact (ByteArray.append_empty).symm)
      obtain ⟨A', c', rfl, hcc', hr'⟩ := HO.out.rd
      have hcv := hr'.string (c := c') Tryz.underlying59 Tryz.underlying5 Tryz.underlying9
      clear hr' hcc' hend
      go_wp2
      go_ret
      exact ⟨by rw [HT2.out]; rfl, HB.out⟩
end Go.Proofs.YtkdkdhcjpgmjdaaGreatDoor.L
