/- strconv.ParseUint(xs, 16, 16) on four bytes: the number of four hexadecimal digits, else an error. -/
import Derived.Test.YtdcmiggpjjdocaaDoorJson
import Derived.Test.YtdcmiggpjjdocaaDoorProg
import Derived.IntWalk
import Derived.WalkKit
import Derived.Outline
import Derived.BigQuiet
import Derived.Deep.QuietTactic
import Derived.Deep.LoopGhost
import Derived.Deep.DeepMust
namespace Go.Proofs.YtdcmiggpjjdocaaDoor.X64
open Go.RowKit L
set_option linter.unusedVariables false
set_option linter.unusedSimpArgs false

theorem u64_id {n : Int} (h0 : 0 ≤ n) (h : n < 18446744073709551616) : IntKind.u64.wrap n = n := by
  show n % 18446744073709551616 = n
  omega
/-! ### plain -/
/-- A letter as a small one, as the library makes it. -/
def lowC (c : Int) : Int := Go.bits .or .u8 c 32
/-- What a hexadecimal digit is worth. -/
def hexV (c : Int) : Int := if c ≤ 57 then c - 48 else if 97 ≤ c then c - 87 else c - 55
def lowOk (c : Nat) : Bool :=
  (if isHex (c : Int) then (decide (48 ≤ c) && decide (c ≤ 57)) || (!decide (c ≤ 57) && decide ((97 : Int) ≤ lowC c) && decide (lowC c ≤ 122) && decide (lowC c - 87 = hexV c) && decide (lowC c - 87 < 16))
   else !(decide (48 ≤ c) && decide (c ≤ 57)) && (!(decide ((97 : Int) ≤ lowC c) && decide (lowC c ≤ 122)) || decide ((16 : Int) ≤ lowC c - 87))) && decide (0 ≤ lowC c) && decide (lowC c ≤ 255)
theorem low_all : (List.range 256).all lowOk = true := by decide +kernel
theorem low_at {c : Int} (h0 : 0 ≤ c) (h : c ≤ 255) : lowOk c.toNat = true := by
  have := List.all_eq_true.1 low_all c.toNat (List.mem_range.2 (by omega))
  exact this
theorem low_range {c : Int} (h0 : 0 ≤ c) (h : c ≤ 255) : 0 ≤ lowC c ∧ lowC c ≤ 255 := by
  have := low_at h0 h
  unfold lowOk at this
  rw [show ((c.toNat : Nat) : Int) = c by omega] at this
  simp only [Bool.and_eq_true, decide_eq_true_eq] at this
  exact ⟨this.1.2, this.2⟩
theorem hex_dig {c : Int} (h : isHex c = true) (h1 : 48 ≤ c) (h2 : c ≤ 57) : hexV c = c - 48 := by unfold hexV; rw [if_pos h2]
theorem hex_let {c : Int} (h0 : 0 ≤ c) (h : c ≤ 255) (hx : isHex c = true) (hd : ¬ (48 ≤ c ∧ c ≤ 57)) : 97 ≤ lowC c ∧ lowC c ≤ 122 ∧ lowC c - 87 = hexV c ∧ lowC c - 87 < 16 := by
  have := low_at h0 h
  unfold lowOk at this
  rw [show ((c.toNat : Nat) : Int) = c by omega, if_pos hx] at this
  simp only [Bool.and_eq_true, Bool.or_eq_true, decide_eq_true_eq] at this
  rcases this.1.1 with h1 | h1
  · omega
  · exact ⟨h1.1.1.1.2, h1.1.1.2, h1.1.2, h1.2⟩
theorem hex_not {c : Int} (h0 : 0 ≤ c) (h : c ≤ 255) (hx : ¬ isHex c = true) : ¬ (48 ≤ c ∧ c ≤ 57) ∧ (97 ≤ lowC c → lowC c ≤ 122 → 16 ≤ lowC c - 87) := by
  have := low_at h0 h
  unfold lowOk at this
  rw [show ((c.toNat : Nat) : Int) = c by omega, if_neg hx] at this
  simp only [Bool.and_eq_true, Bool.or_eq_true, decide_eq_true_eq, Bool.not_eq_true', Bool.and_eq_false_iff, decide_eq_false_iff_not] at this
  omega
theorem hexV_range {c : Int} (hx : isHex c = true) : 0 ≤ hexV c ∧ hexV c ≤ 15 := by
  simp only [isHex, isDigit, Bool.or_eq_true, Bool.and_eq_true, decide_eq_true_eq] at hx
  unfold hexV
  split
  · omega
  · split <;> omega
/-- The number of the first i digits. -/
def hexN (s : ByteArray) : Nat → Int
  | 0 => 0
  | i + 1 => hexN s i * 16 + hexV (bt s i)
def hexAll (s : ByteArray) : Bool := isHex (bt s 0) && isHex (bt s 1) && isHex (bt s 2) && isHex (bt s 3)
theorem hexN_range {s : ByteArray} : ∀ {i : Nat}, (∀ j : Nat, j < i → isHex (bt s j) = true) → 0 ≤ hexN s i ∧ hexN s i < 16 ^ i
  | 0, _ => by simp [hexN]
  | i + 1, h => by
    obtain ⟨h1, h2⟩ := hexN_range (s := s) (i := i) fun j hj => h j (by omega)
    obtain ⟨h3, h4⟩ := hexV_range (h i (by omega))
    simp only [hexN]
    rw [Int.pow_succ]
    omega
theorem lowerW (c : Int) (w : World) : Calls Tryd.prog 49 #[.int .u8 c] w fun e w' => e = .returned (.int .u8 (lowC c)) ∧ w' = w := by
  go_enter Tryd.func49, Tryd.ntmps49
  go_wp2
  go_ret
  exact ⟨rfl, rfl⟩
theorem lower_of {c b : Int} (hb : lowC c = b) (w : World) : Calls Tryd.prog 49 #[.int .u8 c] w fun e w' => e = .returned (.int .u8 b) ∧ w' = w := by
  subst hb; exact lowerW c w
theorem hexAll_of {s : ByteArray} (h : ∀ j : Nat, j < 4 → isHex (bt s j) = true) : hexAll s = true := by
  unfold hexAll
  have h0 := h 0 (by omega)
  have h1 := h 1 (by omega)
  have h2 := h 2 (by omega)
  have h3 := h 3 (by omega)
  have h0' : isHex (bt s 0) = true := h0
  have h1' : isHex (bt s 1) = true := h1
  have h2' : isHex (bt s 2) = true := h2
  have h3' : isHex (bt s 3) = true := h3
  simp [h0', h1', h2', h3']
theorem hexAll_not {s : ByteArray} {j : Nat} (hj : j < 4) (h : isHex (bt s j) = false) : hexAll s = false := by
  unfold hexAll
  rcases (show j = 0 ∨ j = 1 ∨ j = 2 ∨ j = 3 by omega) with rfl | rfl | rfl | rfl
  · have h' : isHex (bt s 0) = false := h
    simp [h']
  · have h' : isHex (bt s 1) = false := h
    simp [h']
  · have h' : isHex (bt s 2) = false := h
    simp [h']
  · have h' : isHex (bt s 3) = false := h
    simp [h']
theorem hexN_lt {s : ByteArray} {i : Nat} (hi : i ≤ 3) (h : ∀ j : Nat, j < i → isHex (bt s j) = true) : 0 ≤ hexN s i ∧ hexN s i ≤ 4095 := by
  obtain ⟨h1, h2⟩ := hexN_range (s := s) (i := i) h
  refine ⟨h1, ?_⟩
  rcases (show i = 0 ∨ i = 1 ∨ i = 2 ∨ i = 3 by omega) with rfl | rfl | rfl | rfl <;> omega
theorem add0 (b i : Nat) : (⟨b, 0, none⟩ : Addr).add i = ⟨b, i, none⟩ := by unfold Addr.add; split <;> simp_all
/-- What ParseUint answers. -/
def In16 (s : ByteArray) (e : Ending) : Prop := (hexAll s = true ∧ e = .returned (.tuple #[.int .u64 (hexN s 4), .nilIface])) ∨ (hexAll s = false ∧ e = .returned (.tuple #[.int .u64 0, .iface 83 (.int .i64 2)]))
set_option maxRecDepth 100000 in
set_option maxHeartbeats 4000000 in
theorem inner16 (s : ByteArray) (w : World) (hs : s.size = 4) :
    Calls Tryd.prog 41 #[.string s, .int .i64 16, .int .i64 16] w fun e w' => In16 s e ∧ Below w.heap.size w w' := by
  have hcv : (convert 9 26 (.string s)).run Tryd.prog w = .ok (.slice (some ⟨w.heap.size, 0, none⟩) s.size (grownCap w s.size 0 5)) (Lib.bytesWorld w 5 s) := Lib.run_convert_string_bytes w 9 26 5 s Tryd.underlying9 Tryd.underlying26 Tryd.underlying5
  have hne : (s.toList == []) = false := by
    rw [Bool.eq_false_iff]; intro e
    have := (nil_iff s).1 (by simpa using e)
    omega
  have hsl : s.size ≤ 4 := by omega
  have hsl2 : 4 ≤ s.size := by omega
  clear hs
  have HR := Lib.hid (bytesWorld_rd w 5 s)
  have HB := Lib.hid (bytesWorld_below w 5 s)
  obtain ⟨wb, hwb⟩ : ∃ wb, Lib.bytesWorld w 5 s = wb := ⟨_, rfl⟩
  rw [hwb] at hcv HR HB
  clear hwb
  go_enter Tryd.func41, Tryd.ntmps41
  go_wp2
  go_loopg [6, 7, 12, 13, 101] (s.size) (fun d v6 v7 v12 v13 v101 wr => ∃ (i : Nat), v12 = .bool false ∧ v6 = .int .u64 0 ∧ v7 = .nilIface ∧ v13 = .int .u64 (hexN s i) ∧ v101 = .int .i64 (i : Int) ∧ i ≤ 4 ∧ s.size - i ≤ d ∧ wr = wb ∧ ∀ j : Nat, j < i → isHex (bt s j) = true)
  case atStart => exact ⟨0, rfl, rfl, rfl, rfl, rfl, by omega, by omega, rfl, fun j hj => absurd hj (by omega)⟩
  case round =>
    obtain ⟨i, rfl, rfl, rfl, rfl, rfl, hi, hd, rfl, hall⟩ := hrel
    have HA := Lib.hid hall
    have HD := Lib.hid hd
    clear hall hd
    by_cases hlt : i < s.size
    · obtain ⟨ad, had, hcell⟩ := HR.out.at_ hlt
      injection had with had
      subst had
      rw [add0] at hcell
      have hr := bt_range s i
      obtain ⟨n, hn⟩ : ∃ n, hexN s i = n := ⟨_, rfl⟩
      have hnr := hexN_lt (s := s) (i := i) (by omega) HA.out
      rw [hn] at hnr ⊢
      have HN := Lib.hid hn
      clear hn
      obtain ⟨c, hc⟩ : ∃ x, bt s i = x := ⟨_, rfl⟩
      rw [hc] at hcell hr
      have HC := Lib.hid hc
      clear hc
      cases hx : isHex c with
      | true =>
        obtain ⟨hv0, hv1⟩ := hexV_range hx
        have HX := Lib.hid hx
        have h95 : c ≠ 95 := by rintro rfl; exact absurd hx (by decide)
        by_cases hd : 48 ≤ c ∧ c ≤ 57
        · obtain ⟨hd1, hd2⟩ := hd
          have HV := Lib.hid (hex_dig hx hd1 hd2)
          have e1 : IntKind.u64.wrap (n * 16) = n * 16 := u64_id (by omega) (by omega)
          have e2 : IntKind.u64.wrap (c - 48) = c - 48 := u64_id (by omega) (by omega)
          have e3 : IntKind.u64.wrap (n * 16 + (c - 48)) = n * 16 + (c - 48) := u64_id (by omega) (by omega)
          clear hv0 hv1
          go_wp2
          go_roundg (gk - 1)
          case measure => have := HD.out; omega
          case rel =>
            refine ⟨i + 1, rfl, rfl, rfl, ?_, by go_num, by omega, by have := HD.out; omega, rfl, fun j hj => ?_⟩
            · show Value.int .u64 (n * 16 + (c - 48)) = .int .u64 (hexN s i * 16 + hexV (bt s i))
              rw [HN.out, HC.out, HV.out]
            · by_cases hji : j = i
              · rw [hji, HC.out]; exact HX.out
              · exact HA.out j (by omega)
        · obtain ⟨l1, l2, l3, l4⟩ := hex_let (by omega) (by omega) hx hd
          obtain ⟨b, hb⟩ : ∃ b, lowC c = b := ⟨_, rfl⟩
          rw [hb] at l1 l2 l3 l4
          have HL := Lib.hid hb
          have HV := Lib.hid l3
          clear hb l3 hv0 hv1
          have e1 : IntKind.u64.wrap (n * 16) = n * 16 := u64_id (by omega) (by omega)
          have e2 : IntKind.u64.wrap (b - 87) = b - 87 := u64_id (by omega) (by omega)
          have e3 : IntKind.u64.wrap (n * 16 + (b - 87)) = n * 16 + (b - 87) := u64_id (by omega) (by omega)
          by_cases h48 : 48 ≤ c
          · have h57 : ¬ c ≤ 57 := fun h => hd ⟨h48, h⟩
            clear hd
            go_wp2_with (first
              | (go_at_call 49; go_must (refine (lower_of HL.out _).mono ?_); rintro e w' ⟨rfl, rfl⟩))
            go_roundg (gk - 1)
            case measure => have := HD.out; omega
            case rel =>
              refine ⟨i + 1, rfl, rfl, rfl, ?_, by go_num, by omega, by have := HD.out; omega, rfl, fun j hj => ?_⟩
              · rw [show hexN s (i + 1) = hexN s i * 16 + hexV (bt s i) from rfl, HN.out, HC.out, ← HV.out]
                go_num
              · by_cases hji : j = i
                · rw [hji, HC.out]; exact HX.out
                · exact HA.out j (by omega)
          · clear hd
            go_wp2_with (first
              | (go_at_call 49; go_must (refine (lower_of HL.out _).mono ?_); rintro e w' ⟨rfl, rfl⟩))
            go_roundg (gk - 1)
            case measure => have := HD.out; omega
            case rel =>
              refine ⟨i + 1, rfl, rfl, rfl, ?_, by go_num, by omega, by have := HD.out; omega, rfl, fun j hj => ?_⟩
              · rw [show hexN s (i + 1) = hexN s i * 16 + hexV (bt s i) from rfl, HN.out, HC.out, ← HV.out]
                go_num
              · by_cases hji : j = i
                · rw [hji, HC.out]; exact HX.out
                · exact HA.out j (by omega)
      | false =>
        have hnot := hexAll_not (s := s) (j := i) (by omega) (by rw [HC.out]; exact hx)
        have HNOT := Lib.hid hnot
        clear hnot
        obtain ⟨m1, m2⟩ := hex_not (c := c) (by omega) (by omega) (by rw [hx]; simp)
        obtain ⟨lr0, lr1⟩ := low_range (c := c) (by omega) (by omega)
        obtain ⟨b, hb⟩ : ∃ b, lowC c = b := ⟨_, rfl⟩
        rw [hb] at m2 lr0 lr1
        have HL := Lib.hid hb
        have M2 := Lib.hid m2
        have M1 := Lib.hid m1
        clear hb m1 m2 hx
        by_cases h95 : c = 95
        · subst h95
          have hb : b = 127 := HL.out.symm.trans (by decide)
          subst hb
          go_wp2_with (first
            | (go_at_call 49; go_must (refine (lower_of HL.out _).mono ?_); rintro e w' ⟨rfl, rfl⟩))
          go_ret2
          exact ⟨.inr ⟨HNOT.out, rfl⟩, HB.out⟩
        by_cases h48 : 48 ≤ c
        · have h57 : ¬ c ≤ 57 := fun h => M1.out ⟨h48, h⟩
          by_cases h97 : 97 ≤ b
          · by_cases h122 : b ≤ 122
            · have h16 := M2.out h97 h122
              go_wp2_with (first
                | (go_at_call 49; go_must (refine (lower_of HL.out _).mono ?_); rintro e w' ⟨rfl, rfl⟩))
              go_ret2
              exact ⟨.inr ⟨HNOT.out, rfl⟩, HB.out⟩
            · go_wp2_with (first
                | (go_at_call 49; go_must (refine (lower_of HL.out _).mono ?_); rintro e w' ⟨rfl, rfl⟩))
              go_ret2
              exact ⟨.inr ⟨HNOT.out, rfl⟩, HB.out⟩
          · go_wp2_with (first
              | (go_at_call 49; go_must (refine (lower_of HL.out _).mono ?_); rintro e w' ⟨rfl, rfl⟩))
            go_ret2
            exact ⟨.inr ⟨HNOT.out, rfl⟩, HB.out⟩
        · by_cases h97 : 97 ≤ b
          · by_cases h122 : b ≤ 122
            · have h16 := M2.out h97 h122
              go_wp2_with (first
                | (go_at_call 49; go_must (refine (lower_of HL.out _).mono ?_); rintro e w' ⟨rfl, rfl⟩))
              go_ret2
              exact ⟨.inr ⟨HNOT.out, rfl⟩, HB.out⟩
            · go_wp2_with (first
                | (go_at_call 49; go_must (refine (lower_of HL.out _).mono ?_); rintro e w' ⟨rfl, rfl⟩))
              go_ret2
              exact ⟨.inr ⟨HNOT.out, rfl⟩, HB.out⟩
          · go_wp2_with (first
              | (go_at_call 49; go_must (refine (lower_of HL.out _).mono ?_); rintro e w' ⟨rfl, rfl⟩))
            go_ret2
            exact ⟨.inr ⟨HNOT.out, rfl⟩, HB.out⟩
    · obtain rfl : i = 4 := by omega
      have HALL := Lib.hid (hexAll_of HA.out)
      go_wp2
      go_ret2
      exact ⟨.inl ⟨HALL.out, rfl⟩, HB.out⟩
end Go.Proofs.YtdcmiggpjjdocaaDoor.X64
