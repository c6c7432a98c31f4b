/- The walk of gjson's tostr over a string that spec.Quote wrote. -/
import Derived.Test.YtnhnkpgbdpbafaaDoorGlUn
import Derived.Deep.DeepCutAuto
import Derived.Deep.CutBlock
import Derived.Deep.QuietTactic
import Derived.BigQuiet
import Derived.IntWalk
import Derived.Deep.RegionHeld3
import Derived.Laws.DeepStrings4
namespace Go.Proofs.YtnhnkpgbdpbafaaDoor.L
open Go.RowKit
set_option linter.unusedVariables false
set_option linter.unusedSimpArgs false

/-- A place within what spec.Quote wrote, behind the first quotation mark. -/
def PosIn (s : ByteArray) (i : Nat) : Prop := ∃ k j : Nat, i = (escP s k).size + j ∧ ((k < s.size ∧ j < (eb (bt s k)).length) ∨ (k = s.size ∧ j = 0))
theorem PosIn.le {s : ByteArray} {i : Nat} (h : PosIn s i) : 1 ≤ i ∧ i < (esc s).size := by
  obtain ⟨k, j, rfl, ⟨hk, hj⟩ | ⟨rfl, rfl⟩⟩ := h
  · have h1 := pos_ge s k
    have h2 := pos_succ s k
    have h3 := pos_lt (s := s) (k := k + 1) (by omega)
    omega
  · have h1 := pos_ge s s.size
    have h3 := pos_lt (s := s) (k := s.size) (by omega)
    omega
theorem PosIn.next {s : ByteArray} {i : Nat} (h : PosIn s i) (hi : i + 1 < (esc s).size) : PosIn s (i + 1) := by
  obtain ⟨k, j, rfl, ⟨hk, hj⟩ | ⟨rfl, rfl⟩⟩ := h
  · have h2 := pos_succ s k
    by_cases hj2 : j + 1 < (eb (bt s k)).length
    · exact ⟨k, j + 1, by omega, .inl ⟨hk, hj2⟩⟩
    · have hmore : 1 ≤ (eb (bt s (k + 1 : Nat))).length := by
        unfold eb; repeat' split
        all_goals simp
      by_cases hk2 : k + 1 < s.size
      · exact ⟨k + 1, 0, by omega, .inl ⟨hk2, by omega⟩⟩
      · exact ⟨k + 1, 0, by omega, .inr ⟨by omega, rfl⟩⟩
  · have := esc_size s
    omega
/-- A quotation mark: the last one, or one behind an odd number of backslashes. -/
theorem PosIn.quote {s : ByteArray} {i : Nat} (h : PosIn s i) (hq : bt (esc s) (i : Nat) = 34) :
    (i + 1 = (esc s).size ∧ (bt (esc s) ((i - 1 : Nat) : Int) = 92 → 2 ≤ i ∧ tb (esc s) (i - 1) % 2 = 1)) ∨ (i + 1 < (esc s).size ∧ 2 ≤ i ∧ bt (esc s) ((i - 1 : Nat) : Int) = 92 ∧ tb (esc s) (i - 1) % 2 = 0) := by
  obtain ⟨k, j, rfl, ⟨hk, hj⟩ | ⟨rfl, rfl⟩⟩ := h
  · right
    have hp1 := pos_ge s k
    have h2 := pos_succ s k
    have h3 := pos_lt (s := s) (k := k + 1) (by omega)
    rw [esc_at hk hj] at hq
    have hr := bt_range s k
    rcases short_or (bt s k) with ⟨l, hl⟩ | hn
    · have e := eb_short hl
      have hl34 := short_range hl
      have hj1 : j = 1 := by
        have hj' := hj
        rw [e] at hj'
        simp at hj'
        rcases (by omega : j = 0 ∨ j = 1) with rfl | rfl
        · simp [e] at hq
        · rfl
      subst hj1
      have h0 := esc_at (s := s) (k := k) (j := 0) hk (by rw [e]; simp)
      simp only [e, List.getElem_cons_zero, Nat.add_zero] at h0
      rw [Nat.add_sub_cancel]
      exact ⟨by omega, by omega, h0, tb_even s k (by omega)⟩
    · by_cases h32 : bt s k < 32
      · have e := eb_low hn h32
        have hx := (hexd_no (bt s k % 16) (by omega) (by omega)).2
        have hj' := hj
        rw [e] at hj'
        simp at hj'
        rcases (by omega : j = 0 ∨ j = 1 ∨ j = 2 ∨ j = 3 ∨ j = 4 ∨ j = 5) with rfl | rfl | rfl | rfl | rfl | rfl
        · simp [e] at hq
        · simp [e] at hq
        · simp [e] at hq
        · simp [e] at hq
        · simp only [e, List.getElem_cons_zero, List.getElem_cons_succ] at hq; omega
        · simp only [e, List.getElem_cons_zero, List.getElem_cons_succ] at hq; omega
      · have e := eb_plain hn h32
        have hj' := hj
        rw [e] at hj'
        simp at hj'
        subst hj'
        simp only [e, List.getElem_cons_zero] at hq
        exact absurd hq hn.2.2.2.2.2.1
  · left
    have h1 := pos_ge s s.size
    have he := esc_size s
    refine ⟨by omega, fun h92 => ?_⟩
    have hev := tb_even s s.size (Nat.le_refl _)
    obtain ⟨m, hm⟩ : ∃ m, (escP s s.size).size = m + 1 := ⟨(escP s s.size).size - 1, by omega⟩
    rw [Nat.add_zero, hm, Nat.add_sub_cancel] at h92 ⊢
    rw [hm, tb_yes h92] at hev
    refine ⟨?_, by omega⟩
    rcases Nat.eq_zero_or_pos m with rfl | h
    · have h0 := esc_zero s
      rw [show ((0 : Nat) : Int) = 0 from rfl, h0] at h92
      cases h92
    · omega
theorem pos_first {s : ByteArray} {k : Nat} (hk : k < s.size) (h : ¬ Plain (bt s k)) : bt (esc s) ((escP s k).size : Nat) = 92 ∧ PosIn s ((escP s k).size + 1) := by
  rcases short_or (bt s k) with ⟨l, hl⟩ | hn
  · have e := eb_short hl
    have h0 := esc_at (s := s) (k := k) (j := 0) hk (by rw [e]; simp)
    simp only [e, List.getElem_cons_zero, Nat.add_zero] at h0
    exact ⟨h0, k, 1, rfl, .inl ⟨hk, by rw [e]; simp⟩⟩
  · by_cases h32 : bt s k < 32
    · have e := eb_low hn h32
      have h0 := esc_at (s := s) (k := k) (j := 0) hk (by rw [e]; simp)
      simp only [e, List.getElem_cons_zero, Nat.add_zero] at h0
      exact ⟨h0, k, 1, rfl, .inl ⟨hk, by rw [e]; simp⟩⟩
    · exact absurd ⟨hn, h32⟩ h
/-- What tostr gives. -/
def StrPost (s : ByteArray) (w : World) (e : Ending) (w' : World) : Prop := e = .returned (.tuple #[.string (esc s), .string s]) ∧ Below w.heap.size w w'
theorem unescA (s x : ByteArray) (w : World) (hs : s.size ≤ 16384) (hx : ins s = x) : Calls Tryd.prog 20 #[.string x] w fun e w' => e = .returned (.string s) ∧ Below w.heap.size w w' := by
  subst hx; exact unescW s w hs
set_option maxRecDepth 100000 in
set_option maxHeartbeats 8000000 in
theorem tostrW (s : ByteArray) (w : World) (hs : s.size ≤ 16384) : Calls Tryd.prog 16 #[.string (esc s)] w (StrPost s w) := by
  have hz := esc_size s
  have hzz := escP_size s s.size
  have htm : (esc s).size ≤ 100001 := by omega
  have ht0 := esc_zero s
  have hpl := @plain_all s
  have hins : ins s = (esc s).extract 1 ((esc s).size - 1) := rfl
  have hall := ext_all (esc s)
  have hpf := fun k => @pos_first s k
  have hpq := fun i => @PosIn.quote s i
  have hpn := fun i => @PosIn.next s i
  have hple := fun i => @PosIn.le s i
  have hat := fun k j => @esc_at s k j
  have hend := esc_end s
  obtain ⟨t, ht⟩ : ∃ t, esc s = t := ⟨_, rfl⟩
  unfold StrPost
  rw [ht] at hz hpl hins hall hpf hpq hpn hple hat hend ht0 htm ⊢
  have HZ := Lib.hid hz
  have HT0 := Lib.hid ht0
  have HPL := Lib.hid hpl
  have HINS := Lib.hid hins
  have HALL := Lib.hid hall
  have HPF := Lib.hid hpf
  have HPQ := Lib.hid hpq
  have HPN := Lib.hid hpn
  have HPLE := Lib.hid hple
  have HAT := Lib.hid hat
  have HEND := Lib.hid hend
  clear hz hzz ht0 hpl hins hall hpf hpq hpn hple hat hend ht
  go_enter Tryd.func16, Tryd.ntmps16
  go_wp2
  go_loopg [4] t.size (fun d v4 wr => ∃ k : Nat, v4 = .int .i64 ((1 + k : Nat) : Int) ∧ k ≤ s.size ∧ t.size - k ≤ d ∧ (∀ j : Nat, j < k → Plain (bt s j)) ∧ w = wr)
  case atStart => exact ⟨0, rfl, by omega, by omega, (fun j hj => absurd hj (by omega)), rfl⟩
  case round =>
    obtain ⟨k, rfl, hk, hd, hpk, rfl⟩ := hrel
    have HD := Lib.hid hd
    have HPK := Lib.hid hpk
    have HPS := Lib.hid (plain_size hk hpk)
    clear hd hpk
    by_cases hlt : k < s.size
    · have hlt1 : 1 + k < t.size := by have := pos_lt (s := s) (k := k) hk; have := HPS.out; have := HZ.out; have := pos_ge s s.size; omega
      have x0 : ∀ h : 1 + k < t.size, ((t[1 + k]'h).toNat : Int) = bt t (1 + k : Nat) := bt_at t (1 + k)
      by_cases hpc : Plain (bt s k)
      · have h0 := HAT.out k 0 hlt (by rw [eb_plain hpc.1 hpc.2]; simp)
        simp only [eb_plain hpc.1 hpc.2, List.getElem_cons_zero, Nat.add_zero] at h0
        rw [HPS.out] at h0
        rw [h0] at x0
        obtain ⟨c, hc⟩ : ∃ c, bt s (k : Nat) = c := ⟨_, rfl⟩
        rw [hc] at x0
        have HC := Lib.hid hc
        have hPC := Lib.hid hpc
        have hc34 : ¬ c = 34 := by rw [← hc]; exact hpc.1.2.2.2.2.2.1
        have hc92 : ¬ c = 92 := by rw [← hc]; exact hpc.1.2.2.2.2.2.2
        clear h0 hc hpc
        by_cases hc2 : 92 < c
        · go_wp2
          go_roundg (gk - 1)
          case measure => have := HD.out; omega
          case rel => exact ⟨k + 1, by go_num, by omega, by have := HD.out; omega, (fun j hj => by
            by_cases e : j = k
            · rw [e]; exact hPC.out
            · exact HPK.out j (by omega)), rfl⟩
        · go_wp2
          go_roundg (gk - 1)
          case measure => have := HD.out; omega
          case rel => exact ⟨k + 1, by go_num, by omega, by have := HD.out; omega, (fun j hj => by
            by_cases e : j = k
            · rw [e]; exact hPC.out
            · exact HPK.out j (by omega)), rfl⟩
      · obtain ⟨h92, hpos⟩ := HPF.out k hlt hpc
        rw [HPS.out] at h92 hpos
        rw [h92] at x0
        have HPOS := Lib.hid hpos
        clear h92 hpos hpc
        go_wp2
        go_loopg [4] t.size (fun d v4 wr => ∃ m : Nat, v4 = .int .i64 ((m + 1 : Nat) : Int) ∧ PosIn s (m + 1) ∧ t.size - m ≤ d ∧ w = wr)
        case atStart => exact ⟨1 + k, by go_num, HPOS.out, by omega, rfl⟩
        case round =>
          obtain ⟨m, rfl, hpos, hd, rfl⟩ := hrel
          obtain ⟨h1, h2⟩ := HPLE.out _ hpos
          have HPOS2 := Lib.hid hpos
          have HD2 := Lib.hid hd
          have x1 : ∀ h : m + 1 < t.size, ((t[m + 1]'h).toNat : Int) = bt t (m + 1 : Nat) := bt_at t (m + 1)
          have x2 : ∀ h : m < t.size, ((t[m]'h).toNat : Int) = bt t (m : Nat) := bt_at t m
          obtain ⟨c, hc⟩ : ∃ c, bt t ((m + 1 : Nat) : Int) = c := ⟨_, rfl⟩
          have hm0 : m < t.size := by omega
          clear hpos hd h1 x0
          by_cases h34 : c = 34
          · have hq := HPQ.out _ HPOS2.out (hc.trans h34)
            rw [Nat.add_sub_cancel] at hq
            have HQ := Lib.hid hq
            rw [hc, h34] at x1
            clear hc h34 hq
            by_cases h92 : bt t (m : Nat) = 92
            · have hm1 : 1 ≤ m := by
                rcases HQ.out with ⟨_, h⟩ | ⟨_, h, _⟩
                · have := (h h92).1; omega
                · omega
              obtain ⟨q, rfl⟩ : ∃ q, m = q + 1 := ⟨m - 1, by omega⟩
              rw [h92] at x2
              have HTQ := Lib.hid (show tb t (q + 1) ≤ q + 1 from tb_le t _)
              clear h92
              go_upto_block 4 with (fail)
              go_cut [5] (fun v5 wx => v5 = .int .i64 ((tb t (q + 1) : Nat) : Int) ∧ w = wx)
              case first =>
                go_wp2_with (fail)
                go_loopg [5, 6] (q + 1) (fun d v5 v6 wx => ∃ n j : Nat, v5 = .int .i64 (n : Int) ∧ v6 = .int .i64 (j : Int) ∧ j ≤ q ∧ n ≤ q + 1 ∧ j < d ∧ n + tb t (j + 1) = tb t (q + 1) ∧ w = wx)
                case atStart => exact ⟨0, q, rfl, by go_num, Nat.le_refl _, by omega, by omega, by omega, rfl⟩
                case round =>
                  obtain ⟨n, j, rfl, rfl, hj, hn, hjd, htb, rfl⟩ := hrel
                  have HTB := Lib.hid htb
                  have HJD := Lib.hid hjd
                  clear htb hjd
                  by_cases hj0 : 0 < j
                  · obtain ⟨j', rfl⟩ : ∃ j', j = j' + 1 := ⟨j - 1, by omega⟩
                    have hjl : j' + 1 < t.size := by omega
                    have x3 : ∀ h : j' + 1 < t.size, ((t[j' + 1]'h).toNat : Int) = bt t (j' + 1 : Nat) := bt_at t (j' + 1)
                    by_cases hb : bt t ((j' + 1 : Nat) : Int) = 92
                    · have HY := Lib.hid (tb_yes hb)
                      have HN := Lib.hid (show n + 1 ≤ q + 1 by have := HTB.out; have := HY.out; have := tb_le t (q + 1); omega)
                      rw [hb] at x3
                      clear hb
                      go_wp2
                      go_roundg (gk - 1)
                      case measure => have := HJD.out; omega
                      case rel => exact ⟨n + 1, j', by go_num, by go_num, by omega, HN.out, by have := HJD.out; omega, by have := HTB.out; have := HY.out; omega, rfl⟩
                    · have HY := Lib.hid (tb_no hb)
                      obtain ⟨y, hy⟩ : ∃ y, bt t ((j' + 1 : Nat) : Int) = y := ⟨_, rfl⟩
                      rw [hy] at x3 hb
                      clear hy
                      go_wp2
                      go_meet
                      case rel => exact ⟨by have := HTB.out; have := HY.out; rw [show n = tb t (q + 1) by omega], rfl⟩
                  · obtain rfl : j = 0 := by omega
                    have HY := Lib.hid (tb_no (s := t) (i := 0) (by show bt t 0 ≠ 92; rw [HT0.out]; decide))
                    go_wp2
                    go_meet
                    case rel => exact ⟨by have := HTB.out; have := HY.out; rw [show n = tb t (q + 1) by omega], rfl⟩
              case rest =>
                obtain ⟨rfl, rfl⟩ := hcut
                obtain ⟨N, hN⟩ : ∃ N, tb t (q + 1) = N := ⟨_, rfl⟩
                rcases HQ.out with ⟨he, hodd⟩ | ⟨hl, -, -, hev⟩
                · have hodd := (hodd (by have h := x2 hm0; rw [← h]; exact bt_at t _ hm0 ▸ rfl)).2
                  rw [hN] at hodd ⊢
                  have hrem : (N : Int) % 2 = 1 := by omega
                  have hrem2 : (N : Int).tmod 2 = 1 := by rw [Int.tmod_eq_emod_of_nonneg (by omega)]; omega
                  go_wp2
                  have e1 : IntKind.i64.wrap (((q : Int) + 1 + 1) + 1) = ((q : Int) + 1 + 1) + 1 := IntWalk.i64_in _ (by omega)
                  have e2 : (0 : Int) ≤ ((q : Int) + 1 + 1) + 1 := by omega
                  have e3 : ((q : Int) + 1 + 1) + 1 ≤ (t.size : Int) := by omega
                  have e4 : (((q : Int) + 1 + 1) + 1).toNat = t.size := by omega
                  have e5 : (1 : Int) ≤ ((q : Int) + 1 + 1) := by omega
                  have e6 : ((q : Int) + 1 + 1) ≤ (t.size : Int) := by omega
                  have e7 : (((q : Int) + 1 + 1)).toNat = t.size - 1 := by omega
                  have e8 : (0 : Int) ≤ ((q : Int) + 1 + 1) := by omega
                  go_region_held3 (fun w3 => Below w.heap.size w w3)
                    (first | exact ⟨rfl, rfl, rfl, Nat.le_refl _, fun _ _ => rfl⟩ | assumption | exact below_step ‹_› ‹_›)
                    (first
                      | (go_at_call 20; go_must (refine (unescA s _ _ hs HINS.out).mono ?_); rintro e w3 ⟨rfl, hb3⟩))
                  all_goals
                    rename_i hH
                    clear e1 e2 e3 e4 e5 e6 e7 e8
                    go_wp2
                    go_ret2
                    exact ⟨rfl, hH⟩
                · rw [hN] at hev ⊢
                  have hrem : (N : Int) % 2 = 0 := by omega
                  have hrem2 : (N : Int).tmod 2 = 0 := by rw [Int.tmod_eq_emod_of_nonneg (by omega)]; omega
                  have HNX := Lib.hid (HPN.out _ HPOS2.out (by omega))
                  go_wp2
                  go_roundg (gk - 1)
                  case measure => have := HD2.out; omega
                  case rel => exact ⟨q + 1 + 1, by go_num, HNX.out, by have := HD2.out; omega, rfl⟩
            · obtain ⟨y, hy⟩ : ∃ y, bt t (m : Nat) = y := ⟨_, rfl⟩
              have he : m + 1 + 1 = t.size := by
                rcases HQ.out with ⟨h, _⟩ | ⟨_, _, h, _⟩
                · exact h
                · exact absurd h h92
              rw [hy] at x2 h92
              clear hy
              go_wp2
              have e1 : IntKind.i64.wrap (((m : Int) + 1) + 1) = ((m : Int) + 1) + 1 := IntWalk.i64_in _ (by omega)
              have e2 : (0 : Int) ≤ ((m : Int) + 1) + 1 := by omega
              have e3 : ((m : Int) + 1) + 1 ≤ (t.size : Int) := by omega
              have e4 : (((m : Int) + 1) + 1).toNat = t.size := by omega
              have e5 : (1 : Int) ≤ ((m : Int) + 1) := by omega
              have e6 : ((m : Int) + 1) ≤ (t.size : Int) := by omega
              have e7 : (((m : Int) + 1)).toNat = t.size - 1 := by omega
              have e8 : (0 : Int) ≤ ((m : Int) + 1) := by omega
              go_region_held3 (fun w3 => Below w.heap.size w w3)
                (first | exact ⟨rfl, rfl, rfl, Nat.le_refl _, fun _ _ => rfl⟩ | assumption | exact below_step ‹_› ‹_›)
                (first
                  | (go_at_call 20; go_must (refine (unescA s _ _ hs HINS.out).mono ?_); rintro e w3 ⟨rfl, hb3⟩))
              all_goals
                rename_i hH
                clear e1 e2 e3 e4 e5 e6 e7 e8
                go_wp2
                go_ret2
                exact ⟨rfl, hH⟩
          · have hlast : m + 1 + 1 < t.size := by
              rcases Nat.lt_or_ge (m + 1 + 1) t.size with h | h
              · exact h
              · exfalso
                have e := HEND.out
                have := HZ.out
                rw [show (escP s s.size).size = m + 1 by omega, hc] at e
                exact h34 e
            have HNX := Lib.hid (HPN.out _ HPOS2.out hlast)
            rw [hc] at x1
            have hr := bt_range t ((m + 1 : Nat) : Int)
            rw [hc] at hr
            clear hc
            by_cases hc2 : 92 < c
            · go_wp2
              go_roundg (gk - 1)
              case measure => have := HD2.out; omega
              case rel => exact ⟨m + 1, by go_num, HNX.out, by have := HD2.out; omega, rfl⟩
            · go_wp2
              go_roundg (gk - 1)
              case measure => have := HD2.out; omega
              case rel => exact ⟨m + 1, by go_num, HNX.out, by have := HD2.out; omega, rfl⟩
    · have hks : k = s.size := by omega
      have hsz : t.size = 1 + k + 1 := by have := HPS.out; have := HZ.out; rw [hks] at *; omega
      have hlt1 : 1 + k < t.size := by omega
      have x0 : ∀ h : 1 + k < t.size, ((t[1 + k]'h).toNat : Int) = bt t (1 + k : Nat) := bt_at t (1 + k)
      have hq : bt t ((1 + k : Nat) : Int) = 34 := by
        have e := HEND.out
        rw [← hks, HPS.out] at e
        exact e
      rw [hq] at x0
      have HPL2 := Lib.hid (show t.extract 1 (1 + k) = s by rw [hks]; exact HPL.out (by rw [← hks]; exact HPK.out))
      clear hq hks
      go_wp2
      have e1 : IntKind.i64.wrap (1 + (k : Int) + 1) = 1 + (k : Int) + 1 := IntWalk.i64_in _ (by omega)
      have e2 : (0 : Int) ≤ 1 + (k : Int) + 1 := by omega
      have e3 : 1 + (k : Int) + 1 ≤ (t.size : Int) := by omega
      have e4 : (1 + (k : Int) + 1).toNat = t.size := by omega
      have e5 : (1 : Int) ≤ 1 + (k : Int) := by omega
      have e6 : 1 + (k : Int) ≤ (t.size : Int) := by omega
      have e7 : (1 + (k : Int)).toNat = 1 + k := by omega
      have e8 : (0 : Int) ≤ 1 + (k : Int) := by omega
      go_quiet (fail)
      clear e1 e2 e3 e4 e5 e6 e7 e8
      go_wp2
      go_ret2
      exact ⟨by rw [show t.extract 0 (1 + k + 1) = t by rw [← hsz]; exact HALL.out, HPL2.out]; rfl, below_drewN (Below.refl _ _) _⟩
end Go.Proofs.YtnhnkpgbdpbafaaDoor.L
