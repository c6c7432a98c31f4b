/- The walks of the reference's Index and Bracket, of jpIndex and zzFits1. -/
import Derived.Test.YtkdkdhcjpgmjdaaGreatDoorJpFind
namespace Go.Proofs.YtkdkdhcjpgmjdaaGreatDoor.Jp
open Go.RowKit L
set_option linter.unusedVariables false
set_option linter.unusedSimpArgs false

def decI (t : ByteArray) : Nat → Option Nat
  | 0 => some 0
  | n + 1 => if isDigit (bt t (n : Nat)) = true then (decI t n).map fun m => m * 10 + (bt t (n : Nat) - 48).toNat else none
def idxV (t : ByteArray) : Option Nat := if t.size = 0 ∨ (1 < t.size ∧ bt t 0 = 48) then none else decI t t.size
theorem decI_none {t : ByteArray} : ∀ {d i : Nat}, decI t i = none → decI t (i + d) = none
  | 0, i, h => h
  | d + 1, i, h => by
    have := decI_none (d := d) h
    show (if isDigit (bt t ((i + d : Nat) : Int)) = true then (decI t (i + d)).map _ else none) = none
    rw [this]
    split <;> rfl
/-- An index, cut off above. -/
def IdxIs (m : Nat) (v : Int) : Prop := 0 ≤ v ∧ (v = (m : Int) ∨ (288230376151711744 ≤ (m : Int) ∧ 288230376151711744 ≤ v))
def OptPost (o : Option Nat) (w : World) (e : Ending) (w' : World) : Prop := w = w' ∧ ((o = none ∧ e = .returned (.tuple #[.int .i64 0, .bool false])) ∨ ∃ m v, o = some m ∧ e = .returned (.tuple #[.int .i64 v, .bool true]) ∧ IdxIs m v)
theorem OptPost.no {o : Option Nat} {w : World} {e : Ending} (h : o = none) (he : e = .returned (.tuple #[.int .i64 0, .bool false])) : OptPost o w e w := ⟨rfl, .inl ⟨h, he⟩⟩
theorem OptPost.yes {o : Option Nat} {w : World} {e : Ending} {m : Nat} {v : Int} (h : o = some m) (he : e = .returned (.tuple #[.int .i64 v, .bool true])) (hv : IdxIs m v) : OptPost o w e w := ⟨rfl, .inr ⟨m, v, h, he, hv⟩⟩
/-- The running number. -/
def RunIs (m : Nat) (v : Int) : Prop := 0 ≤ v ∧ v ≤ 4611686018427387904 ∧ (v = (m : Int) ∨ (288230376151711744 ≤ (m : Int) ∧ 288230376151711744 ≤ v))
theorem RunIs.low {m : Nat} {v c : Int} (h : RunIs m v) (hv : v < 288230376151711744) (h0 : 48 ≤ c) (h1 : c ≤ 57) : RunIs (m * 10 + (c - 48).toNat) (v * 10 + (c - 48)) := by
  unfold RunIs at h ⊢
  omega
theorem RunIs.high {m : Nat} {v c : Int} (h : RunIs m v) (hv : ¬ v < 288230376151711744) : RunIs (m * 10 + (c - 48).toNat) 4611686018427387904 := by
  unfold RunIs at h ⊢
  omega
set_option maxRecDepth 100000 in
set_option maxHeartbeats 4000000 in
theorem indexW (t : ByteArray) (w : World) (hs : t.size ≤ 2147483648) : Calls Tryz.prog 64 #[.string t] w (OptPost (idxV t) w) := by
  by_cases h0 : t.size = 0
  · have hl : t.toList = [] := (nil_iff t).2 h0
    have hl2 : t.toList.isEmpty = true := by rw [hl]; rfl
    have hl3 : (t.toList == []) = true := by rw [hl]; rfl
    have hI : idxV t = none := by unfold idxV; rw [if_pos (.inl h0)]
    have HI := Lib.hid hI
    clear hI hl
    go_enter Tryz.func64, Tryz.ntmps64
    go_wp2
    go_ret2
    exact OptPost.no HI.out rfl
  have hne : ¬ t.toList = [] := fun e => h0 ((nil_iff t).1 e)
  have hl2 : t.toList.isEmpty = false := by cases h : t.toList with | nil => exact absurd h hne | cons a b => rfl
  have hl3 : (t.toList == []) = false := by cases h : t.toList with | nil => exact absurd h hne | cons a b => rfl
  have x0 : ∀ h : 0 < t.size, ((t[0]'h).toNat : Int) = bt t (0 : Nat) := bt_at t 0
  have h00 : 0 < t.size := by omega
  by_cases h48 : 1 < t.size ∧ bt t 0 = 48
  · have hI : idxV t = none := by unfold idxV; rw [if_pos (.inr h48)]
    have HI := Lib.hid hI
    obtain ⟨h1, h48⟩ := h48
    rw [show bt t ((0 : Nat) : Int) = 48 from h48] at x0
    clear hI h48
    go_enter Tryz.func64, Tryz.ntmps64
    go_wp2
    go_ret2
    exact OptPost.no HI.out rfl
  have hI : idxV t = decI t t.size := by unfold idxV; rw [if_neg (by omega)]
  rw [hI]
  obtain ⟨c0, hc0⟩ : ∃ c, bt t ((0 : Nat) : Int) = c := ⟨_, rfl⟩
  rw [hc0] at x0
  have h48' : ¬ (1 < t.size ∧ c0 = 48) := by rw [← hc0]; exact h48
  have hr0 := bt_range t ((0 : Nat) : Int)
  rw [hc0] at hr0
  clear hI hc0 h48
  by_cases hz1 : 1 < t.size
  case pos =>
    have hc48 : ¬ c0 = 48 := fun e => h48' ⟨hz1, e⟩
    have hc48b : (c0 == 48) = false := beq_eq_false_iff_ne.2 hc48
    clear h48'
    go_enter Tryz.func64, Tryz.ntmps64
    go_wp2
    go_loopg [4, 5] t.size (fun d v4 v5 wx => ∃ (i m : Nat) (v : Int), v4 = .int .i64 v ∧ v5 = .int .i64 (i : Int) ∧ i ≤ t.size ∧ t.size - i ≤ d ∧ decI t i = some m ∧ RunIs m v ∧ w = wx)
    case atStart => exact ⟨0, 0, 0, rfl, rfl, by omega, by omega, rfl, ⟨by omega, by omega, .inl rfl⟩, rfl⟩
    case round =>
      obtain ⟨i, m, v, rfl, rfl, hi, hd, hdec, hrun, rfl⟩ := hrel
      have HD := Lib.hid hd
      have HDEC := Lib.hid hdec
      have HRUN := Lib.hid hrun
      obtain ⟨v0, v1, -⟩ := hrun
      clear hd hdec
      by_cases hlt : i < t.size
      · have x2 : ∀ h : i < t.size, ((t[i]'h).toNat : Int) = bt t i := bt_at t i
        have hr := bt_range t (i : Nat)
        obtain ⟨c, hc⟩ : ∃ c, bt t (i : Nat) = c := ⟨_, rfl⟩
        rw [hc] at x2 hr
        have HC := Lib.hid hc
        clear hc
        by_cases hd1 : c < 48
        · have HN := Lib.hid (show decI t t.size = none by
            have h1 : decI t (i + 1) = none := by
              show (if isDigit (bt t (i : Nat)) = true then (decI t i).map _ else none) = none
              rw [HC.out, if_neg (by unfold isDigit; simp; omega)]
            have := decI_none (d := t.size - (i + 1)) h1
            rwa [show i + 1 + (t.size - (i + 1)) = t.size by omega] at this)
          go_wp2
          go_ret2
          exact OptPost.no HN.out rfl
        · by_cases hd2 : 57 < c
          · have HN := Lib.hid (show decI t t.size = none by
              have h1 : decI t (i + 1) = none := by
                show (if isDigit (bt t (i : Nat)) = true then (decI t i).map _ else none) = none
                rw [HC.out, if_neg (by unfold isDigit; simp; omega)]
              have := decI_none (d := t.size - (i + 1)) h1
              rwa [show i + 1 + (t.size - (i + 1)) = t.size by omega] at this)
            go_wp2
            go_ret2
            exact OptPost.no HN.out rfl
          · have HY := Lib.hid (show decI t (i + 1) = some (m * 10 + (c - 48).toNat) by
              show (if isDigit (bt t (i : Nat)) = true then (decI t i).map _ else none) = _
              rw [HC.out, if_pos (by unfold isDigit; simp; omega), HDEC.out]; rfl)
            by_cases hv : v < 288230376151711744
            · have HR2 := Lib.hid (HRUN.out.low hv (by omega) (by omega) (c := c))
              go_wp2
              go_roundg (gk - 1)
              case measure => have := HD.out; omega
              case rel => exact ⟨i + 1, m * 10 + (c - 48).toNat, v * 10 + (c - 48), rfl, by go_num, by omega, by have := HD.out; omega, HY.out, HR2.out, rfl⟩
            · have HR2 := Lib.hid (HRUN.out.high hv (c := c))
              go_wp2
              go_roundg (gk - 1)
              case measure => have := HD.out; omega
              case rel => exact ⟨i + 1, m * 10 + (c - 48).toNat, 4611686018427387904, rfl, by go_num, by omega, by have := HD.out; omega, HY.out, HR2.out, rfl⟩
      · have HN := Lib.hid (show decI t t.size = some m by rw [← HDEC.out, show i = t.size by omega])
        go_wp2
        go_ret2
        exact OptPost.yes HN.out rfl ⟨HRUN.out.1, HRUN.out.2.2⟩
  case neg =>
    clear h48'
    go_enter Tryz.func64, Tryz.ntmps64
    go_wp2
    go_loopg [4, 5] t.size (fun d v4 v5 wx => ∃ (i m : Nat) (v : Int), v4 = .int .i64 v ∧ v5 = .int .i64 (i : Int) ∧ i ≤ t.size ∧ t.size - i ≤ d ∧ decI t i = some m ∧ RunIs m v ∧ w = wx)
    case atStart => exact ⟨0, 0, 0, rfl, rfl, by omega, by omega, rfl, ⟨by omega, by omega, .inl rfl⟩, rfl⟩
    case round =>
      obtain ⟨i, m, v, rfl, rfl, hi, hd, hdec, hrun, rfl⟩ := hrel
      have HD := Lib.hid hd
      have HDEC := Lib.hid hdec
      have HRUN := Lib.hid hrun
      obtain ⟨v0, v1, -⟩ := hrun
      clear hd hdec
      by_cases hlt : i < t.size
      · have x2 : ∀ h : i < t.size, ((t[i]'h).toNat : Int) = bt t i := bt_at t i
        have hr := bt_range t (i : Nat)
        obtain ⟨c, hc⟩ : ∃ c, bt t (i : Nat) = c := ⟨_, rfl⟩
        rw [hc] at x2 hr
        have HC := Lib.hid hc
        clear hc
        by_cases hd1 : c < 48
        · have HN := Lib.hid (show decI t t.size = none by
            have h1 : decI t (i + 1) = none := by
              show (if isDigit (bt t (i : Nat)) = true then (decI t i).map _ else none) = none
              rw [HC.out, if_neg (by unfold isDigit; simp; omega)]
            have := decI_none (d := t.size - (i + 1)) h1
            rwa [show i + 1 + (t.size - (i + 1)) = t.size by omega] at this)
          go_wp2
          go_ret2
          exact OptPost.no HN.out rfl
        · by_cases hd2 : 57 < c
          · have HN := Lib.hid (show decI t t.size = none by
              have h1 : decI t (i + 1) = none := by
                show (if isDigit (bt t (i : Nat)) = true then (decI t i).map _ else none) = none
                rw [HC.out, if_neg (by unfold isDigit; simp; omega)]
              have := decI_none (d := t.size - (i + 1)) h1
              rwa [show i + 1 + (t.size - (i + 1)) = t.size by omega] at this)
            go_wp2
            go_ret2
            exact OptPost.no HN.out rfl
          · have HY := Lib.hid (show decI t (i + 1) = some (m * 10 + (c - 48).toNat) by
              show (if isDigit (bt t (i : Nat)) = true then (decI t i).map _ else none) = _
              rw [HC.out, if_pos (by unfold isDigit; simp; omega), HDEC.out]; rfl)
            by_cases hv : v < 288230376151711744
            · have HR2 := Lib.hid (HRUN.out.low hv (by omega) (by omega) (c := c))
              go_wp2
              go_roundg (gk - 1)
              case measure => have := HD.out; omega
              case rel => exact ⟨i + 1, m * 10 + (c - 48).toNat, v * 10 + (c - 48), rfl, by go_num, by omega, by have := HD.out; omega, HY.out, HR2.out, rfl⟩
            · have HR2 := Lib.hid (HRUN.out.high hv (c := c))
              go_wp2
              go_roundg (gk - 1)
              case measure => have := HD.out; omega
              case rel => exact ⟨i + 1, m * 10 + (c - 48).toNat, 4611686018427387904, rfl, by go_num, by omega, by have := HD.out; omega, HY.out, HR2.out, rfl⟩
      · have HN := Lib.hid (show decI t t.size = some m by rw [← HDEC.out, show i = t.size by omega])
        go_wp2
        go_ret2
        exact OptPost.yes HN.out rfl ⟨HRUN.out.1, HRUN.out.2.2⟩
theorem brk_idx (key : ByteArray) : brk key = if 3 ≤ key.size ∧ bt key 0 = 91 ∧ bt key (key.size - 1 : Nat) = 93 then idxV (key.extract 1 (key.size - 1)) else none := by
  unfold brk idxV
  by_cases h : 3 ≤ key.size ∧ bt key 0 = 91 ∧ bt key (key.size - 1 : Nat) = 93
  · obtain ⟨h1, h2, h3⟩ := h
    have hz : (key.extract 1 (key.size - 1)).size = key.size - 2 := by rw [size_ext]; omega
    have hb : ∀ n : Nat, n < key.size - 2 → bt (key.extract 1 (key.size - 1)) (n : Nat) = bt key ((n + 1 : Nat) : Int) := fun n hn => by
      rw [bt_cut (by omega) (by omega)]; congr 1; omega
    have hd : ∀ n : Nat, n ≤ key.size - 2 → idxN key n = decI (key.extract 1 (key.size - 1)) n := by
      intro n
      induction n with
      | zero => intro _; rfl
      | succ n ih =>
        intro hn
        show (if isDigit (bt key ((n + 1 : Nat) : Int)) = true then (idxN key n).map _ else none) = (if isDigit (bt (key.extract 1 (key.size - 1)) (n : Nat)) = true then (decI _ n).map _ else none)
        rw [hb n (by omega), ih (by omega)]
    have hb0 := hb 0 (by omega)
    have hP : 3 ≤ key.size ∧ bt key 0 = 91 ∧ bt key ((key.size - 1 : Nat) : Int) = 93 := ⟨h1, h2, h3⟩
    rw [if_pos hP, hz, hd _ (Nat.le_refl _)]
    clear hP
    by_cases hc : key.size = 3 ∨ bt key 1 ≠ 48
    · have hQ : 3 ≤ key.size ∧ bt key 0 = 91 ∧ bt key ((key.size - 1 : Nat) : Int) = 93 ∧ (key.size = 3 ∨ bt key 1 ≠ 48) := ⟨h1, h2, h3, hc⟩
      rw [if_pos hQ, if_neg]
      rintro (h | ⟨h, h'⟩)
      · omega
      · rcases hc with hc | hc
        · omega
        · exact hc (by rw [show (1 : Int) = ((0 + 1 : Nat) : Int) from rfl, ← hb0]; exact h')
    · have hQ : ¬ (3 ≤ key.size ∧ bt key 0 = 91 ∧ bt key ((key.size - 1 : Nat) : Int) = 93 ∧ (key.size = 3 ∨ bt key 1 ≠ 48)) := fun h => hc h.2.2.2
      rw [if_neg hQ, if_pos]
      right
      have : bt key 1 = 48 := Decidable.byContradiction fun h => hc (.inr h)
      exact ⟨by omega, by rw [show (0 : Int) = ((0 : Nat) : Int) from rfl, hb0]; exact this⟩
  · rw [if_neg h, if_neg fun h' => h ⟨h'.1, h'.2.1, h'.2.2.1⟩]
set_option maxRecDepth 100000 in
set_option maxHeartbeats 4000000 in
theorem bracketW (key : ByteArray) (w : World) (hs : key.size ≤ 2147483648) : Calls Tryz.prog 48 #[.string key] w (OptPost (brk key) w) := by
  have hbi := brk_idx key
  by_cases h3 : key.size < 3
  · have HB := Lib.hid (show brk key = none by rw [hbi, if_neg (by omega)])
    clear hbi
    go_enter Tryz.func48, Tryz.ntmps48
    go_wp2
    go_ret2
    exact OptPost.no HB.out rfl
  have x0 : ∀ h : 0 < key.size, ((key[0]'h).toNat : Int) = bt key (0 : Nat) := bt_at key 0
  have x1 : ∀ h : key.size - 1 < key.size, ((key[key.size - 1]'h).toNat : Int) = bt key (key.size - 1 : Nat) := bt_at key (key.size - 1)
  have hr0 := bt_range key ((0 : Nat) : Int)
  have hr1 := bt_range key ((key.size - 1 : Nat) : Int)
  obtain ⟨c0, hc0⟩ : ∃ c, bt key ((0 : Nat) : Int) = c := ⟨_, rfl⟩
  obtain ⟨c1, hc1⟩ : ∃ c, bt key ((key.size - 1 : Nat) : Int) = c := ⟨_, rfl⟩
  have hbi2 : brk key = if c0 = 91 ∧ c1 = 93 then idxV (key.extract 1 (key.size - 1)) else none := by
    rw [hbi, ← hc0, ← hc1]
    have e : bt key 0 = bt key ((0 : Nat) : Int) := rfl
    rw [e]
    by_cases h : bt key ((0 : Nat) : Int) = 91 ∧ bt key ((key.size - 1 : Nat) : Int) = 93
    · rw [if_pos h, if_pos ⟨by omega, h⟩]
    · rw [if_neg h, if_neg fun h' => h h'.2]
  rw [hc0] at x0 hr0
  rw [hc1] at x1 hr1
  have e1 : ((key.size : Int) - 1).toNat = key.size - 1 := by omega
  have e2 : (0 : Int) ≤ (key.size : Int) - 1 := by omega
  have e3 : (key.size : Int) - 1 < (key.size : Int) := by omega
  have e4 : (key.size : Int) - 1 ≤ (key.size : Int) := by omega
  have e5 : (1 : Int) ≤ (key.size : Int) - 1 := by omega
  have e6 : key.size - 1 < key.size := by omega
  have e7 : 0 < key.size := by omega
  clear hc0 hc1 hbi
  by_cases h91 : c0 = 91
  case neg =>
    have HB := Lib.hid (show brk key = none by rw [hbi2, if_neg (fun h => h91 h.1)])
    have h91b : (c0 != 91) = true := bne_iff_ne.2 h91
    clear hbi2
    go_enter Tryz.func48, Tryz.ntmps48
    go_wp2
    go_ret2
    exact OptPost.no HB.out rfl
  by_cases h93 : c1 = 93
  case neg =>
    have HB := Lib.hid (show brk key = none by rw [hbi2, if_neg (fun h => h93 h.2)])
    have h93b : (c1 != 93) = true := bne_iff_ne.2 h93
    have h91b : (c0 != 91) = false := by rw [h91]; rfl
    clear hbi2
    go_enter Tryz.func48, Tryz.ntmps48
    go_wp2
    go_ret2
    exact OptPost.no HB.out rfl
  have hB : brk key = idxV (key.extract 1 (key.size - 1)) := by rw [hbi2, if_pos ⟨h91, h93⟩]
  have HB := Lib.hid hB
  clear hbi2 hB
  go_enter Tryz.func48, Tryz.ntmps48
  go_wp2_with (first
    | (go_at_call 64; refine (indexW (key.extract 1 (key.size - 1)) _ (by rw [size_ext]; omega)).mono ?_; rintro e w1 ⟨rfl, ⟨hno, rfl⟩ | ⟨m, v, hm, rfl, hv⟩⟩))
  · go_ret2
    exact OptPost.no (HB.out.trans hno) rfl
  · go_ret2
    exact OptPost.yes (HB.out.trans hm) rfl hv
/-- A row of texts. -/
abbrev keysV (ks : List ByteArray) : List Value := ks.map Value.string
theorem keyAt {w : World} {B : Nat → Prop} {A : Option Addr} {n c k : Nat} {ks : List ByteArray} {x : ByteArray} (hR : Row w B 1 A n c (keysV ks)) (hk : ks[k]? = some x) :
    ∃ ad, A = some ad ∧ ad.block < w.heap.size ∧ w.cell? (ad.add k) = some (.string x) := by
  have hn := hR.1
  simp only [keysV, List.length_map, Nat.mul_one] at hn
  have hkl : k < ks.length := (List.getElem?_eq_some_iff.1 hk).1
  obtain ⟨ad, rfl, hB, hlt, hc⟩ := hR.2.2.2 (by omega)
  exact ⟨ad, rfl, hlt, hc k _ (by simp [keysV, hk])⟩
theorem keys_len {w : World} {B : Nat → Prop} {A : Option Addr} {n c : Nat} {ks : List ByteArray} (hR : Row w B 1 A n c (keysV ks)) : n = ks.length ∧ n ≤ 9223372036854775807 := by
  have hn := hR.1
  have h2 := hR.2.1
  have h3 := hR.2.2.1
  simp only [keysV, List.length_map, Nat.mul_one] at hn
  simp only [maxLen] at h3
  omega
/-- Whether a row of texts is short, and short its texts. -/
def FitsPost (n : Nat) (ks : List ByteArray) (w : World) (e : Ending) (w' : World) : Prop := w = w' ∧ ∃ b : Bool, e = .returned (.bool b) ∧ (b = true → n ≤ 2147483647 ∧ ∀ k ∈ ks, k.size ≤ 2147483647)
set_option maxRecDepth 100000 in
set_option maxHeartbeats 4000000 in
theorem fits1W (A : Option Addr) (n c : Nat) (ks : List ByteArray) (B : Nat → Prop) (w : World) (hR : Row w B 1 A n c (keysV ks)) (hk : ∀ k ∈ ks, k.size ≤ 9223372036854775807) :
    Calls Tryz.prog 6 #[.slice A n c] w (FitsPost n ks w) := by
  obtain ⟨hn, hnm⟩ := keys_len hR
  have HR := Lib.hid hR
  have HN := Lib.hid hn
  have HK := Lib.hid hk
  clear hR hn hk
  by_cases hbig : 2147483647 < n
  · go_enter Tryz.func6, Tryz.ntmps6
    go_wp2
    go_ret
    exact ⟨rfl, _, rfl, fun h => by cases h⟩
  go_enter Tryz.func6, Tryz.ntmps6
  go_wp2
  go_loopg [10] n (fun d v10 wx => ∃ k : Nat, v10 = .int .i64 (k : Int) ∧ k ≤ n ∧ n - k ≤ d ∧ (∀ x ∈ ks.take k, x.size ≤ 2147483647) ∧ w = wx)
  case atStart => exact ⟨0, rfl, by omega, by omega, (fun x hx => by cases hx), rfl⟩
  case round =>
    obtain ⟨k, rfl, hk, hd, hall, rfl⟩ := hrel
    have HD := Lib.hid hd
    have HA := Lib.hid hall
    clear hd hall
    by_cases hlt : k < n
    · obtain ⟨x, hx⟩ : ∃ x, ks[k]? = some x := ⟨_, List.getElem?_eq_getElem (by rw [← HN.out]; exact hlt)⟩
      obtain ⟨ad, rfl, hlb, hc⟩ := keyAt HR.out hx
      have hxs := HK.out x (List.mem_of_getElem? hx)
      have HX := Lib.hid hx
      clear hx
      by_cases hxb : 2147483647 < x.size
      · go_wp2
        go_ret
        exact ⟨rfl, _, rfl, fun h => by cases h⟩
      · go_wp2
        go_roundg (gk - 1)
        case measure => have := HD.out; omega
        case rel => exact ⟨k + 1, by go_num, by omega, by have := HD.out; omega, (fun y hy => by
          have hl := (List.getElem?_eq_some_iff.1 HX.out).1
          have e := (List.getElem?_eq_some_iff.1 HX.out).2
          rw [List.take_succ_eq_append_getElem hl, e] at hy
          rcases List.mem_append.1 hy with h | h
          · exact HA.out y h
          · simp only [List.mem_singleton] at h; subst h; omega), rfl⟩
    · have HF := Lib.hid (show ∀ x ∈ ks, x.size ≤ 2147483647 by
        have := HA.out
        rwa [List.take_of_length_le (by rw [← HN.out]; omega)] at this)
      go_wp2
      go_ret
      exact ⟨rfl, _, rfl, fun _ => ⟨by omega, HF.out⟩⟩
end Go.Proofs.YtkdkdhcjpgmjdaaGreatDoor.Jp
