/- The walks of spec's reader, first part: here, take, blanks, digits, number, escape, quoted, word. -/
import Derived.Test.YtkdkdhcjpgmjdaaGreatDoorProg
import Derived.Test.YtkdkdhcjpgmjdaaGreatDoorJson
import Derived.Test.YtkdkdhcjpgmjdaaGreatDoorOwn
import Derived.Deep.QuietTactic
import Derived.BigQuiet
import Derived.Outline
import Derived.Deep.LoopGhost
import Derived.Deep.DeepMust
import Derived.Deep.RegionHeld3
namespace Go.Proofs.YtkdkdhcjpgmjdaaGreatDoor.L
open Go.RowKit
set_option linter.unusedVariables false
set_option linter.unusedSimpArgs false

theorem grown_refl (w : World) (row : Option Nat) : w.grownBy w row := World.grownBy.refl w row
theorem grown_trans {a b c : World} {row : Option Nat} (h : a.grownBy b row) (k : b.grownBy c row) : a.grownBy c row :=
  ⟨k.os.trans h.os, k.tape.trans h.tape, k.output.trans h.output, Nat.le_trans h.size k.size, fun i hi hr => (k.block i (Nat.lt_of_lt_of_le hi h.size) hr).trans (h.block i hi hr)⟩
theorem grown_drewN {a w : World} {row : Option Nat} (h : a.grownBy w row) (n : Nat) : a.grownBy (w.drewN n) row := ⟨h.os, h.tape, h.output, h.size, h.block⟩
theorem grown_drew {a w : World} {row : Option Nat} (h : a.grownBy w row) : a.grownBy w.drew row := ⟨h.os, h.tape, h.output, h.size, h.block⟩
theorem grown_alloc {a w : World} {row : Option Nat} (h : a.grownBy w row) (o : Obj) : a.grownBy (w.alloc o) row :=
  ⟨h.os, h.tape, h.output, Nat.le_trans h.size (by simp), fun i hi hne => (Below.heap_alloc w o i (Nat.lt_of_lt_of_le hi h.size)).trans (h.block i hi hne)⟩
theorem grown_set {a w : World} {g : Nat} (h : a.grownBy w (some g)) {p : Addr} (hp : p.block = g ∨ a.heap.size ≤ p.block) (u : Value) : a.grownBy (w.setCell p u) (some g) :=
  ⟨h.os, h.tape, h.output, by simpa [World.setCell] using h.size, fun i hi hne => (Below.heap_setCell w p u i (by
    rintro rfl
    rcases hp with hp | hp
    · exact hne (by rw [hp])
    · omega)).trans (h.block i hi hne)⟩
theorem grown_new {a w w' : World} {row row' : Option Nat} (h : a.grownBy w row) (k : w.grownBy w' row') (hr : ∀ j, row' = some j → row = some j ∨ a.heap.size ≤ j) : a.grownBy w' row :=
  ⟨k.os.trans h.os, k.tape.trans h.tape, k.output.trans h.output, Nat.le_trans h.size k.size, fun i hi hne => (k.block i (Nat.lt_of_lt_of_le hi h.size) (fun e => by
    rcases hr i e.symm with h' | h'
    · exact hne h'.symm
    · omega)).trans (h.block i hi hne)⟩
theorem below_of_grown {a w : World} (h : a.grownBy w none) : Below a.heap.size a w := ⟨h.os, h.tape, h.output, h.size, fun i hi => h.block i hi (by simp)⟩
theorem grown_of_below {a w : World} (h : Below a.heap.size a w) (row : Option Nat) : a.grownBy w row := ⟨h.os, h.tape, h.output, h.size, fun i hi _ => h.block i hi⟩

/-- The reader at block g stands at byte i of s. -/
def RdS (w : World) (g : Nat) (s : ByteArray) (i : Nat) : Prop := w.heap[g]? = some (.cells #[.string s, .int .i64 (i : Int)] 86 (0, 0))
section
variable {w w' : World} {g : Nat} {s : ByteArray} {i : Nat}
theorem RdS.lt (h : RdS w g s i) : g < w.heap.size := (Array.getElem?_eq_some_iff.1 h).1
theorem RdS.c0 (h : RdS w g s i) : w.cell? ⟨g, 0, none⟩ = some (.string s) := cell_of_row w g 0 _ _ _ h
theorem RdS.c1 (h : RdS w g s i) : w.cell? ⟨g, 1, none⟩ = some (.int .i64 (i : Int)) := cell_of_row w g 1 _ _ _ h
theorem RdS.f1 (h : RdS w g s i) : w.frozen? ⟨g, 1, none⟩ = false := by unfold RdS at h; simp [World.frozen?, h]
theorem RdS.drewN (h : RdS w g s i) (n : Nat) : RdS (w.drewN n) g s i := h
theorem RdS.drew (h : RdS w g s i) : RdS w.drew g s i := h
theorem RdS.alloc (h : RdS w g s i) (o : Obj) : RdS (w.alloc o) g s i := (Below.heap_alloc w o g h.lt).trans h
theorem RdS.set (h : RdS w g s i) {x : Int} {j : Nat} (hx : x = (j : Int)) : RdS (w.setCell ⟨g, 1, none⟩ (.int .i64 x)) g s j := by
  subst hx
  unfold RdS at h ⊢
  simp [World.setCell, Array.getElem?_modify, h]
theorem RdS.far (h : RdS w g s i) {p : Addr} (hp : p.block ≠ g) (u : Value) : RdS (w.setCell p u) g s i := (Below.heap_setCell w p u g (fun e => hp e.symm)).trans h
theorem RdS.grown {row : Option Nat} (h : RdS w g s i) (hb : w.grownBy w' row) (hg : some g ≠ row) : RdS w' g s i := (hb.block g h.lt hg).trans h
end
/-- The reader has been moved; nothing else that was there has turned. -/
structure Mv (w w' : World) (g : Nat) (s : ByteArray) (i : Nat) : Prop where
  rd : RdS w' g s i
  gr : w.grownBy w' (some g)
theorem Mv.trans {w w1 w2 : World} {g : Nat} {s : ByteArray} {i j : Nat} (h : Mv w w1 g s i) (k : Mv w1 w2 g s j) : Mv w w2 g s j := ⟨k.rd, grown_trans h.gr k.gr⟩
theorem Mv.refl {w : World} {g : Nat} {s : ByteArray} {i : Nat} (h : RdS w g s i) : Mv w w g s i := ⟨h, grown_refl _ _⟩
theorem Mv.drewN {w w1 : World} {g : Nat} {s : ByteArray} {i : Nat} (h : Mv w w1 g s i) (n : Nat) : Mv w (w1.drewN n) g s i := ⟨h.rd.drewN n, grown_drewN h.gr n⟩
theorem Mv.bump {w w1 : World} {g : Nat} {s : ByteArray} {i : Nat} (h : Mv w w1 g s i) {x : Int} {j : Nat} (hx : x = (j : Int)) : Mv w (w1.setCell ⟨g, 1, none⟩ (.int .i64 x)) g s j := ⟨h.rd.set hx, grown_set h.gr (.inl rfl) _⟩

theorem Mv.next {w w1 : World} {g : Nat} {s : ByteArray} {i : Nat} (h : Mv w w1 g s i) : Mv w (w1.setCell ⟨g, 1, none⟩ (.int .i64 ((i : Int) + 1))) g s (i + 1) := h.bump (by omega)

abbrev rp (g : Nat) : Value := .pointer (some ⟨g, 0, none⟩)

theorem here (g : Nat) (s : ByteArray) (i : Nat) (w : World) (h : RdS w g s i) (hs : s.size ≤ 140737488351232) : Calls Tryz.prog 57 #[rp g] w fun e w' => e = .returned (.int .u8 (bt s i)) ∧ ∃ n, w' = w.drewN n := by
  have c0 := h.c0
  have c1 := h.c1
  by_cases hlt : i < s.size
  · have hx : ∀ h : i < s.size, ((s[i]'h).toNat : Int) = bt s i := bt_at s i
    clear h
    go_enter Tryz.func57, Tryz.ntmps57
    go_wp2
    go_quiet (fail)
    go_wp2
    go_quiet (fail)
    go_wp2
    go_ret
    exact ⟨by simp, _, World.drewN_drewN ..⟩
  · have e0 := bt_out s i (by omega)
    rw [e0]
    clear h e0
    go_enter Tryz.func57, Tryz.ntmps57
    go_wp2
    go_quiet (fail)
    go_wp2
    go_ret
    exact ⟨by simp, _, rfl⟩

theorem take (g : Nat) (s : ByteArray) (i : Nat) (c : Int) (w : World) (h : RdS w g s i) (hs : s.size ≤ 140737488351232) (hc : 0 < c) :
    Calls Tryz.prog 82 #[rp g, .int .u8 c] w fun e w' => e = .returned (.bool (decide (bt s i = c))) ∧ Mv w w' g s (if bt s i = c then i + 1 else i) := by
  have c0 := h.c0
  have c1 := h.c1
  have f1 := h.f1
  by_cases hlt : i < s.size
  · have hx : ∀ h : i < s.size, ((s[i]'h).toNat : Int) = bt s i := bt_at s i
    by_cases hq : bt s i = c
    · rw [if_pos hq, decide_eq_true hq]
      have HH := Lib.hid h
      subst hq
      clear h
      go_enter Tryz.func82, Tryz.ntmps82
      go_wp2
      go_quiet (fail)
      go_wp2
      go_ret
      exact ⟨by simp, ((Mv.refl HH.out).drewN _).bump (by omega)⟩
    · rw [if_neg hq, decide_eq_false hq]
      have HH := Lib.hid h
      clear h
      go_enter Tryz.func82, Tryz.ntmps82
      go_wp2
      go_quiet (fail)
      go_wp2
      go_ret
      exact ⟨by simp, (Mv.refl HH.out).drewN _⟩
  · have e0 := bt_out s i (by omega)
    have hq : ¬ bt s i = c := by omega
    rw [if_neg hq, decide_eq_false hq]
    have HH := Lib.hid h
    have hd : decide ((i : Int) < (s.size : Int)) = false := by simp; omega
    clear h e0 hq
    go_enter Tryz.func82, Tryz.ntmps82
    go_wp2
    go_quiet (fail)
    go_wp2
    go_ret
    exact ⟨by simp, (Mv.refl HH.out).drewN _⟩

theorem blank (c : Int) (h0 : 0 ≤ c) (h1 : c ≤ 255) (w : World) : Calls Tryz.prog 56 #[.int .u8 c] w fun e w' => e = .returned (.bool (isBlank c)) ∧ w' = w := by
  by_cases a : c = 32
  · subst a
    go_enter Tryz.func56, Tryz.ntmps56
    go_wp2
    go_ret
    exact ⟨rfl, rfl⟩
  · by_cases b : c = 9
    · subst b
      go_enter Tryz.func56, Tryz.ntmps56
      go_wp2
      go_ret
      exact ⟨rfl, rfl⟩
    · by_cases d : c = 10
      · subst d
        go_enter Tryz.func56, Tryz.ntmps56
        go_wp2
        go_ret
        exact ⟨rfl, rfl⟩
      · by_cases e : c = 13
        · subst e
          go_enter Tryz.func56, Tryz.ntmps56
          go_wp2
          go_ret
          exact ⟨rfl, rfl⟩
        · go_enter Tryz.func56, Tryz.ntmps56
          go_wp2
          go_ret
          exact ⟨by simp [isBlank, a, b, d, e], rfl⟩
theorem blank_of {b : Bool} (c : Int) (h0 : 0 ≤ c) (h1 : c ≤ 255) (hb : isBlank c = b) (w : World) : Calls Tryz.prog 56 #[.int .u8 c] w fun e w' => e = .returned (.bool b) ∧ w' = w := by
  subst hb; exact blank c h0 h1 w

theorem blanks (g : Nat) (s : ByteArray) (i0 : Nat) (w : World) (h : RdS w g s i0) (hs : s.size ≤ 140737488351232) (hi : i0 ≤ s.size) :
    Calls Tryz.prog 40 #[rp g] w fun e w' => e = .returned (.tuple #[]) ∧ Mv w w' g s (skip isBlank s i0) := by
  go_enter Tryz.func40, Tryz.ntmps40
  go_wp2
  go_loopg [] (s.size - i0) (fun d wr => ∃ i : Nat, Mv w wr g s i ∧ skip isBlank s i = skip isBlank s i0 ∧ i ≤ s.size ∧ d = s.size - i)
  case atStart => exact ⟨i0, Mv.refl h, rfl, hi, rfl⟩
  case round =>
    obtain ⟨i, hM, hk, hil, hd⟩ := hrel
    have HK := Lib.hid hk
    have HD := Lib.hid hd
    have HM := Lib.hid hM
    clear hk hd h hM
    have c0 := HM.out.rd.c0
    have c1 := HM.out.rd.c1
    have f1 := HM.out.rd.f1
    by_cases hlt : i < s.size
    · have hx : ∀ h : i < s.size, ((s[i]'h).toNat : Int) = bt s i := bt_at s i
      have hr := bt_range s i
      by_cases hb : isBlank (bt s i) = true
      · have HB := Lib.hid hb
        clear hb
        go_wp2
        go_quiet ((go_at_call 56; exact Calls.quiet_of_same (blank_of (b := true) _ (by omega) (by omega) HB.out _)))
        go_wp2
        go_roundg (s.size - (i + 1))
        case measure => have := HD.out; omega
        case rel => exact ⟨i + 1, (HM.out.drewN _).bump (by omega), (skip_yes hlt HB.out).symm.trans HK.out, by omega, rfl⟩
      · have hb' : isBlank (bt s i) = false := by simpa using hb
        have HB := Lib.hid hb'
        clear hb hb'
        go_wp2
        go_quiet ((go_at_call 56; exact Calls.quiet_of_same (blank_of (b := false) _ (by omega) (by omega) HB.out _)))
        go_wp2
        go_end0
        refine ⟨rfl, ?_⟩
        rw [← HK.out, skip_no (by rw [HB.out]; simp)]
        exact HM.out.drewN _
    · have hd : decide ((i : Int) < (s.size : Int)) = false := by simp; omega
      go_wp2
      go_quiet (fail)
      go_wp2
      go_end0
      refine ⟨rfl, ?_⟩
      rw [← HK.out, skip_no (by omega)]
      exact HM.out.drewN _

theorem digits (g : Nat) (s : ByteArray) (i0 : Nat) (w : World) (h : RdS w g s i0) (hs : s.size ≤ 140737488351232) (hi : i0 ≤ s.size) :
    Calls Tryz.prog 84 #[rp g] w fun e w' => e = .returned (.bool (decide (i0 < skip isDigit s i0))) ∧ Mv w w' g s (skip isDigit s i0) := by
  have c0 := h.c0
  have c1 := h.c1
  have HH := Lib.hid h
  clear h
  go_enter Tryz.func84, Tryz.ntmps84
  go_wp2_with (first | (go_at_call 57; go_must (refine (here g s i0 _ HH.out hs).mono ?_); rintro e w' ⟨rfl, n1, rfl⟩))
  go_loopg [4] (s.size - i0) (fun d v4 wr => ∃ i : Nat, v4 = .int .u8 (bt s i) ∧ Mv w wr g s i ∧ skip isDigit s i = skip isDigit s i0 ∧ i0 ≤ i ∧ i ≤ s.size ∧ d = s.size - i)
  case atStart => exact ⟨i0, rfl, (Mv.refl HH.out).drewN _, rfl, Nat.le_refl _, hi, rfl⟩
  case round =>
    obtain ⟨i, rfl, hM, hk, hi0, hil, hd⟩ := hrel
    have HK := Lib.hid hk
    have HD := Lib.hid hd
    have HM := Lib.hid hM
    clear hk hd hM c0 c1
    have c0 := HM.out.rd.c0
    have c1 := HM.out.rd.c1
    have f1 := HM.out.rd.f1
    have hr := bt_range s i
    generalize hc : bt s i = c at *
    have HC := Lib.hid hc
    clear hc
    by_cases h48 : 48 ≤ c
    · by_cases h57 : c ≤ 57
      · have hlt : i < s.size := lt_of_bt (by have := HC.out; omega)
        have HS := Lib.hid (skip_yes (p := isDigit) hlt (by rw [HC.out]; simp [isDigit, h48, h57]))
        go_wp2_with (first | (go_at_call 57; go_must (refine (here g s (i + 1) _ (HM.out.rd.set (by omega)) hs).mono ?_); rintro e w' ⟨rfl, n1, rfl⟩))
        go_roundg (s.size - (i + 1))
        case measure => have := HD.out; omega
        case rel => exact ⟨i + 1, rfl, (HM.out.bump (by omega)).drewN _, HS.out.symm.trans HK.out, by omega, by omega, rfl⟩
      · have HS := Lib.hid (skip_no (p := isDigit) (s := s) (i := i) (by rw [HC.out]; simp [isDigit, h57]))
        go_wp2
        go_ret
        rw [← HK.out, HS.out]
        exact ⟨ret_bool (by simp), HM.out⟩
    · have HS := Lib.hid (skip_no (p := isDigit) (s := s) (i := i) (by rw [HC.out]; simp [isDigit, h48]))
      go_wp2
      go_ret
      rw [← HK.out, HS.out]
      exact ⟨ret_bool (by simp), HM.out⟩

/-- What a function answers that goes over something if it stands here. -/
def OptPost (w : World) (g : Nat) (s : ByteArray) (r : Option Nat) (e : Ending) (w' : World) : Prop :=
  ∃ j, j ≤ s.size ∧ Mv w w' g s j ∧ e = .returned (.bool r.isSome) ∧ ∀ k, r = some k → j = k
theorem OptPost.yes {w w' : World} {g : Nat} {s : ByteArray} {r : Option Nat} {e : Ending} {j : Nat} (hM : Mv w w' g s j) (hr : r = some j) (hj : j ≤ s.size) (he : e = .returned (.bool true)) : OptPost w g s r e w' :=
  ⟨j, hj, hM, by rw [he, hr]; rfl, fun k hk => by rw [hr] at hk; injection hk⟩
theorem OptPost.no {w w' : World} {g : Nat} {s : ByteArray} {r : Option Nat} {e : Ending} {j : Nat} (hM : Mv w w' g s j) (hr : r = none) (hj : j ≤ s.size) (he : e = .returned (.bool false)) : OptPost w g s r e w' :=
  ⟨j, hj, hM, by rw [he, hr]; rfl, fun k hk => by rw [hr] at hk; cases hk⟩

theorem take_top {s : ByteArray} {i : Nat} {c : Int} (hc : 0 < c) (hi : i ≤ s.size) : (if bt s i = c then i + 1 else i) ≤ s.size := by
  split
  · have := lt_of_bt (s := s) (i := i) (by omega)
    omega
  · exact hi

/-- The exponent's part, and the end. -/
theorem exp_eq {s : ByteArray} {i : Nat} (h : bt s i = 101 ∨ bt s i = 69) : numExp s i = digitsAt s (numSign s (i + 1)) := by unfold numExp; rw [if_pos h]
theorem digits_some {s : ByteArray} {i : Nat} (h : i < skip isDigit s i) : digitsAt s i = some (skip isDigit s i) := by unfold digitsAt; rw [if_pos h]
theorem digits_none {s : ByteArray} {i : Nat} (h : ¬ i < skip isDigit s i) : digitsAt s i = none := by unfold digitsAt; rw [if_neg h]
end Go.Proofs.YtkdkdhcjpgmjdaaGreatDoor.L
