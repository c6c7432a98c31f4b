/- FnGjResultIsOf: the law's walk. -/
import Derived.Test.YtloegbicgopmpaaIsOf
import Derived.WalkKit
import Derived.Laws.Closers25b
import Derived.Deep.QuietTactic
import Derived.BigQuiet
import Derived.Outline
import Derived.Lib.Hide
import Derived.Deep.RegionHeld3
import Derived.Laws.ResultCell
import Derived.Test.YtloegbicgopmpaaWWords
namespace Go.Proofs.Ytloegbicgopmpaa.IsOf
open Go.RowKit Go.Proofs.YtloegbicgopmpaaW.PrintWords
set_option linter.unusedVariables false
attribute [local go_sem] store_float
theorem cellsA {v0 v1 v2 v3 v4 : Value} {t : TypeId} {w w1 : World} (hb : Below (w.alloc (.cells #[v0, v1, v2, v3, v4] t)).heap.size (w.alloc (.cells #[v0, v1, v2, v3, v4] t)) w1) :
    (w1.cell? ⟨w.heap.size, 0, none⟩ = some v0 ∧ w1.cell? ⟨w.heap.size, 1, none⟩ = some v1 ∧ w1.cell? ⟨w.heap.size, 2, none⟩ = some v2 ∧ w1.cell? ⟨w.heap.size, 3, none⟩ = some v3 ∧ w1.cell? ⟨w.heap.size, 4, none⟩ = some v4) ∧ w.heap.size < w1.heap.size :=
  cells5 ⟨by simp, by simp, by simp, by simp, by simp⟩ (by simp) hb

theorem nil_iff (s : ByteArray) : s.toList = [] ↔ s.size = 0 := by
  rw [toList_nil_iff_emptyBytes]
  constructor
  · rintro rfl; rfl
  · intro h
    apply ByteArray.ext
    exact Array.eq_empty_of_size_eq_zero h

set_option maxHeartbeats 4000000 in
theorem law_of {a b c : Bool} (k : Int) (raw str : ByteArray) (n : Nat) (e : Bool) (w : World) (h1 : raw.size ≤ 9223372036854775807) (h2 : str.size ≤ 9223372036854775807) (hf : fitsB raw str = true) (ha : firstB k raw 123 = a) (hb : firstB k raw 91 = b) (hc : truthB k = c)
    (hx : (k = 5 ∧ 0 < raw.size ∧ bt raw 0 = 123 ∧ a = true ∧ b = false ∧ c = false) ∨ (k = 5 ∧ 0 < raw.size ∧ bt raw 0 = 91 ∧ a = false ∧ b = true ∧ c = false) ∨ (k = 5 ∧ 0 < raw.size ∧ ¬ bt raw 0 = 123 ∧ ¬ bt raw 0 = 91 ∧ a = false ∧ b = false ∧ c = false) ∨
      (k = 5 ∧ ¬ 0 < raw.size ∧ a = false ∧ b = false ∧ c = false) ∨ (k = 1 ∧ a = false ∧ b = false ∧ c = true) ∨ (k = 4 ∧ a = false ∧ b = false ∧ c = true) ∨ (¬ k = 5 ∧ ¬ k = 1 ∧ ¬ k = 4 ∧ a = false ∧ b = false ∧ c = false)) :
    Calls Try.prog 3 #[.agg #[.int .i64 k, .string raw, .string str, .float .f64 n, .bool e]] w fun en w' => en = .returned (.bool true) ∧ Below w.heap.size w w' := by
  have F := Lib.hid hf
  have HA := Lib.hid ha
  have HB := Lib.hid hb
  have HC := Lib.hid hc
  clear hf ha hb hc
  have hr : ∀ h : 0 < raw.size, ((raw[0]'h).toNat : Int) = bt raw 0 := bt_at raw 0
  rcases hx with ⟨rfl, hz, hy, rfl, rfl, rfl⟩ | ⟨rfl, hz, hy, rfl, rfl, rfl⟩ | ⟨rfl, hz, hy, hy2, rfl, rfl, rfl⟩ | ⟨rfl, hz, rfl, rfl, rfl⟩ | ⟨rfl, rfl, rfl, rfl⟩ | ⟨rfl, rfl, rfl, rfl⟩ | ⟨hk, hk1, hk4, rfl, rfl, rfl⟩
  all_goals
    try have hE : ¬ raw.toList = [] := by rw [nil_iff]; omega
    try have hE : raw.toList = [] := by rw [nil_iff]; omega
    try have hE2 : raw.toList.isEmpty = false := by simpa using hE
    go_enter Try.func3, Try.ntmps3
    go_wp2_with (first
      | (go_at_call 10; refine (fits_of _ raw str F.out _ _ _ h1 h2).mono ?_; rintro en w1 ⟨rfl, hb1⟩
         obtain ⟨⟨p0, p1, p2, p3, p4⟩, hg1⟩ := cellsA hb1)
      | (go_at_call 11; refine (is_of _ raw str n e HA.out HB.out HC.out _ h1).mono ?_; rintro en w2 ⟨rfl, hb2⟩
         obtain ⟨⟨q0, q1, q2, q3, q4⟩, hg2⟩ := cells5 ⟨p0, p1, p2, p3, p4⟩ hg1 hb2))
    go_ret
    have hA : Below w.heap.size w w1 := below_then (below_alloc (Below.refl _ _) _) (by simp) hb1
    have hA2 : Below w.heap.size w w2 := below_then hA hA.size hb2
    clear hb1 hb2 hA
    clear F HA HB HC
    exact ⟨by simp_all, hA2⟩

theorem law_no (k : Int) (raw str : ByteArray) (n : Nat) (e : Bool) (w : World) (h1 : raw.size ≤ 9223372036854775807) (h2 : str.size ≤ 9223372036854775807) (hf : fitsB raw str = false) :
    Calls Try.prog 3 #[.agg #[.int .i64 k, .string raw, .string str, .float .f64 n, .bool e]] w fun en w' => en = .returned (.bool true) ∧ Below w.heap.size w w' := by
  have F := Lib.hid hf
  clear hf
  go_enter Try.func3, Try.ntmps3
  go_wp2_with (first
    | (go_at_call 10; refine (fits_of _ raw str F.out _ _ _ h1 h2).mono ?_; rintro en w1 ⟨rfl, hb1⟩))
  go_ret
  exact ⟨by simp, below_then (below_alloc (Below.refl _ _) _) (by simp) hb1⟩

theorem law (k : Int) (raw str : ByteArray) (n : Nat) (e : Bool) (w : World) (h1 : raw.size ≤ 9223372036854775807) (h2 : str.size ≤ 9223372036854775807) :
    Calls Try.prog 3 #[.agg #[.int .i64 k, .string raw, .string str, .float .f64 n, .bool e]] w fun en w' => en = .returned (.bool true) ∧ Below w.heap.size w w' := by
  cases hf : fitsB raw str with
  | false => exact law_no k raw str n e w h1 h2 hf
  | true =>
    refine law_of k raw str n e w h1 h2 hf rfl rfl rfl ?_
    by_cases c5 : k = 5
    · subst c5
      by_cases c0 : 0 < raw.size
      · by_cases ca : bt raw 0 = 123
        · simp [firstB, truthB, c0, ca]
        · by_cases cb : bt raw 0 = 91
          · simp [firstB, truthB, c0, cb]
          · simp [firstB, truthB, c0, ca, cb]
      · simp [firstB, truthB, c0]
    · by_cases c1 : k = 1
      · subst c1; simp [firstB, truthB]
      · by_cases c4 : k = 4
        · subst c4; simp [firstB, truthB]
        · simp [firstB, truthB, c5, c1, c4]

end Go.Proofs.Ytloegbicgopmpaa.IsOf
