/- FnGjResultLessOf: the law's walk. -/
import Derived.Test.YtloegbicgopmpaaLessOf
namespace Go.Proofs.Ytloegbicgopmpaa.IsOf
open Go.RowKit Go.Proofs.YtloegbicgopmpaaW.PrintWords
set_option linter.unusedVariables false
attribute [local go_sem] store_float

theorem cells10 {v0 v1 v2 v3 v4 u0 u1 u2 u3 u4 : Value} {t : TypeId} {w w1 : World} (hb : Below ((w.alloc (.cells #[v0, v1, v2, v3, v4] t)).alloc (.cells #[u0, u1, u2, u3, u4] t)).heap.size ((w.alloc (.cells #[v0, v1, v2, v3, v4] t)).alloc (.cells #[u0, u1, u2, u3, u4] t)) w1) :
    w1.cell? ⟨w.heap.size, 0, none⟩ = some v0 ∧ w1.cell? ⟨w.heap.size, 1, none⟩ = some v1 ∧ w1.cell? ⟨w.heap.size, 2, none⟩ = some v2 ∧ w1.cell? ⟨w.heap.size, 3, none⟩ = some v3 ∧ w1.cell? ⟨w.heap.size, 4, none⟩ = some v4 ∧
      w1.cell? ⟨w.heap.size + 1, 0, none⟩ = some u0 ∧ w1.cell? ⟨w.heap.size + 1, 1, none⟩ = some u1 ∧ w1.cell? ⟨w.heap.size + 1, 2, none⟩ = some u2 ∧ w1.cell? ⟨w.heap.size + 1, 3, none⟩ = some u3 ∧ w1.cell? ⟨w.heap.size + 1, 4, none⟩ = some u4 ∧ w.heap.size < w1.heap.size ∧ w.heap.size + 1 < w1.heap.size ∧ Below w.heap.size w w1 :=
  keep10 ⟨by simp, by simp, by simp, by simp, by simp, by simp, by simp, by simp, by simp, by simp, by simp; omega, by simp, below_alloc (below_alloc (Below.refl _ _) _) _⟩ hb

def nanB (n : Nat) : Bool := FloatKind.f64.format.order n n != some .eq

theorem law2_no1 (k k' : Int) (raw str raw' str' : ByteArray) (n n' : Nat) (e e' : Bool) (w : World) (h1 : raw.size ≤ 9223372036854775807) (h2 : str.size ≤ 9223372036854775807) (hf : fitsB raw str = false) :
    Calls Try.prog 8 #[.agg #[.int .i64 k, .string raw, .string str, .float .f64 n, .bool e], .agg #[.int .i64 k', .string raw', .string str', .float .f64 n', .bool e']] w fun en w' => en = .returned (.bool true) ∧ Below w.heap.size w w' := by
  have F := Lib.hid hf
  clear hf
  go_enter Try.func8, Try.ntmps8
  go_wp2_with (first
    | (go_at_call 10; refine (fits_of k raw str F.out _ _ _ h1 h2).mono ?_; rintro en w1 ⟨rfl, hb1⟩))
  go_ret
  exact ⟨by simp, below_then (below_alloc (below_alloc (Below.refl _ _) _) _) (by simp; omega) hb1⟩

theorem law2_no2 (k k' : Int) (raw str raw' str' : ByteArray) (n n' : Nat) (e e' : Bool) (w : World) (h1 : raw.size ≤ 9223372036854775807) (h2 : str.size ≤ 9223372036854775807) (h3 : raw'.size ≤ 9223372036854775807) (h4 : str'.size ≤ 9223372036854775807) (hf : fitsB raw str = true) (hf2 : fitsB raw' str' = false) :
    Calls Try.prog 8 #[.agg #[.int .i64 k, .string raw, .string str, .float .f64 n, .bool e], .agg #[.int .i64 k', .string raw', .string str', .float .f64 n', .bool e']] w fun en w' => en = .returned (.bool true) ∧ Below w.heap.size w w' := by
  have F := Lib.hid hf
  have F2 := Lib.hid hf2
  clear hf hf2
  go_enter Try.func8, Try.ntmps8
  go_wp2_with fail
  refine (fits_of k raw str F.out _ _ _ h1 h2).mono ?_; rintro en w1 ⟨rfl, hb1⟩
  obtain ⟨p0, p1, p2, p3, p4, q0, q1, q2, q3, q4, hz, hz2, hB⟩ := cells10 hb1
  go_wp2_with fail
  refine (fits_of k' raw' str' F2.out _ _ _ h3 h4).mono ?_; rintro en w2 ⟨rfl, hb2⟩
  go_wp2
  go_ret
  exact ⟨by simp, below_then hB hB.size hb2⟩

set_option maxHeartbeats 2000000 in
theorem law2_nan (k k' : Int) (raw str raw' str' : ByteArray) (n n' : Nat) (e e' : Bool) (w : World) (h1 : raw.size ≤ 9223372036854775807) (h2 : str.size ≤ 9223372036854775807) (h3 : raw'.size ≤ 9223372036854775807) (h4 : str'.size ≤ 9223372036854775807) (hf : fitsB raw str = true) (hf2 : fitsB raw' str' = true)
    (hn : (FloatKind.f64.format.order n n != some .eq) = true ∨ ((FloatKind.f64.format.order n n != some .eq) = false ∧ (FloatKind.f64.format.order n' n' != some .eq) = true)) :
    Calls Try.prog 8 #[.agg #[.int .i64 k, .string raw, .string str, .float .f64 n, .bool e], .agg #[.int .i64 k', .string raw', .string str', .float .f64 n', .bool e']] w fun en w' => en = .returned (.bool true) ∧ Below w.heap.size w w' := by
  have F := Lib.hid hf
  have F2 := Lib.hid hf2
  clear hf hf2
  rcases hn with hn | ⟨hn, hn2⟩
  all_goals
    go_enter Try.func8, Try.ntmps8
    go_wp2_with fail
    refine (fits_of k raw str F.out _ _ _ h1 h2).mono ?_; rintro en w1 ⟨rfl, hb1⟩
    obtain ⟨p0, p1, p2, p3, p4, q0, q1, q2, q3, q4, hz, hz2, hB⟩ := cells10 hb1
    go_wp2_with fail
    refine (fits_of k' raw' str' F2.out _ _ _ h3 h4).mono ?_; rintro en w2 ⟨rfl, hb2⟩
    obtain ⟨p0, p1, p2, p3, p4, q0, q1, q2, q3, q4, hz, hz2, hB⟩ := keep10 ⟨p0, p1, p2, p3, p4, q0, q1, q2, q3, q4, hz, hz2, hB⟩ hb2
    go_wp2
    go_ret
    exact ⟨by simp, hB⟩

theorem lessR_of (k k' : Int) (raw str raw' str' : ByteArray) (n n' : Nat) (e e' : Bool) (b : Bool) (hb : lessB k k' raw str raw' str' n n' = b) (w : World) :
    Calls Try.prog 20 #[.agg #[.int .i64 k, .string raw, .string str, .float .f64 n, .bool e], .agg #[.int .i64 k', .string raw', .string str', .float .f64 n', .bool e'], .bool true] w fun en w' => en = .returned (.bool b) ∧ Below w.heap.size w w' := by
  subst hb; exact lessR k k' raw str raw' str' n n' e e' w

set_option maxHeartbeats 4000000 in
theorem law2_yes (k k' : Int) (raw str raw' str' : ByteArray) (n n' : Nat) (e e' : Bool) (b : Bool) (w : World) (h1 : raw.size ≤ 9223372036854775807) (h2 : str.size ≤ 9223372036854775807) (h3 : raw'.size ≤ 9223372036854775807) (h4 : str'.size ≤ 9223372036854775807) (hf : fitsB raw str = true) (hf2 : fitsB raw' str' = true)
    (hn : (FloatKind.f64.format.order n n != some .eq) = false) (hn2 : (FloatKind.f64.format.order n' n' != some .eq) = false) (hl : lessB k k' raw str raw' str' n n' = b)
    (hx : (¬ k = k' ∧ decide (k < k') = b) ∨ (k = k' ∧ k = 3 ∧ Op.bytesLess str.toList str'.toList = b) ∨ (k = k' ∧ ¬ k = 3 ∧ k = 2 ∧ (FloatKind.f64.format.order n n' == some .lt) = b) ∨ (k = k' ∧ ¬ k = 3 ∧ ¬ k = 2 ∧ Op.bytesLess raw.toList raw'.toList = b)) :
    Calls Try.prog 8 #[.agg #[.int .i64 k, .string raw, .string str, .float .f64 n, .bool e], .agg #[.int .i64 k', .string raw', .string str', .float .f64 n', .bool e']] w fun en w' => en = .returned (.bool true) ∧ Below w.heap.size w w' := by
  have F := Lib.hid hf
  have F2 := Lib.hid hf2
  have L := Lib.hid hl
  clear hf hf2 hl
  rcases hx with ⟨hk, hb⟩ | ⟨rfl, rfl, hb⟩ | ⟨rfl, hk, rfl, hb⟩ | ⟨rfl, hk, hk2, hb⟩
  all_goals
    have HB := Lib.hid hb
    clear hb
    go_enter Try.func8, Try.ntmps8
    go_wp2_with fail
    refine (fits_of _ raw str F.out _ _ _ h1 h2).mono ?_; rintro en w1 ⟨rfl, hb1⟩
    obtain ⟨p0, p1, p2, p3, p4, q0, q1, q2, q3, q4, hz, hz2, hB⟩ := cells10 hb1
    go_wp2_with fail
    refine (fits_of _ raw' str' F2.out _ _ _ h3 h4).mono ?_; rintro en w2 ⟨rfl, hb2⟩
    obtain ⟨p0, p1, p2, p3, p4, q0, q1, q2, q3, q4, hz, hz2, hB⟩ := keep10 ⟨p0, p1, p2, p3, p4, q0, q1, q2, q3, q4, hz, hz2, hB⟩ hb2
    go_wp2_with fail
    refine (lessR_of _ _ raw str raw' str' n n' e e' b L.out _).mono ?_; rintro en w3 ⟨rfl, hb3⟩
    go_wp2
    go_ret
    refine ⟨?_, below_then hB hB.size hb3⟩
    have hq := HB.out
    simp [hq]

theorem law2 (k k' : Int) (raw str raw' str' : ByteArray) (n n' : Nat) (e e' : Bool) (w : World) (h1 : raw.size ≤ 9223372036854775807) (h2 : str.size ≤ 9223372036854775807) (h3 : raw'.size ≤ 9223372036854775807) (h4 : str'.size ≤ 9223372036854775807) :
    Calls Try.prog 8 #[.agg #[.int .i64 k, .string raw, .string str, .float .f64 n, .bool e], .agg #[.int .i64 k', .string raw', .string str', .float .f64 n', .bool e']] w fun en w' => en = .returned (.bool true) ∧ Below w.heap.size w w' := by
  cases hf : fitsB raw str with
  | false => exact law2_no1 k k' raw str raw' str' n n' e e' w h1 h2 hf
  | true =>
    cases hf2 : fitsB raw' str' with
    | false => exact law2_no2 k k' raw str raw' str' n n' e e' w h1 h2 h3 h4 hf hf2
    | true =>
      cases hn : (FloatKind.f64.format.order n n != some .eq) with
      | true => exact law2_nan k k' raw str raw' str' n n' e e' w h1 h2 h3 h4 hf hf2 (.inl hn)
      | false =>
        cases hn2 : (FloatKind.f64.format.order n' n' != some .eq) with
        | true => exact law2_nan k k' raw str raw' str' n n' e e' w h1 h2 h3 h4 hf hf2 (.inr ⟨hn, hn2⟩)
        | false =>
          refine law2_yes k k' raw str raw' str' n n' e e' _ w h1 h2 h3 h4 hf hf2 hn hn2 rfl ?_
          unfold lessB
          by_cases c : k < k'
          · left; simp [c]; omega
          · by_cases c' : k' < k
            · left; simp [c, c']; omega
            · obtain rfl : k = k' := by omega
              right
              by_cases c3 : k = 3
              · left; subst c3; simp
              · right
                by_cases c2 : k = 2
                · left; subst c2; simp
                · right; simp [c3, c2]

theorem law2r (k : Int) (raw str : ByteArray) (n : Nat) (e : Bool) (k' : Int) (raw' str' : ByteArray) (n' : Nat) (e' : Bool) (w : World) (h1 : raw.size ≤ 9223372036854775807) (h2 : str.size ≤ 9223372036854775807) (_ : (Lit.int .i64 k).wf = true) (_ : (Lit.float .f64 n).wf = true)
    (h3 : raw'.size ≤ 9223372036854775807) (h4 : str'.size ≤ 9223372036854775807) (_ : (Lit.int .i64 k').wf = true) (_ : (Lit.float .f64 n').wf = true) :
    Calls Try.prog 8 #[.agg #[.int .i64 k, .string raw, .string str, .float .f64 n, .bool e], .agg #[.int .i64 k', .string raw', .string str', .float .f64 n', .bool e']] w fun en w' => en = .returned (.bool true) ∧ Below w.heap.size w w' :=
  law2 k k' raw str raw' str' n n' e e' w h1 h2 h3 h4

end Go.Proofs.Ytloegbicgopmpaa.IsOf
