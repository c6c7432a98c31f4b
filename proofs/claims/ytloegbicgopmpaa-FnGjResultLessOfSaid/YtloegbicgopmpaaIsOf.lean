/- FnGjResultIsOf: the walks. -/
import Derived.Test.YtloegbicgopmpaaProg
import Derived.WalkKit
import Derived.Deep.QuietTactic
import Derived.BigQuiet
import Derived.Outline
import Derived.Lib.Hide
import Derived.Deep.RegionHeld3
import Derived.Laws.ResultCell
import Derived.Test.YtloegbicgopmpaaWWords
namespace Go.Proofs.Ytloegbicgopmpaa.IsOf
open Go.RowKit Go.Proofs.YtloegbicgopmpaaW.PrintWords
set_option linter.unusedVariables false

theorem store_float (P : Program) (w : World) (a : Addr) (m : Mode) (k : FloatKind) (b : Nat) : (store a (.float k b) m).run P w = stored P w a (.float k b) m := run_store P w a _ m rfl
attribute [local go_sem] store_float

def fitsB (r s : ByteArray) : Bool := decide (r.size ≤ 2147483647) && decide (s.size ≤ 2147483647)

theorem fits (k : Int) (raw str : ByteArray) (n e : Value) (w : World) (h1 : raw.size ≤ 9223372036854775807) (h2 : str.size ≤ 9223372036854775807) :
    Calls Try.prog 10 #[.agg #[.int .i64 k, .string raw, .string str, n, e]] w fun en w' => en = .returned (.bool (fitsB raw str)) ∧ Below w.heap.size w w' := by
  by_cases c1 : raw.size ≤ 2147483647
  · by_cases c2 : str.size ≤ 2147483647
    · go_enter Try.func10, Try.ntmps10
      go_wp2
      go_ret
      exact ⟨by simp [fitsB, c1, c2], (Below.refl _ _).alloc (Nat.le_refl _) _⟩
    · go_enter Try.func10, Try.ntmps10
      go_wp2
      go_ret
      exact ⟨by simp [fitsB, c1, c2], (Below.refl _ _).alloc (Nat.le_refl _) _⟩
  · go_enter Try.func10, Try.ntmps10
    go_wp2
    go_ret
    exact ⟨by simp [fitsB, c1], (Below.refl _ _).alloc (Nat.le_refl _) _⟩


theorem gjOf (k : Int) (raw str : ByteArray) (n : Nat) (e : Bool) (w : World) :
    Calls Try.prog 28 #[.agg #[.int .i64 k, .string raw, .string str, .float .f64 n, .bool e]] w fun en w' => en = .returned (.agg #[.int .i64 k, .string raw, .string str, .float .f64 n, .int .i64 0, .slice none 0 0]) ∧ Below w.heap.size w w' := by
  go_enter Try.func28, Try.ntmps28
  go_wp2
  refine bodyPost_ret (v := .agg #[.int .i64 k, .string raw, .string str, .float .f64 n, .int .i64 0, .slice none 0 0]) (by simp [results, Try.results28, go_sem]) rfl ⟨rfl, ?_⟩
  repeat (first | exact Below.refl _ _ | apply below_alloc | (refine Below.setCell ?_ (by simp) _))

def firstB (k : Int) (raw : ByteArray) (c : Int) : Bool := decide (k = 5) && decide (0 < raw.size) && decide (bt raw 0 = c)

theorem isObject (k : Int) (raw : ByteArray) (s : ByteArray) (n : Nat) (i : Int) (w : World) (h1 : raw.size ≤ 9223372036854775807) :
    Calls Try.prog 29 #[.agg #[.int .i64 k, .string raw, .string s, .float .f64 n, .int .i64 i, .slice none 0 0]] w fun en w' => en = .returned (.bool (firstB k raw 123)) ∧ Below w.heap.size w w' := by
  by_cases c1 : k = 5
  · subst c1
    by_cases c2 : 0 < raw.size
    · have hx : ∀ h : 0 < raw.size, ((raw[0]'h).toNat : Int) = bt raw 0 := bt_at raw 0
      by_cases c3 : bt raw 0 = 123
      · go_enter Try.func29, Try.ntmps29
        go_wp2
        go_ret
        exact ⟨by simp [firstB, c2, c3], (Below.refl _ _).alloc (Nat.le_refl _) _⟩
      · go_enter Try.func29, Try.ntmps29
        go_wp2
        go_ret
        exact ⟨by simp [firstB, c2, c3], (Below.refl _ _).alloc (Nat.le_refl _) _⟩
    · go_enter Try.func29, Try.ntmps29
      go_wp2
      go_ret
      exact ⟨by simp [firstB, c2], (Below.refl _ _).alloc (Nat.le_refl _) _⟩
  · go_enter Try.func29, Try.ntmps29
    go_wp2
    go_ret
    exact ⟨by simp [firstB, c1], (Below.refl _ _).alloc (Nat.le_refl _) _⟩

theorem isArray (k : Int) (raw : ByteArray) (s : ByteArray) (n : Nat) (i : Int) (w : World) (h1 : raw.size ≤ 9223372036854775807) :
    Calls Try.prog 30 #[.agg #[.int .i64 k, .string raw, .string s, .float .f64 n, .int .i64 i, .slice none 0 0]] w fun en w' => en = .returned (.bool (firstB k raw 91)) ∧ Below w.heap.size w w' := by
  by_cases c1 : k = 5
  · subst c1
    by_cases c2 : 0 < raw.size
    · have hx : ∀ h : 0 < raw.size, ((raw[0]'h).toNat : Int) = bt raw 0 := bt_at raw 0
      by_cases c3 : bt raw 0 = 91
      · go_enter Try.func30, Try.ntmps30
        go_wp2
        go_ret
        exact ⟨by simp [firstB, c2, c3], (Below.refl _ _).alloc (Nat.le_refl _) _⟩
      · go_enter Try.func30, Try.ntmps30
        go_wp2
        go_ret
        exact ⟨by simp [firstB, c2, c3], (Below.refl _ _).alloc (Nat.le_refl _) _⟩
    · go_enter Try.func30, Try.ntmps30
      go_wp2
      go_ret
      exact ⟨by simp [firstB, c2], (Below.refl _ _).alloc (Nat.le_refl _) _⟩
  · go_enter Try.func30, Try.ntmps30
    go_wp2
    go_ret
    exact ⟨by simp [firstB, c1], (Below.refl _ _).alloc (Nat.le_refl _) _⟩

def truthB (k : Int) : Bool := decide (k = 1) || decide (k = 4)
theorem isBool (k : Int) (raw : ByteArray) (s : ByteArray) (n : Nat) (i : Int) (w : World) :
    Calls Try.prog 31 #[.agg #[.int .i64 k, .string raw, .string s, .float .f64 n, .int .i64 i, .slice none 0 0]] w fun en w' => en = .returned (.bool (truthB k)) ∧ Below w.heap.size w w' := by
  by_cases c1 : k = 4
  · go_enter Try.func31, Try.ntmps31
    go_wp2
    go_ret
    exact ⟨by simp [truthB, c1], (Below.refl _ _).alloc (Nat.le_refl _) _⟩
  · by_cases c2 : k = 1
    · go_enter Try.func31, Try.ntmps31
      go_wp2
      go_ret
      exact ⟨by simp [truthB, c2], (Below.refl _ _).alloc (Nat.le_refl _) _⟩
    · go_enter Try.func31, Try.ntmps31
      go_wp2
      go_ret
      exact ⟨by simp [truthB, c1, c2], (Below.refl _ _).alloc (Nat.le_refl _) _⟩

theorem bcell {W w1 : World} (hb : Below W.heap.size W w1) : (∀ b o, b < W.heap.size → w1.cell? ⟨b, o, none⟩ = W.cell? ⟨b, o, none⟩) ∧ (∀ b o, b < W.heap.size → w1.frozen? ⟨b, o, none⟩ = W.frozen? ⟨b, o, none⟩) :=
  ⟨fun b o h => hb.cell (p := ⟨b, o, none⟩) h, fun b o h => hb.frozen (p := ⟨b, o, none⟩) h⟩


theorem keep6 {g : Nat} {v0 v1 v2 v3 v4 v5 : Value} {w w1 w2 : World} (h : w1.cell? ⟨g, 0, none⟩ = some v0 ∧ w1.cell? ⟨g, 1, none⟩ = some v1 ∧ w1.cell? ⟨g, 2, none⟩ = some v2 ∧ w1.cell? ⟨g, 3, none⟩ = some v3 ∧ w1.cell? ⟨g, 4, none⟩ = some v4 ∧ w1.cell? ⟨g, 5, none⟩ = some v5 ∧ g < w1.heap.size ∧ Below w.heap.size w w1) (hb : Below w1.heap.size w1 w2) :
    w2.cell? ⟨g, 0, none⟩ = some v0 ∧ w2.cell? ⟨g, 1, none⟩ = some v1 ∧ w2.cell? ⟨g, 2, none⟩ = some v2 ∧ w2.cell? ⟨g, 3, none⟩ = some v3 ∧ w2.cell? ⟨g, 4, none⟩ = some v4 ∧ w2.cell? ⟨g, 5, none⟩ = some v5 ∧ g < w2.heap.size ∧ Below w.heap.size w w2 := by
  obtain ⟨h0, h1, h2, h3, h4, h5, hg, hB⟩ := h
  have hc := (bcell hb).1
  refine ⟨?_, ?_, ?_, ?_, ?_, ?_, Nat.lt_of_lt_of_le hg hb.size, hB.trans (hb.mono hB.size)⟩ <;> rw [hc _ _ hg] <;> assumption

theorem is (k : Int) (raw str : ByteArray) (n : Nat) (e : Bool) (w : World) (h1 : raw.size ≤ 9223372036854775807) :
    Calls Try.prog 11 #[.agg #[.int .i64 k, .string raw, .string str, .float .f64 n, .bool e]] w fun en w' => en = .returned (.tuple #[.bool (firstB k raw 123), .bool (firstB k raw 91), .bool (truthB k)]) ∧ Below w.heap.size w w' := by
  go_enter Try.func11, Try.ntmps11
  go_wp2_with (go_at_call 28; refine (gjOf k raw str n e _).mono ?_; rintro en w' ⟨rfl, hb⟩)
  have hB : Below w.heap.size w (w'.alloc (Obj.cells #[Value.int IntKind.i64 k, Value.string raw, Value.string str, Value.float FloatKind.f64 n, Value.int IntKind.i64 0, Value.slice none 0 0] 57)) := by
    refine Below.alloc ?_ ?_ _
    · exact (below_alloc (Below.refl _ _) _).trans (hb.mono (by simp))
    · have := hb.size; simp at this; omega
  go_region_held3 (fun w2 => w2.cell? ⟨w'.heap.size, 0, none⟩ = some (.int .i64 k) ∧ w2.cell? ⟨w'.heap.size, 1, none⟩ = some (.string raw) ∧ w2.cell? ⟨w'.heap.size, 2, none⟩ = some (.string str) ∧ w2.cell? ⟨w'.heap.size, 3, none⟩ = some (.float .f64 n) ∧ w2.cell? ⟨w'.heap.size, 4, none⟩ = some (.int .i64 0) ∧ w2.cell? ⟨w'.heap.size, 5, none⟩ = some (.slice none 0 0) ∧ w'.heap.size < w2.heap.size ∧ Below w.heap.size w w2)
    (first | exact ⟨by simp, by simp, by simp, by simp, by simp, by simp, by simp, below_drew hB⟩ | exact keep6 ‹_› ‹_›)
    (first | (go_at_call 29; refine (isObject k raw str n 0 _ h1).mono ?_; rintro en w3 ⟨rfl, hb3⟩) | (go_at_call 30; refine (isArray k raw str n 0 _ h1).mono ?_; rintro en w3 ⟨rfl, hb3⟩) | (go_at_call 31; refine (isBool k raw str n 0 _).mono ?_; rintro en w3 ⟨rfl, hb3⟩))
  go_wp2
  go_ret3
  exact ⟨rfl, by simp_all⟩

theorem fits_of {b : Bool} (k : Int) (raw str : ByteArray) (hb : fitsB raw str = b) (n e : Value) (w : World) (h1 : raw.size ≤ 9223372036854775807) (h2 : str.size ≤ 9223372036854775807) :
    Calls Try.prog 10 #[.agg #[.int .i64 k, .string raw, .string str, n, e]] w fun en w' => en = .returned (.bool b) ∧ Below w.heap.size w w' := by
  subst hb; exact fits k raw str n e w h1 h2

theorem is_of {a b c : Bool} (k : Int) (raw str : ByteArray) (n : Nat) (e : Bool) (ha : firstB k raw 123 = a) (hb : firstB k raw 91 = b) (hc : truthB k = c) (w : World) (h1 : raw.size ≤ 9223372036854775807) :
    Calls Try.prog 11 #[.agg #[.int .i64 k, .string raw, .string str, .float .f64 n, .bool e]] w fun en w' => en = .returned (.tuple #[.bool a, .bool b, .bool c]) ∧ Below w.heap.size w w' := by
  subst ha hb hc; exact is k raw str n e w h1

theorem cells5 {g : Nat} {v0 v1 v2 v3 v4 : Value} {w1 w2 : World} (h : w1.cell? ⟨g, 0, none⟩ = some v0 ∧ w1.cell? ⟨g, 1, none⟩ = some v1 ∧ w1.cell? ⟨g, 2, none⟩ = some v2 ∧ w1.cell? ⟨g, 3, none⟩ = some v3 ∧ w1.cell? ⟨g, 4, none⟩ = some v4) (hg : g < w1.heap.size) (hb : Below w1.heap.size w1 w2) :
    (w2.cell? ⟨g, 0, none⟩ = some v0 ∧ w2.cell? ⟨g, 1, none⟩ = some v1 ∧ w2.cell? ⟨g, 2, none⟩ = some v2 ∧ w2.cell? ⟨g, 3, none⟩ = some v3 ∧ w2.cell? ⟨g, 4, none⟩ = some v4) ∧ g < w2.heap.size := by
  obtain ⟨h0, h1, h2, h3, h4⟩ := h
  have hc := (bcell hb).1
  refine ⟨⟨?_, ?_, ?_, ?_, ?_⟩, Nat.lt_of_lt_of_le hg hb.size⟩ <;> rw [hc _ _ hg] <;> assumption


end Go.Proofs.Ytloegbicgopmpaa.IsOf
