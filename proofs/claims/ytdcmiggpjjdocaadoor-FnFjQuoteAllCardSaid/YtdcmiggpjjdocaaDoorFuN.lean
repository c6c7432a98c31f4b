/- utf16's IsSurrogate and DecodeRune; s2b and b2s. -/
import Derived.Test.YtdcmiggpjjdocaaDoorFuP
import Derived.Test.YtdcmiggpjjdocaaDoorOwnF
import Derived.Test.YtdcmiggpjjdocaaDoorShelf
import Derived.Laws.DeepBits32
namespace Go.Proofs.YtdcmiggpjjdocaaDoor.L
open Go.RowKit
set_option linter.unusedVariables false
set_option linter.unusedSimpArgs false

theorem surrYes (r : Int) (h0 : 55296 ≤ r) (h1 : r ≤ 57343) (w : World) : Calls Tryd.prog 36 #[.int .i32 r] w fun e w' => e = .returned (.bool true) ∧ w = w' := by
  go_enter Tryd.func36, Tryd.ntmps36
  go_wp2
  go_ret
  exact ⟨by show Ending.returned (.bool (decide (r < 57344))) = _; rw [decide_eq_true (by omega)], rfl⟩
theorem surrNo (r : Int) (h : highI r = false) (h2 : lowI r = false) (w : World) : Calls Tryd.prog 36 #[.int .i32 r] w fun e w' => e = .returned (.bool false) ∧ w = w' := by
  unfold highI at h
  unfold lowI at h2
  simp only [Bool.and_eq_false_iff, decide_eq_false_iff_not] at h h2
  by_cases h0 : 55296 ≤ r
  · have h1 : 57344 ≤ r := by omega
    clear h h2
    go_enter Tryd.func36, Tryd.ntmps36
    go_wp2
    go_ret
    exact ⟨by show Ending.returned (.bool (decide (r < 57344))) = _; rw [decide_eq_false (by omega)], rfl⟩
  · clear h h2
    go_enter Tryd.func36, Tryd.ntmps36
    go_wp2
    go_ret
    exact ⟨rfl, rfl⟩
theorem i32_or10 (a b : Nat) (ha : a < 1024) (hb : b < 1024) : bits .or .i32 ((a : Int) * 1024) (b : Int) = (a : Int) * 1024 + b := by
  have e : (a : Int) * 1024 = ((1024 * a : Nat) : Int) := by omega
  rw [e]
  show IntKind.i32.wrap ((BitVec.ofInt 32 ((1024 * a : Nat) : Int) ||| BitVec.ofInt 32 (b : Int)).toNat : Int) = _
  rw [BitVec.toNat_or, ofInt_u32 _ (by omega), ofInt_u32 b (by omega), show (1024 * a ||| b) = 1024 * a + b from (Nat.two_pow_add_eq_or_of_lt (i := 10) (by omega) a).symm]
  rw [wrap_i32_small _ (by omega) (by omega)]
  omega
theorem or10 {x y : Int} (h0 : 0 ≤ x) (h1 : x < 1024) (h2 : 0 ≤ y) (h3 : y < 1024) : bits .or .i32 (x * 1024) y = x * 1024 + y := by
  obtain ⟨a, rfl⟩ : ∃ a : Nat, x = (a : Int) := ⟨x.toNat, by omega⟩
  obtain ⟨b, rfl⟩ : ∃ b : Nat, y = (b : Int) := ⟨y.toNat, by omega⟩
  exact i32_or10 a b (by omega) (by omega)
theorem decW (n m z : Int) (hn : highI n = true) (hm : lowI m = true) (hz : z = 65536 + (n - 55296) * 1024 + (m - 56320)) (w : World) : Calls Tryd.prog 37 #[.int .i32 n, .int .i32 m] w fun e w' => e = .returned (.int .i32 z) ∧ w = w' := by
  unfold highI at hn
  unfold lowI at hm
  simp only [Bool.and_eq_true, decide_eq_true_eq] at hn hm
  obtain ⟨n0, n1⟩ := hn
  obtain ⟨m0, m1⟩ := hm
  have e1 := or10 (x := n - 55296) (y := m - 56320) (by omega) (by omega) (by omega) (by omega)
  go_enter Tryd.func37, Tryd.ntmps37
  go_wp2
  all_goals first
    | (exfalso; omega)
    | (go_ret; exact ⟨by rw [hz]; show Ending.returned (.int .i32 ((n - 55296) * 1024 + (m - 56320) + 65536)) = _; congr 2; omega, rfl⟩)
set_option maxRecDepth 100000 in
theorem s2bW (s : ByteArray) (w : World) : Calls Tryd.prog 34 #[.string s] w fun e w' => e = .returned (.slice (some ⟨w.heap.size, 0, none⟩) s.size (grownCap w s.size 0 5)) ∧ w' = Lib.bytesWorld w 5 s := by
  have hcv : (convert 9 26 (.string s)).run Tryd.prog w = .ok (.slice (some ⟨w.heap.size, 0, none⟩) s.size (grownCap w s.size 0 5)) (Lib.bytesWorld w 5 s) := Lib.run_convert_string_bytes w 9 26 5 s Tryd.underlying9 Tryd.underlying26 Tryd.underlying5
  go_enter Tryd.func34, Tryd.ntmps34
  go_wp2
  go_ret
  exact ⟨rfl, rfl⟩
set_option maxRecDepth 100000 in
theorem b2sW (base : Nat) (v : Value) (s : ByteArray) (w : World) (h : OwnF w base v s) : Calls Tryd.prog 21 #[v] w fun e w' => e = .returned (.string s) ∧ w = w' := by
  obtain ⟨A', c', rfl, hcc', hr'⟩ := h.rd
  have hcv := hr'.string (c := c') Tryd.underlying26 Tryd.underlying5 Tryd.underlying9
  clear hr' hcc' h
  go_enter Tryd.func21, Tryd.ntmps21
  go_wp2
  go_ret
  exact ⟨rfl, rfl⟩
theorem parseQ (s : ByteArray) (n : Int) (w : World) (hs : s.size = 4) (hx : X64.hexAll s = true) (hn : X64.hexN s 4 = n) :
    Calls Tryd.prog 35 #[.string s, .int .i64 16, .int .i64 16] w fun e w' => e = .returned (.tuple #[.int .u64 n, .nilIface]) ∧ Below w.heap.size w w' := by
  have HS := Lib.hid hs
  have HX := Lib.hid hx
  subst hn
  clear hs hx
  go_enter Tryd.func35, Tryd.ntmps35
  go_wp2_with (first
    | (go_at_call 41; go_must (refine (X64.inner16 s _ HS.out).mono ?_); rintro e w' ⟨hin, hb⟩; obtain ⟨-, rfl⟩ | ⟨hno, rfl⟩ := hin; case inr => exact absurd HX.out (by rw [hno]; simp)))
  go_ret2
  exact ⟨rfl, hb⟩
theorem idxF (t : ByteArray) (r : Int) (w : World) (h : Lib.indexByte t.data.toList ((92 : Int).toNat.toUInt8) = r) : Calls Tryd.prog 33 #[.string t, .int .u8 92] w fun e w' => e = .returned (.int .i64 r) ∧ w = w' := by
  rw [← h]
  exact (Tryd.strings_IndexByte t 92 w).mono fun e w' h => ⟨h.1, h.2.symm⟩
end Go.Proofs.YtdcmiggpjjdocaaDoor.L
