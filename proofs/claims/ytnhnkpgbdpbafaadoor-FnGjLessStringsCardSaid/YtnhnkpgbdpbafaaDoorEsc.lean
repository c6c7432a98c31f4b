/- spec.Quote: the plain function and the walk of spec.Quote. -/
import Derived.Test.YtnhnkpgbdpbafaaDoorApp
import Derived.Outline
import Derived.Deep.LoopGhost
namespace Go.Proofs.YtnhnkpgbdpbafaaDoor.L
open Go.RowKit
set_option linter.unusedVariables false
set_option linter.unusedSimpArgs false
def intOf : Value → Int | .int _ q => q | _ => 0

/-! ### one byte, escaped -/
inductive Short : Int → Int → Prop
  | b : Short 8 98
  | f : Short 12 102
  | n : Short 10 110
  | r : Short 13 114
  | t : Short 9 116
  | q : Short 34 34
  | s : Short 92 92
def NoShort (c : Int) : Prop := c ≠ 8 ∧ c ≠ 12 ∧ c ≠ 10 ∧ c ≠ 13 ∧ c ≠ 9 ∧ c ≠ 34 ∧ c ≠ 92
def hexd (d : Int) : Int := if d < 10 then 48 + d else 87 + d
def eb (c : Int) : List Int :=
  if c = 8 then [92, 98] else if c = 12 then [92, 102] else if c = 10 then [92, 110] else if c = 13 then [92, 114] else if c = 9 then [92, 116] else if c = 34 then [92, 34] else if c = 92 then [92, 92]
  else if c < 32 then [92, 117, 48, 48, 48 + c / 16, hexd (c % 16)] else [c]
theorem eb_short {c l : Int} (h : Short c l) : eb c = [92, l] := by cases h <;> rfl
theorem eb_low {c : Int} (h : NoShort c) (hc : c < 32) : eb c = [92, 117, 48, 48, 48 + c / 16, hexd (c % 16)] := by
  obtain ⟨h1, h2, h3, h4, h5, h6, h7⟩ := h
  simp [eb, *]
theorem eb_plain {c : Int} (h : NoShort c) (hc : ¬ c < 32) : eb c = [c] := by
  obtain ⟨h1, h2, h3, h4, h5, h6, h7⟩ := h
  simp [eb, *]
theorem short_or (c : Int) : (∃ l, Short c l) ∨ NoShort c := by
  by_cases h1 : c = 8
  · subst h1; exact .inl ⟨_, .b⟩
  by_cases h2 : c = 12
  · subst h2; exact .inl ⟨_, .f⟩
  by_cases h3 : c = 10
  · subst h3; exact .inl ⟨_, .n⟩
  by_cases h4 : c = 13
  · subst h4; exact .inl ⟨_, .r⟩
  by_cases h5 : c = 9
  · subst h5; exact .inl ⟨_, .t⟩
  by_cases h6 : c = 34
  · subst h6; exact .inl ⟨_, .q⟩
  by_cases h7 : c = 92
  · subst h7; exact .inl ⟨_, .s⟩
  exact .inr ⟨h1, h2, h3, h4, h5, h6, h7⟩
theorem eb_len (c : Int) : (eb c).length ≤ 6 := by
  unfold eb; repeat' split
  all_goals simp

/-- The string's literal up to byte k, the closing quotation mark aside. -/
def escP (s : ByteArray) : Nat → ByteArray
  | 0 => strOfNums [34]
  | k + 1 => escP s k ++ strOfNums (eb (bt s k))
theorem escP_size (s : ByteArray) (k : Nat) : (escP s k).size ≤ 1 + 6 * k := by
  induction k with
  | zero => simp [escP, strOfNums_size]
  | succ k ih =>
    have := eb_len (bt s k)
    simp only [escP, ByteArray.size_append, strOfNums_size]
    omega
def esc (s : ByteArray) : ByteArray := escP s s.size ++ strOfNums [34]

/-! ### spec.shortOf, spec.digitOf -/
theorem shortOf_yes {c l : Int} (h : Short c l) (w : World) : Calls Tryd.prog 10 #[.int .u8 c] w fun e w' => e = .returned (.tuple #[.int .u8 l, .bool true]) ∧ w' = w := by
  cases h
  all_goals
    go_enter Tryd.func10, Tryd.ntmps10
    go_wp2
    go_ret2
    exact ⟨rfl, rfl⟩
theorem shortOf_slash (w : World) : Calls Tryd.prog 10 #[.int .u8 47] w fun e w' => e = .returned (.tuple #[.int .u8 47, .bool true]) ∧ w' = w := by
  go_enter Tryd.func10, Tryd.ntmps10
  go_wp2
  go_ret2
  exact ⟨rfl, rfl⟩
theorem shortOf_no {c : Int} (h : NoShort c) (h47 : c ≠ 47) (h0 : 0 ≤ c) (h1 : c ≤ 255) (w : World) : Calls Tryd.prog 10 #[.int .u8 c] w fun e w' => e = .returned (.tuple #[.int .u8 0, .bool false]) ∧ w' = w := by
  obtain ⟨h1, h2, h3, h4, h5, h6, h7⟩ := h
  go_enter Tryd.func10, Tryd.ntmps10
  go_wp2
  go_ret2
  exact ⟨rfl, rfl⟩
theorem digitOf (d : Int) (h0 : 0 ≤ d) (h1 : d < 16) (w : World) : Calls Tryd.prog 11 #[.int .i64 d, .bool false] w fun e w' => e = .returned (.int .u8 (hexd d)) ∧ w' = w := by
  by_cases h : d < 10
  · go_enter Tryd.func11, Tryd.ntmps11
    go_wp2
    go_ret
    refine ⟨ret_int ?_, rfl⟩
    simp [hexd, h, IntKind.wrap_u8]
    try omega
  · go_enter Tryd.func11, Tryd.ntmps11
    go_wp2
    go_ret
    refine ⟨ret_int ?_, rfl⟩
    simp [hexd, h, IntKind.wrap_u8]
    try omega
end Go.Proofs.YtnhnkpgbdpbafaaDoor.L
