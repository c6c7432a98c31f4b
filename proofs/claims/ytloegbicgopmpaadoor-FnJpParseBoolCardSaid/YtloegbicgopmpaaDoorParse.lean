/- FnJpParseBool: the walks. -/
import Derived.Test.YtloegbicgopmpaaDoorProg
import Derived.Test.YtloegbicgopmpaaDoorBase
import Derived.Deep.QuietTactic
import Derived.BigQuiet
import Derived.Outline
namespace Go.Proofs.YtloegbicgopmpaaDoor.L
open Go.RowKit
set_option linter.unusedVariables false
set_option linter.unusedSimpArgs false

/-- Which text it is: "true", "false", another one. -/
inductive Which (s : ByteArray) : Bool → Bool → Prop
  | t (h : (s.toList == [116, 114, 117, 101]) = true) : Which s true false
  | f (h : (s.toList == [116, 114, 117, 101]) = false) (h2 : (s.toList == [102, 97, 108, 115, 101]) = true) : Which s false true
  | n (h : (s.toList == [116, 114, 117, 101]) = false) (h2 : (s.toList == [102, 97, 108, 115, 101]) = false) : Which s false false

theorem which (s : ByteArray) : ∃ a b, Which s a b := by
  cases h : (s.toList == [116, 114, 117, 101])
  · cases h2 : (s.toList == [102, 97, 108, 115, 101])
    · exact ⟨_, _, .n h h2⟩
    · exact ⟨_, _, .f h h2⟩
  · exact ⟨_, _, .t h⟩

/-- What ParseBoolean answers. -/
def parsed (a b : Bool) (V : Value) : Value := .tuple #[.bool a, if a || b then .nilIface else V]

theorem parseBoolean {a b : Bool} (A : Option Addr) (s : ByteArray) (c : Nat) (t : TypeId) (u : Value) (w : World) (h : Rd w A s) (hg : w.cell? ⟨0, 0, none⟩ = some (.iface t u)) (hw : Which s a b) :
    Calls Tryd.prog 5 #[.slice A s.size c] w fun e w' => e = .returned (parsed a b (.iface t u)) ∧ Below w.heap.size w w' := by
  have hcv : (convert 29 9 (.slice A s.size c)).run Tryd.prog w = .ok (.string s) w := h.string Tryd.underlying29 Tryd.underlying5 Tryd.underlying9
  cases hw
  · go_enter Tryd.func5, Tryd.ntmps5
    go_wp2
    go_ret2
    exact ⟨rfl, Below.refl _ _⟩
  · go_enter Tryd.func5, Tryd.ntmps5
    go_wp2
    go_ret2
    exact ⟨rfl, Below.refl _ _⟩
  · go_enter Tryd.func5, Tryd.ntmps5
    go_wp2
    go_quiet (fail)
    go_wp2
    go_ret2
    exact ⟨rfl, below_drewN (Below.refl _ _) _⟩

theorem jpParseBool {a b : Bool} (s : ByteArray) (t : TypeId) (u : Value) (w : World) (hg : w.cell? ⟨0, 0, none⟩ = some (.iface t u)) (hg0 : 0 < w.heap.size) (hw : Which s a b) :
    Calls Tryd.prog 4 #[.string s] w fun e w' => e = .returned (.tuple #[.bool a, .bool (a || b)]) ∧ Below w.heap.size w w' := by
  have hcv : (convert 9 29 (.string s)).run Tryd.prog w = .ok (.slice (some ⟨w.heap.size, 0, none⟩) s.size (grownCap w s.size 0 5)) (Lib.bytesWorld w 5 s) := Lib.run_convert_string_bytes w 9 29 5 s Tryd.underlying9 Tryd.underlying29 Tryd.underlying5
  have hb := bytesWorld_below w 5 s
  have hr := bytesWorld_rd w 5 s
  have hz := hb.size
  have hc : (Lib.bytesWorld w 5 s).cell? ⟨0, 0, none⟩ = some (.iface t u) := ((bcell hb).1 0 0 hg0).trans hg
  generalize Lib.bytesWorld w 5 s = w1 at *
  go_enter Tryd.func4, Tryd.ntmps4
  go_wp2_with fail
  refine (parseBoolean _ s _ t u w1 hr hc hw).mono ?_
  rintro e w2 ⟨rfl, hb2⟩
  have hB := below_step hb hb2
  clear hb hb2 hc hr hcv
  cases hw
  all_goals
    simp only [parsed]
    go_wp2
    go_ret2
    exact ⟨rfl, hB⟩

theorem law_small {a b : Bool} (s : ByteArray) (t : TypeId) (u : Value) (w : World) (hs : s.size ≤ 140737488351232) (hbig : ¬ 2147483647 < s.size) (hg : w.cell? ⟨0, 0, none⟩ = some (.iface t u)) (hg0 : 0 < w.heap.size) (hw : Which s a b) :
    Calls Tryd.prog 3 #[.string s] w fun e w' => e = .returned (.bool true) ∧ Below w.heap.size w w' := by
  go_enter Tryd.func3, Tryd.ntmps3
  go_wp2_with fail
  refine (jpParseBool s t u w hg hg0 hw).mono ?_
  rintro e w1 ⟨rfl, hb⟩
  cases hw
  all_goals
    go_wp2
    go_ret
    exact ⟨by simp, hb⟩

theorem law (s : ByteArray) (t : TypeId) (u : Value) (w : World) (hs : s.size ≤ 140737488351232) (hg : w.cell? ⟨0, 0, none⟩ = some (.iface t u)) (hg0 : 0 < w.heap.size) :
    Calls Tryd.prog 3 #[.string s] w fun e w' => e = .returned (.bool true) ∧ Below w.heap.size w w' := by
  by_cases hbig : 2147483647 < s.size
  · go_enter Tryd.func3, Tryd.ntmps3
    go_wp2
    go_ret
    exact ⟨rfl, Below.refl _ _⟩
  · obtain ⟨a, b, hw⟩ := which s
    exact law_small s t u w hs hbig hg hg0 hw
end Go.Proofs.YtloegbicgopmpaaDoor.L
