/- FnFjUnescape: the walk of the law. -/
import Derived.Test.YtdcmiggpjjdocaaDoorFuUn
namespace Go.Proofs.YtdcmiggpjjdocaaDoor.L
open Go.RowKit
set_option linter.unusedVariables false
set_option linter.unusedSimpArgs false

theorem nl_ok : EscOk (⟨#[92, 110]⟩ : ByteArray) 0 := .esc (j := 2) (by decide +kernel) (by decide +kernel) (by decide +kernel) (show EscOk (⟨#[92, 110]⟩ : ByteArray) (⟨#[92, 110]⟩ : ByteArray).size from .done)
theorem nl_pair : PairOk (⟨#[92, 110]⟩ : ByteArray) 0 := .short (by decide +kernel) (by decide +kernel) (.done (by decide +kernel))
theorem nl_unq : strOfNums (unq (⟨#[92, 110]⟩ : ByteArray) 0) = ⟨#[10]⟩ := by decide +kernel
theorem doorFu (t x : ByteArray) (hx : strOfNums (unq t 0) = x) (w : World) (hs : t.size ≤ 1000000) (ho : EscOk t 0) (hp : PairOk t 0) :
    Calls Tryd.prog 18 #[.string t] w fun e w' => e = .returned (.string x) ∧ Below w.heap.size w w' := by
  subst hx
  have HO := Lib.hid ho
  have HP := Lib.hid hp
  clear ho hp
  go_enter Tryd.func18, Tryd.ntmps18
  go_wp2_with (first
    | (go_at_call 29; go_must (refine (fuW t _ hs HO.out HP.out).mono ?_); rintro e w1 ⟨rfl, hb1⟩; replace hb1 := Lib.hid hb1))
  go_ret
  exact ⟨rfl, hb1.out⟩
theorem implFu (t x : ByteArray) (hx : strOfNums (unq t 0) = x) (w : World) (hs : t.size ≤ 1000000) (ho : EscOk t 0) (hp : PairOk t 0) :
    Calls Tryd.prog 9 #[.string t] w fun e w' => e = .returned (.string x) ∧ Below w.heap.size w w' := by
  have HX := Lib.hid hx
  have HO := Lib.hid ho
  have HP := Lib.hid hp
  clear ho hp hx
  go_enter Tryd.func9, Tryd.ntmps9
  go_wp2_with (first
    | (go_at_call 18; go_must (refine (doorFu t x HX.out _ hs HO.out HP.out).mono ?_); rintro e w1 ⟨rfl, hb1⟩; replace hb1 := Lib.hid hb1))
  go_ret
  exact ⟨rfl, hb1.out⟩
theorem unescX (s x : ByteArray) (hx : strOfNums (unq s 0) = x) (w : World) (hs : s.size ≤ 2147483647) : Calls Tryd.prog 7 #[.string s] w fun e w' =>
    ((EscOk s 0 ∧ e = .returned (.tuple #[.string x, .bool true])) ∨ ∃ a, e = .returned (.tuple #[.string a, .bool false])) ∧ Below w.heap.size w w' := by
  subst hx; exact unescapeW s w hs
set_option maxRecDepth 100000 in
set_option maxHeartbeats 4000000 in
theorem lawU (s : ByteArray) (w : World) (hs0 : s.size ≤ 140737488351232) :
    Calls Tryd.prog 4 #[.string s] w fun e w' => e = .returned (.bool true) ∧ Below w.heap.size w w' := by
  by_cases h1 : 2147483647 < s.size
  · go_enter Tryd.func4, Tryd.ntmps4
    go_wp2
    go_ret
    exact ⟨rfl, Below.refl _ _⟩
  obtain ⟨x, hx⟩ : ∃ x, strOfNums (unq s 0) = x := ⟨_, rfl⟩
  have HX := Lib.hid hx
  have hs1 : s.size ≤ 2147483647 := by omega
  clear hx
  by_cases h2 : 4000 < s.size
  · go_enter Tryd.func4, Tryd.ntmps4
    go_wp2_with (first
      | (go_at_call 7; go_must (refine (unescX s x HX.out _ hs1).mono ?_); rintro e w1 ⟨h, hb1⟩; replace hb1 := Lib.hid hb1; rcases h with ⟨hok, rfl⟩ | ⟨a, rfl⟩)
      | (go_at_call 8; go_must (refine (pairedW s _ (by omega) (by assumption)).mono ?_); rintro e w2 ⟨⟨b, rfl, hpr⟩, rfl⟩; replace hpr := Lib.hid hpr; cases b))
    all_goals go_ret
    all_goals exact ⟨rfl, hb1.out⟩
  · have hs2 : s.size ≤ 1000000 := by omega
    have tok1 : True := trivial
    go_enter Tryd.func4, Tryd.ntmps4
    go_wp2_with (first
      | (go_at_call 7; go_must (refine (unescX s x HX.out _ hs1).mono ?_); rintro e w1 ⟨h, hb1⟩; replace hb1 := Lib.hid hb1; rcases h with ⟨hok, rfl⟩ | ⟨a, rfl⟩)
      | (go_at_call 8; go_must (refine (pairedW s _ (by omega) (by assumption)).mono ?_); rintro e w2 ⟨⟨b, rfl, hpr⟩, rfl⟩; replace hpr := Lib.hid hpr; cases b)
      | (go_at_call 9; have _t := tok1; go_must (refine (implFu s x HX.out _ hs2 hok (by first | exact hpr.out rfl | exact hpr.out trivial | exact hpr.out)).mono ?_); rintro e w3 ⟨rfl, hb3⟩; replace hb3 := Lib.hid hb3; clear _t tok1)
      | (go_at_call 9; go_must (refine (implFu _ _ nl_unq _ (by decide) nl_ok nl_pair).mono ?_); rintro e w4 ⟨rfl, hb4⟩; replace hb4 := Lib.hid hb4))
    all_goals go_ret
    all_goals first | exact ⟨rfl, hb1.out⟩ | exact ⟨rfl, below_step (below_step hb1.out hb3.out) hb4.out⟩
end Go.Proofs.YtdcmiggpjjdocaaDoor.L
