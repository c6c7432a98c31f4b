/- FnGjLessStrings: the walks of Parse and Less, and of the law. -/
import Derived.Test.YtnhnkpgbdpbafaaDoorGlStr
import Derived.Test.YtnhnkpgbdpbafaaDoorGl8
import Derived.Laws.ResultCell
import Derived.WalkLawsBesides
namespace Go.Proofs.YtnhnkpgbdpbafaaDoor.L
open Go.RowKit
set_option linter.unusedVariables false
set_option linter.unusedSimpArgs false
theorem store_float (P : Program) (w : World) (a : Addr) (m : Mode) (k : FloatKind) (b : Nat) : (store a (.float k b) m).run P w = stored P w a (.float k b) m := run_store P w a _ m rfl
attribute [local go_sem] store_float
/-- gjson's Result in a block of its own. -/
def R6 (w : World) (g : Nat) (v0 v1 v2 v3 v4 v5 : Value) : Prop := w.heap[g]? = some (.cells #[v0, v1, v2, v3, v4, v5] 32 (0, 0))
section
variable {w w' : World} {g : Nat} {v0 v1 v2 v3 v4 v5 : Value}
theorem R6.new (w : World) (v0 v1 v2 v3 v4 v5 : Value) : R6 (w.alloc (.cells #[v0, v1, v2, v3, v4, v5] 32)) w.heap.size v0 v1 v2 v3 v4 v5 := heap_alloc_new w _
theorem R6.lt (h : R6 w g v0 v1 v2 v3 v4 v5) : g < w.heap.size := (Array.getElem?_eq_some_iff.1 h).1
theorem R6.c0 (h : R6 w g v0 v1 v2 v3 v4 v5) : w.cell? ⟨g, 0, none⟩ = some v0 := cell_of_row w g 0 _ _ _ h
theorem R6.c1 (h : R6 w g v0 v1 v2 v3 v4 v5) : w.cell? ⟨g, 1, none⟩ = some v1 := cell_of_row w g 1 _ _ _ h
theorem R6.c2 (h : R6 w g v0 v1 v2 v3 v4 v5) : w.cell? ⟨g, 2, none⟩ = some v2 := cell_of_row w g 2 _ _ _ h
theorem R6.c3 (h : R6 w g v0 v1 v2 v3 v4 v5) : w.cell? ⟨g, 3, none⟩ = some v3 := cell_of_row w g 3 _ _ _ h
theorem R6.c4 (h : R6 w g v0 v1 v2 v3 v4 v5) : w.cell? ⟨g, 4, none⟩ = some v4 := cell_of_row w g 4 _ _ _ h
theorem R6.c5 (h : R6 w g v0 v1 v2 v3 v4 v5) : w.cell? ⟨g, 5, none⟩ = some v5 := cell_of_row w g 5 _ _ _ h
theorem R6.f (h : R6 w g v0 v1 v2 v3 v4 v5) (j : Nat) : w.frozen? ⟨g, j, none⟩ = false := by unfold R6 at h; simp [World.frozen?, h]
theorem R6.below (h : R6 w g v0 v1 v2 v3 v4 v5) (hb : Below w.heap.size w w') : R6 w' g v0 v1 v2 v3 v4 v5 := (hb.block g h.lt).trans h
theorem R6.set0 (h : R6 w g v0 v1 v2 v3 v4 v5) (u : Value) : R6 (w.setCell ⟨g, 0, none⟩ u) g u v1 v2 v3 v4 v5 := by unfold R6 at h ⊢; simp [World.setCell, Array.getElem?_modify, h]
theorem R6.set1 (h : R6 w g v0 v1 v2 v3 v4 v5) (u : Value) : R6 (w.setCell ⟨g, 1, none⟩ u) g v0 u v2 v3 v4 v5 := by unfold R6 at h ⊢; simp [World.setCell, Array.getElem?_modify, h]
theorem R6.set2 (h : R6 w g v0 v1 v2 v3 v4 v5) (u : Value) : R6 (w.setCell ⟨g, 2, none⟩ u) g v0 v1 u v3 v4 v5 := by unfold R6 at h ⊢; simp [World.setCell, Array.getElem?_modify, h]
theorem R6.far (h : R6 w g v0 v1 v2 v3 v4 v5) {p : Addr} (hne : g ≠ p.block) (u : Value) : R6 (w.setCell p u) g v0 v1 v2 v3 v4 v5 := (Below.heap_setCell w _ _ g hne).trans h
end
theorem below_setb {B g j : Nat} {w0 w : World} (h : Below B w0 w) (hg : B ≤ g) (u : Value) : Below B w0 (w.setCell ⟨g, j, none⟩ u) := h.setCell hg u
abbrev zr : List Value := [.int .i64 0, .string ⟨#[]⟩, .string ⟨#[]⟩, .float .f64 0, .int .i64 0, .slice none 0 0]
abbrev Rs (raw str : ByteArray) : Value := .agg #[.int .i64 3, .string raw, .string str, .float .f64 0, .int .i64 0, .slice none 0 0]
theorem existsS (raw str : ByteArray) (w : World) :
    Calls Tryd.prog 17 #[Rs raw str] w fun en w' => en = .returned (.bool true) ∧ Below w.heap.size w w' := by
  go_enter Tryd.func17, Tryd.ntmps17
  go_wp2
  go_ret
  exact ⟨rfl, below_alloc (Below.refl _ _) _⟩
set_option maxRecDepth 100000 in
set_option maxHeartbeats 8000000 in
theorem parseW (s : ByteArray) (w : World) (hs : s.size ≤ 16384) : Calls Tryd.prog 8 #[.string (esc s)] w fun e w' => e = .returned (Rs (esc s) s) ∧ Below w.heap.size w w' := by
  have hz := esc_size s
  have hzz := escP_size s s.size
  have htm : (esc s).size ≤ 100001 := by omega
  have ht0 := esc_zero s
  have htw := tostrW s
  have hlt : 0 < (esc s).size := by omega
  have hex := ext_all (esc s)
  obtain ⟨t, ht⟩ : ∃ t, esc s = t := ⟨_, rfl⟩
  unfold StrPost at htw
  rw [ht] at ht0 htw htm hlt hex ⊢
  have HTW := Lib.hid htw
  have x0 : ∀ h : 0 < t.size, ((t[0]'h).toNat : Int) = bt t (0 : Nat) := bt_at t 0
  rw [show bt t ((0 : Nat) : Int) = 34 from ht0] at x0
  clear hz hzz htw ht ht0
  obtain ⟨w1, hw1⟩ : ∃ w1, w.alloc (.cells #[.int .i64 0, .string ⟨#[]⟩, .string ⟨#[]⟩, .float .f64 0, .int .i64 0, .slice none 0 0] 32) = w1 := ⟨_, rfl⟩
  have hr1 : R6 w1 w.heap.size (.int .i64 0) (.string ⟨#[]⟩) (.string ⟨#[]⟩) (.float .f64 0) (.int .i64 0) (.slice none 0 0) := by rw [← hw1]; exact R6.new _ _ _ _ _ _ _
  have hb1 : Below w.heap.size w w1 := by rw [← hw1]; exact below_alloc (Below.refl _ _) _
  obtain ⟨w2, hw2⟩ : ∃ w2, w1.alloc (.cells #[.int .i64 0, .string ⟨#[]⟩, .string ⟨#[]⟩, .float .f64 0, .int .i64 0, .slice none 0 0] 32) = w2 := ⟨_, rfl⟩
  have hr2 : R6 w2 w1.heap.size (.int .i64 0) (.string ⟨#[]⟩) (.string ⟨#[]⟩) (.float .f64 0) (.int .i64 0) (.slice none 0 0) := by rw [← hw2]; exact R6.new _ _ _ _ _ _ _
  have hb2 : Below w1.heap.size w1 w2 := by rw [← hw2]; exact below_alloc (Below.refl _ _) _
  have hne : w.heap.size ≠ w1.heap.size := by have := hr1.lt; omega
  have HR1 := Lib.hid (hr1.below hb2)
  have HR2 := Lib.hid hr2
  have HB2 := Lib.hid (below_step hb1 hb2)
  have HNE := Lib.hid hne
  have HSZ := Lib.hid (show w.heap.size ≤ w1.heap.size from hb1.size)
  have a0 := hr2.c0
  have f0 := hr2.f 0
  clear hr1 hb1 hr2 hb2 hne
  go_enter Tryd.func8, Tryd.ntmps8
  go_wp2
  go_loopg [4] 1 (fun d v4 wr => v4 = .int .i64 0 ∧ w2 = wr)
  case atStart => exact ⟨rfl, rfl⟩
  case round =>
    obtain ⟨rfl, rfl⟩ := hrel
    go_upto_region 43 with (first
      | (go_at_call 16; go_must (refine (HTW.out _ hs).mono ?_); rintro e w3 ⟨rfl, hb3⟩
         have hp1 := (HR1.out.far (p := ⟨w1.heap.size, 0, none⟩) HNE.out (.int .i64 3)).below hb3
         have hp2 := (HR2.out.set0 (.int .i64 3)).below hb3
         have b1 := hp2.c1
         have b2 := hp2.c2
         have g1 := hp2.f 1
         have g2 := hp2.f 2
         replace hp1 := Lib.hid hp1
         replace hp2 := Lib.hid hp2
         replace hb3 := Lib.hid hb3))
    clear b1 b2 g1 g2 a0 f0
    obtain ⟨w4, hw4⟩ : ∃ w4, (w3.setCell ⟨w1.heap.size, 1, none⟩ (.string t)).setCell ⟨w1.heap.size, 2, none⟩ (.string s) = w4 := ⟨_, rfl⟩
    rw [hw4]
    have HB4 := Lib.hid (show Below w.heap.size w w4 by rw [← hw4]; exact (((HB2.out.setCell (by have := HR2.out.lt; have := HB2.out.size; show w.heap.size ≤ w1.heap.size; exact HSZ.out) _).trans (hb3.out.mono (by have := HB2.out.size; simp; exact this))).setCell HSZ.out _).setCell HSZ.out _)
    have k1 := (hp1.out.far (p := ⟨w1.heap.size, 1, none⟩) HNE.out (.string t)).far (p := ⟨w1.heap.size, 2, none⟩) HNE.out (.string s)
    have k2 := (hp2.out.set1 (.string t)).set2 (.string s)
    rw [hw4] at k1 k2
    have HK1 := Lib.hid k1
    have HK2 := Lib.hid k2
    have m0 := k2.c0
    have m1 := k2.c1
    have m2 := k2.c2
    have m3 := k2.c3
    have m4 := k2.c4
    have m5 := k2.c5
    clear k1 k2 hw4
    go_upto_region 44 with (first
      | (go_at_call 17; (with_reducible refine (existsS t s _).mono ?_); rintro e w5 ⟨rfl, hb5⟩; replace hb5 := Lib.hid hb5))
    clear m0 m1 m2 m3 m4 m5
    have k1 := HK1.out.below hb5.out
    have k2 := HK2.out.below hb5.out
    have m0 := k2.c0
    have m1 := k2.c1
    have m2 := k2.c2
    have m3 := k2.c3
    have m4 := k2.c4
    have m5 := k2.c5
    have n4 := k2.f 4
    have q0 := k1.c0
    have q1 := k1.c1
    have q2 := k1.c2
    have q3 := k1.c3
    have q4 := k1.c4
    have q5 := k1.c5
    have r0 := k1.f 0
    have r1 := k1.f 1
    have r2 := k1.f 2
    have r3 := k1.f 3
    have r4 := k1.f 4
    have r5 := k1.f 5
    have hne := HNE.out
    clear k1 k2
    go_wp2
    refine bodyPost_ret (v := Rs t s) (by simp [results, Tryd.results8, go_sem, q0, q1, q2, q3, q4, q5]) rfl ⟨rfl, ?_⟩
    iterate 6 with_reducible refine below_setb ?_ (Nat.le_refl _) _
    with_reducible refine below_setb ?_ HSZ.out _
    exact below_step HB4.out hb5.out
/-- Less of two strings. -/
theorem lessW (a b x y : ByteArray) (v : Bool) (hv : Op.bytesLess a.toList b.toList = v) (w : World) : Calls Tryd.prog 9 #[Rs x a, Rs y b, .bool true] w fun e w' => e = .returned (.bool v) ∧ Below w.heap.size w w' := by
  go_enter Tryd.func9, Tryd.ntmps9
  go_wp2
  go_ret
  exact ⟨rfl, below_alloc (below_alloc (Below.refl _ _) _) _⟩
theorem gjLessW (a b x y : ByteArray) (v : Bool) (hv : Op.bytesLess a.toList b.toList = v) (hx : esc a = x) (hy : esc b = y) (w : World) (ha : a.size ≤ 16384) (hb : b.size ≤ 16384) :
    Calls Tryd.prog 5 #[.string x, .string y, .bool true] w fun e w' => e = .returned (.bool v) ∧ Below w.heap.size w w' := by
  have pa := fun w => parseW a w ha
  have pb := fun w => parseW b w hb
  rw [hx] at pa
  rw [hy] at pb
  have HPA := Lib.hid pa
  have HPB := Lib.hid pb
  have HV := Lib.hid hv
  have tok1 : True := trivial
  clear pa pb hv hx hy
  go_enter Tryd.func5, Tryd.ntmps5
  go_wp2_with (first
    | (go_at_call 8; have _t := tok1; (refine (HPA.out _).mono ?_); rintro e w1 ⟨rfl, hb1⟩; replace hb1 := Lib.hid hb1; clear _t tok1)
    | (go_at_call 8; (refine (HPB.out _).mono ?_); rintro e w2 ⟨rfl, hb2⟩; replace hb2 := Lib.hid hb2)
    | (go_at_call 9; (with_reducible refine (lessW a b x y v HV.out _).mono ?_); rintro e w3 ⟨rfl, hb3⟩; replace hb3 := Lib.hid hb3))
  go_ret
  exact ⟨rfl, below_step (below_step hb1.out hb2.out) hb3.out⟩
set_option maxRecDepth 100000 in
set_option maxHeartbeats 4000000 in
theorem lawL (a b : ByteArray) (w : World) (ha0 : a.size ≤ 140737488351232) (hb0 : b.size ≤ 140737488351232) :
    Calls Tryd.prog 3 #[.string a, .string b] w fun e w' => e = .returned (.bool true) ∧ Below w.heap.size w w' := by
  by_cases h1 : 2147483647 < a.size
  · go_enter Tryd.func3, Tryd.ntmps3
    go_wp2
    go_ret
    exact ⟨rfl, Below.refl _ _⟩
  by_cases h2 : 2147483647 < b.size
  · go_enter Tryd.func3, Tryd.ntmps3
    go_wp2
    go_ret
    exact ⟨rfl, Below.refl _ _⟩
  by_cases h3 : 4096 < a.size + b.size
  · go_enter Tryd.func3, Tryd.ntmps3
    go_wp2
    go_ret
    exact ⟨rfl, Below.refl _ _⟩
  obtain ⟨x, hx⟩ : ∃ x, esc a = x := ⟨_, rfl⟩
  obtain ⟨y, hy⟩ : ∃ y, esc b = y := ⟨_, rfl⟩
  have qa := fun w => quote a w (by omega)
  have qb := fun w => quote b w (by omega)
  rw [hx] at qa
  rw [hy] at qb
  have HQA := Lib.hid qa
  have HQB := Lib.hid qb
  have HX := Lib.hid hx
  have HY := Lib.hid hy
  clear qa qb hx hy
  have tok1 : True := trivial
  have tok2 : True := trivial
  cases hv : Op.bytesLess a.toList b.toList
  all_goals
    have HV := Lib.hid hv
    go_enter Tryd.func3, Tryd.ntmps3
    go_wp2_with (first
      | (go_at_call 4; have _t := tok1; (refine (utf8A a _ (by omega)).mono ?_); rintro e w1 ⟨⟨u, rfl⟩, rfl⟩; clear _t tok1; cases u)
      | (go_at_call 4; (refine (utf8A b _ (by omega)).mono ?_); rintro e w1 ⟨⟨u, rfl⟩, rfl⟩; cases u)
      | (go_at_call 6; have _t := tok2; (refine (HQA.out _).mono ?_); rintro e w2 ⟨rfl, hb2⟩; replace hb2 := Lib.hid hb2; clear _t tok2)
      | (go_at_call 6; (refine (HQB.out _).mono ?_); rintro e w3 ⟨rfl, hb3⟩; replace hb3 := Lib.hid hb3)
      | (go_at_call 5; (with_reducible refine (gjLessW a b x y _ HV.out HX.out HY.out _ (by omega) (by omega)).mono ?_); rintro e w4 ⟨rfl, hb4⟩; replace hb4 := Lib.hid hb4))
    all_goals go_ret
    all_goals first | exact ⟨rfl, Below.refl _ _⟩ | exact ⟨rfl, below_step (below_step hb2.out hb3.out) hb4.out⟩
end Go.Proofs.YtnhnkpgbdpbafaaDoor.L
