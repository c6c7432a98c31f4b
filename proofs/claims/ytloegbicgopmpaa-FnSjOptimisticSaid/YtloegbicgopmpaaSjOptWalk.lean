/- The walk of FnSjOptimistic: printed by print.sh, two facts added. -/
import Derived.Test.YtloegbicgopmpaaPFnSjOptimisticx0
import Derived.Test.YtloegbicgopmpaaPFnSjOptimisticx1
namespace Go.Proofs.Ytloegbicgopmpaa.PFnSjOptimistic
open Go.RowKit Go.Proofs.YtloegbicgopmpaaW.PrintWords Go.Proofs.YtloegbicgopmpaaW.PrintLast Go.Proofs.YtloegbicgopmpaaW.PrintMore
attribute [local go_sem] max2_int min2_int max_two min_two max_three min_three max_four min_four   -- for this text's walks alone
set_option linter.unusedVariables false
set_option linter.unusedSimpArgs false

/-! ### laws_FnSjOptimistic: function 4 -/
mutual
def laws_FnSjOptimistic.j0 : Nat → ByteArray → Int → Int → Bool → Option (Bool)
  | 0, _, _, _, _ => none
  | k + 1, x0, x1, x2, x25 => if x25 = true then (some true) else (laws_FnSjOptimistic.l0 k x0 x1 x2 0)
def laws_FnSjOptimistic.l0 : Nat → ByteArray → Int → Int → Int → Option (Bool)
  | 0, _, _, _, _ => none
  | k + 1, x0, x1, x2, x7 => if x7 < (x0.size : Int) then (if 0 ≤ x7 then (if (bt x0 x7) = 46 then (laws_FnSjOptimistic.l0 k x0 x1 x2 (wrap64 (x7 + 1))) else (if 97 ≤ (bt x0 x7) then (if (bt x0 x7) ≤ 122 then (laws_FnSjOptimistic.l0 k x0 x1 x2 (wrap64 (x7 + 1))) else (if 65 ≤ (bt x0 x7) then (if (bt x0 x7) ≤ 90 then (laws_FnSjOptimistic.l0 k x0 x1 x2 (wrap64 (x7 + 1))) else (if 48 ≤ (bt x0 x7) then (if ((bt x0 x7) ≤ 57) then (laws_FnSjOptimistic.l0 k x0 x1 x2 (wrap64 (x7 + 1))) else (some true)) else (some true))) else (if 48 ≤ (bt x0 x7) then (if ((bt x0 x7) ≤ 57) then (laws_FnSjOptimistic.l0 k x0 x1 x2 (wrap64 (x7 + 1))) else (some true)) else (some true)))) else (if 65 ≤ (bt x0 x7) then (if (bt x0 x7) ≤ 90 then (laws_FnSjOptimistic.l0 k x0 x1 x2 (wrap64 (x7 + 1))) else (if 48 ≤ (bt x0 x7) then (if ((bt x0 x7) ≤ 57) then (laws_FnSjOptimistic.l0 k x0 x1 x2 (wrap64 (x7 + 1))) else (some true)) else (some true))) else (if 48 ≤ (bt x0 x7) then (if ((bt x0 x7) ≤ 57) then (laws_FnSjOptimistic.l0 k x0 x1 x2 (wrap64 (x7 + 1))) else (some true)) else (some true))))) else (none)) else (if 0 ≤ (Int.tmod (wrap64 ((Int.tmod x2 5) + 5)) 5) then (if (Int.tmod (wrap64 ((Int.tmod x2 5) + 5)) 5) < 5 then ((impl_SjOptimistic.f k x0).bind fun t103 => (if t103 = true then (if 0 ≤ x1 then (if x1 ≤ (x0.size : Int) then ((some (([bt (⟨#[124, 35, 64, 42, 63]⟩ : ByteArray) (Int.tmod (wrap64 ((Int.tmod x2 5) + 5)) 5)] : List Int) : List Int)).bind fun y104 => (if (x0.extract 0 (x1 : Int).toNat).size + (strOfNums y104).size ≤ 9223372036854775807 then (if ((x0.extract 0 (x1 : Int).toNat) ++ (strOfNums y104)).size + (x0.extract (x1 : Int).toNat x0.size).size ≤ 9223372036854775807 then ((impl_SjOptimistic.f k (((x0.extract 0 (x1 : Int).toNat) ++ (strOfNums y104)) ++ (x0.extract (x1 : Int).toNat x0.size))).bind fun t107 => (some (!t107))) else (none)) else (none))) else (none)) else (none)) else (some false))) else (none)) else (none))
end
def laws_FnSjOptimistic.f (k : Nat) (a0 : ByteArray) (a1 : Int) (a2 : Int) : Option (Bool) := if (a0.size : Int) > 2147483647 then (some true) else (if a1 < 0 then (laws_FnSjOptimistic.j0 k a0 a1 a2 true) else (if a1 > (a0.size : Int) then (laws_FnSjOptimistic.j0 k a0 a1 a2 true) else (laws_FnSjOptimistic.j0 k a0 a1 a2 (decide ((a0.size : Int) > 4096)))))
theorem laws_FnSjOptimistic.mono_l : ∀ k, (∀ y0 y1 y2 y3, LeO (laws_FnSjOptimistic.j0 k y0 y1 y2 y3) (laws_FnSjOptimistic.j0 (k + 1) y0 y1 y2 y3)) ∧ (∀ y0 y1 y2 y3, LeO (laws_FnSjOptimistic.l0 k y0 y1 y2 y3) (laws_FnSjOptimistic.l0 (k + 1) y0 y1 y2 y3))
  | 0 => ⟨fun _ _ _ _ r h => by simp [laws_FnSjOptimistic.j0] at h, fun _ _ _ _ r h => by simp [laws_FnSjOptimistic.l0] at h⟩
  | k + 1 => by
    obtain ⟨ih0, ih1⟩ := laws_FnSjOptimistic.mono_l k
    refine ⟨?_, ?_⟩
    · intro y0 y1 y2 y3
      unfold laws_FnSjOptimistic.j0
      repeat' first
      | (with_reducible exact ih0 _ _ _ _)
      | (with_reducible exact ih1 _ _ _ _)
      | (with_reducible exact impl_SjOptimistic.mono _ _)
      | (with_reducible exact LeO.refl _)
      | (with_reducible exact LeO.none _)
      | (with_reducible refine LeO.ite ?_ ?_)
      | (with_reducible refine LeO.bind ?_ (fun _ => ?_))
      | exact ih0 _ _ _ _
      | exact ih1 _ _ _ _
      | exact impl_SjOptimistic.mono _ _
      | exact LeO.none _
      | refine LeO.ite ?_ ?_
      | refine LeO.bind ?_ (fun _ => ?_)
    · intro y0 y1 y2 y3
      unfold laws_FnSjOptimistic.l0
      repeat' first
      | (with_reducible exact ih0 _ _ _ _)
      | (with_reducible exact ih1 _ _ _ _)
      | (with_reducible exact impl_SjOptimistic.mono _ _)
      | (with_reducible exact LeO.refl _)
      | (with_reducible exact LeO.none _)
      | (with_reducible refine LeO.ite ?_ ?_)
      | (with_reducible refine LeO.bind ?_ (fun _ => ?_))
      | exact ih0 _ _ _ _
      | exact ih1 _ _ _ _
      | exact impl_SjOptimistic.mono _ _
      | exact LeO.none _
      | refine LeO.ite ?_ ?_
      | refine LeO.bind ?_ (fun _ => ?_)
theorem laws_FnSjOptimistic.mono : ∀ a0 a1 a2 k, LeO (laws_FnSjOptimistic.f k a0 a1 a2) (laws_FnSjOptimistic.f (k + 1) a0 a1 a2) := by
  intro a0 a1 a2 k
  obtain ⟨ih0, ih1⟩ := laws_FnSjOptimistic.mono_l k
  unfold laws_FnSjOptimistic.f
  repeat' first
      | (with_reducible exact ih0 _ _ _ _)
      | (with_reducible exact ih1 _ _ _ _)
      | (with_reducible exact impl_SjOptimistic.mono _ _)
      | (with_reducible exact LeO.refl _)
      | (with_reducible exact LeO.none _)
      | (with_reducible refine LeO.ite ?_ ?_)
      | (with_reducible refine LeO.bind ?_ (fun _ => ?_))
      | exact ih0 _ _ _ _
      | exact ih1 _ _ _ _
      | exact impl_SjOptimistic.mono _ _
      | exact LeO.none _
      | refine LeO.ite ?_ ?_
      | refine LeO.bind ?_ (fun _ => ?_)
def laws_FnSjOptimistic.T12 : Bool × List (List Nat × List Nat) := (true, [([], []), ([0], [0]), ([1, 1], [1]), ([2], [2]), ([2], [2]), ([3, 4, 2], [2, 3, 4]), ([2], [2]), ([6, 2], [2, 6]), ([7, 2], [2, 7]), ([5, 8, 2], [2, 5, 8]), ([2], [2]), ([2], [2]), ([10, 11, 2], [2, 10, 11]), ([9, 12, 2], [2, 9, 12]), ([13, 2, 2], [2, 13]), ([14, 2], [2, 14]), ([2, 15], [2, 15]), ([16, 14, 0, 1, 2, 3, 4, 5, 6, 7, 8, 9, 10, 11, 12, 13, 14, 15, 16], [16])])
def laws_FnSjOptimistic.B12 : List Nat := [0, 1, 3, 7, 7, 31, 7, 71, 199, 511, 7, 7, 3079, 8191, 16383, 32767, 65535, 131071]
theorem laws_FnSjOptimistic.tab12 : rtab .any (opsOf Try.f4 12) = laws_FnSjOptimistic.T12 := by kernel_rfl
theorem laws_FnSjOptimistic.bits12 : waitsOk laws_FnSjOptimistic.T12.2 laws_FnSjOptimistic.B12 = true := by kernel_rfl
set_option maxHeartbeats 8000000 in
set_option maxRecDepth 100000 in
theorem laws_FnSjOptimistic.calls (k : Nat) (a0 : ByteArray) (a1 : Int) (a2 : Int) (r : Bool) (w : World) (h : laws_FnSjOptimistic.f k a0 a1 a2 = some r) :
    Calls Try.prog 4 #[.string a0, .int .i64 a1, .int .i64 a2] w fun e w' => e = .returned (.bool r) ∧ Below w.heap.size w w' := by
  have HB := Aside0.mk (Below.refl w.heap.size w)
  have H : (if (a0.size : Int) > 2147483647 then (some true) else (if a1 < 0 then (laws_FnSjOptimistic.j0 k a0 a1 a2 true) else (if a1 > (a0.size : Int) then (laws_FnSjOptimistic.j0 k a0 a1 a2 true) else (laws_FnSjOptimistic.j0 k a0 a1 a2 (decide ((a0.size : Int) > 4096)))))) = some r := h
  clear h
  by_cases c4 : (a0.size : Int) > 2147483647
  · rw [if_pos c4] at H
    have c4b0 : decide (2147483647 < (a0.size : Int)) = true := decide_eq_true c4
    have c4b1 : decide (2147483647 < a0.size) = true := decide_eq_true (by omega)
    clear c4
    obtain rfl := Option.some.inj H
    go_enter Try.func4, Try.ntmps4
    go_wp2
    go_ret
    exact ⟨by first | rfl | (simp [errW_none, errW_some] <;> rfl) | (simp [*, errW_none, errW_some] <;> rfl), by repeat (first | (with_reducible first | exact HB.out | apply below_alloc | apply pw_below_drewN | apply below_drew1) | exact HB.out)⟩
  · rw [if_neg c4] at H
    have c4b0 : decide (2147483647 < (a0.size : Int)) = false := decide_eq_false c4
    have c4b1 : decide (2147483647 < a0.size) = false := decide_eq_false (by omega)
    clear c4
    have HC5 := Aside0.mk H
    clear H
    go_enter Try.func4, Try.ntmps4
    go_upto_region 3 with (fail)
    go_cut [25] (fun v25 wc => ∃ (kq : Nat) (x25_4 : Bool), v25 = .bool x25_4 ∧ Aside0 (laws_FnSjOptimistic.j0 kq a0 a1 a2 x25_4 = some r) ∧ Aside0 (kq ≤ k) ∧ Aside0 (Below w.heap.size w wc))
    case first =>
      have H := HC5.out
      clear HC5
      by_cases c6 : a1 < 0
      · rw [if_pos c6] at H
        have c6b0 : decide (a1 < 0) = true := decide_eq_true c6
        clear c6
        (first | rw [c6b0] | (simp only [i64_w, i32_w]; rw [c6b0]) | skip)
        have H' := Aside0.mk H
        clear H
        go_wp2
        go_meet
        case rel => exact ⟨_, (true), (by first | rfl | (simp; done) | (simp [*]; done)), H', ⟨by first | omega | exact Nat.le_refl _⟩, ⟨by repeat (first | (with_reducible first | exact HB.out | apply below_alloc | apply pw_below_drewN | apply below_drew1) | exact HB.out)⟩⟩
      · rw [if_neg c6] at H
        have c6b0 : decide (a1 < 0) = false := decide_eq_false c6
        clear c6
        (first | rw [c6b0] | (simp only [i64_w, i32_w]; rw [c6b0]) | skip)
        by_cases c7 : a1 > (a0.size : Int)
        · rw [if_pos c7] at H
          have c7b0 : decide ((a0.size : Int) < a1) = true := decide_eq_true c7
          clear c7
          have H' := Aside0.mk H
          clear H
          go_wp2
          go_meet
          case rel => exact ⟨_, (true), (by first | rfl | (simp; done) | (simp [*]; done)), H', ⟨by first | omega | exact Nat.le_refl _⟩, ⟨by repeat (first | (with_reducible first | exact HB.out | apply below_alloc | apply pw_below_drewN | apply below_drew1) | exact HB.out)⟩⟩
        · rw [if_neg c7] at H
          have c7b0 : decide ((a0.size : Int) < a1) = false := decide_eq_false c7
          clear c7
          have H' := Aside0.mk H
          clear H
          go_wp2
          go_meet
          case rel => exact ⟨_, (decide ((a0.size : Int) > 4096)), (by first | rfl | (simp; done) | (simp [*]; done)), H', ⟨by first | omega | exact Nat.le_refl _⟩, ⟨by repeat (first | (with_reducible first | exact HB.out | apply below_alloc | apply pw_below_drewN | apply below_drew1) | exact HB.out)⟩⟩
    case rest =>
      clear HC5
      try clear p2
      try clear c4
      try clear c4b0
      try clear c4b1
      try clear c6
      try clear c6b0
      try clear c7
      try clear c7b0
      obtain ⟨kq, x25_4, rfl, HA, HJ4, HB⟩ := hcut
      cases kq with
      | zero => exact absurd HA.out (by simp [laws_FnSjOptimistic.j0])
      | succ kj4 =>
        have H := HA.out
        clear HA
        simp only [laws_FnSjOptimistic.j0] at H
        by_cases c8 : x25_4 = true
        · subst c8
          have H1 : (some true) = some r := by rw [if_pos rfl] at H; exact H
          clear H
          have H := H1
          clear H1
          obtain rfl := Option.some.inj H
          go_wp2
          go_ret
          exact ⟨by first | rfl | (simp [errW_none, errW_some] <;> rfl) | (simp [*, errW_none, errW_some] <;> rfl), by repeat (first | (with_reducible first | exact HB.out | apply below_alloc | apply pw_below_drewN | apply below_drew1) | exact HB.out)⟩
        · replace c8 := Bool.eq_false_iff.mpr c8
          subst c8
          have H1 : (laws_FnSjOptimistic.l0 kj4 a0 a1 a2 0) = some r := by rw [if_neg (show ¬ (false = true) by decide)] at H; exact H
          clear H
          have H := H1
          clear H1
          have H' := Aside0.mk H
          clear H
          go_wp2
          go_loopg [7] kj4 (fun kq v7 w' => ∃ (x7_2 : Int), v7 = .int .i64 x7_2 ∧ Aside0 (laws_FnSjOptimistic.l0 kq a0 a1 a2 x7_2 = some r) ∧ Aside0 (kq ≤ kj4) ∧ Aside0 (Below w.heap.size w w'))
          case atStart => exact ⟨(0), (by first | rfl | (simp; done) | (simp [*]; done)), H', ⟨Nat.le_refl _⟩, ⟨by repeat (first | (with_reducible first | exact HB.out | apply below_alloc | apply pw_below_drewN | apply below_drew1) | exact HB.out)⟩⟩
          case round =>
            clear H'
            try clear p2
            try clear c4
            try clear c4b0
            try clear c4b1
            try clear c6
            try clear c6b0
            try clear c7
            try clear c7b0
            try clear c8
            try clear p2
            obtain ⟨x7_2, rfl, HA, HK2, HB⟩ := hrel
            cases gk with
            | zero => exact absurd HA.out (by simp [laws_FnSjOptimistic.l0])
            | succ k2 =>
              have H := HA.out
              clear HA
              simp only [laws_FnSjOptimistic.l0] at H
              by_cases c9 : x7_2 < (a0.size : Int)
              · rw [if_pos c9] at H
                have c9b0 : decide (x7_2 < (a0.size : Int)) = true := decide_eq_true c9
                clear c9
                by_cases c10 : 0 ≤ x7_2
                · rw [if_pos c10] at H
                  have c10b0 : decide (0 ≤ x7_2) = true := decide_eq_true c10
                  clear c10
                  by_cases c12 : (bt a0 x7_2) = 46
                  · rw [if_pos c12] at H
                    have c12b0 : ((bt a0 x7_2) == 46) = true := beq_iff_eq.mpr c12
                    have c12b1 : ((bt a0 x7_2) != 46) = false := bne_eq_false_iff_eq.mpr c12
                    clear c12
                    have H' := Aside0.mk H
                    clear H
                    have p11 : 0 ≤ (x7_2 : Int) := of_decide_eq_true (by first | (with_reducible assumption) | assumption)
                    have q11 : x7_2 < (a0.size : Int) := of_decide_eq_true (by first | (with_reducible assumption) | assumption)
                    have hx11 := bt_at a0 x7_2
                    replace p11 := eq_true p11
                    replace q11 := eq_true q11
                    go_wp2
                    go_roundg k2
                    case measure => have := HJ4.out; have := HK2.out; omega
                    case rel => exact ⟨(wrap64 (x7_2 + 1)), (by first | rfl | (simp; done) | (simp [*]; done)), H', ⟨by have := HJ4.out; have := HK2.out; omega⟩, ⟨by repeat (first | (with_reducible first | exact HB.out | apply below_alloc | apply pw_below_drewN | apply below_drew1) | exact HB.out)⟩⟩
                  · rw [if_neg c12] at H
                    have c12b0 : ((bt a0 x7_2) == 46) = false := beq_eq_false_iff_ne.mpr c12
                    have c12b1 : ((bt a0 x7_2) != 46) = true := bne_iff_ne.mpr c12
                    by_cases c13 : 97 ≤ (bt a0 x7_2)
                    · rw [if_pos c13] at H
                      have c13b0 : decide (97 ≤ (bt a0 x7_2)) = true := decide_eq_true c13
                      clear c13
                      by_cases c14 : (bt a0 x7_2) ≤ 122
                      · rw [if_pos c14] at H
                        have c14b0 : decide ((bt a0 x7_2) ≤ 122) = true := decide_eq_true c14
                        clear c14
                        have H' := Aside0.mk H
                        clear H
                        have p11 : 0 ≤ (x7_2 : Int) := of_decide_eq_true (by first | (with_reducible assumption) | assumption)
                        have q11 : x7_2 < (a0.size : Int) := of_decide_eq_true (by first | (with_reducible assumption) | assumption)
                        have hx11 := bt_at a0 x7_2
                        replace p11 := eq_true p11
                        replace q11 := eq_true q11
                        go_wp2
                        go_roundg k2
                        case measure => have := HJ4.out; have := HK2.out; omega
                        case rel => exact ⟨(wrap64 (x7_2 + 1)), (by first | rfl | (simp; done) | (simp [*]; done)), H', ⟨by have := HJ4.out; have := HK2.out; omega⟩, ⟨by repeat (first | (with_reducible first | exact HB.out | apply below_alloc | apply pw_below_drewN | apply below_drew1) | exact HB.out)⟩⟩
                      · rw [if_neg c14] at H
                        have c14b0 : decide ((bt a0 x7_2) ≤ 122) = false := decide_eq_false c14
                        clear c14
                        by_cases c15 : 65 ≤ (bt a0 x7_2)
                        · rw [if_pos c15] at H
                          have c15b0 : decide (65 ≤ (bt a0 x7_2)) = true := decide_eq_true c15
                          clear c15
                          by_cases c16 : (bt a0 x7_2) ≤ 90
                          · rw [if_pos c16] at H
                            have c16b0 : decide ((bt a0 x7_2) ≤ 90) = true := decide_eq_true c16
                            clear c16
                            have H' := Aside0.mk H
                            clear H
                            have p11 : 0 ≤ (x7_2 : Int) := of_decide_eq_true (by first | (with_reducible assumption) | assumption)
                            have q11 : x7_2 < (a0.size : Int) := of_decide_eq_true (by first | (with_reducible assumption) | assumption)
                            have hx11 := bt_at a0 x7_2
                            replace p11 := eq_true p11
                            replace q11 := eq_true q11
                            go_wp2
                            go_roundg k2
                            case measure => have := HJ4.out; have := HK2.out; omega
                            case rel => exact ⟨(wrap64 (x7_2 + 1)), (by first | rfl | (simp; done) | (simp [*]; done)), H', ⟨by have := HJ4.out; have := HK2.out; omega⟩, ⟨by repeat (first | (with_reducible first | exact HB.out | apply below_alloc | apply pw_below_drewN | apply below_drew1) | exact HB.out)⟩⟩
                          · rw [if_neg c16] at H
                            have c16b0 : decide ((bt a0 x7_2) ≤ 90) = false := decide_eq_false c16
                            clear c16
                            by_cases c17 : 48 ≤ (bt a0 x7_2)
                            · rw [if_pos c17] at H
                              have c17b0 : decide (48 ≤ (bt a0 x7_2)) = true := decide_eq_true c17
                              clear c17
                              by_cases c18 : ((bt a0 x7_2) ≤ 57)
                              · rw [if_pos c18] at H
                                have c18b0 : decide ((bt a0 x7_2) ≤ 57) = true := decide_eq_true c18
                                clear c18
                                have H' := Aside0.mk H
                                clear H
                                have p11 : 0 ≤ (x7_2 : Int) := of_decide_eq_true (by first | (with_reducible assumption) | assumption)
                                have q11 : x7_2 < (a0.size : Int) := of_decide_eq_true (by first | (with_reducible assumption) | assumption)
                                have hx11 := bt_at a0 x7_2
                                replace p11 := eq_true p11
                                replace q11 := eq_true q11
                                go_wp2
                                go_roundg k2
                                case measure => have := HJ4.out; have := HK2.out; omega
                                case rel => exact ⟨(wrap64 (x7_2 + 1)), (by first | rfl | (simp; done) | (simp [*]; done)), H', ⟨by have := HJ4.out; have := HK2.out; omega⟩, ⟨by repeat (first | (with_reducible first | exact HB.out | apply below_alloc | apply pw_below_drewN | apply below_drew1) | exact HB.out)⟩⟩
                              · rw [if_neg c18] at H
                                have c18b0 : decide ((bt a0 x7_2) ≤ 57) = false := decide_eq_false c18
                                clear c18
                                obtain rfl := Option.some.inj H
                                have p11 : 0 ≤ (x7_2 : Int) := of_decide_eq_true (by first | (with_reducible assumption) | assumption)
                                have q11 : x7_2 < (a0.size : Int) := of_decide_eq_true (by first | (with_reducible assumption) | assumption)
                                have hx11 := bt_at a0 x7_2
                                replace p11 := eq_true p11
                                replace q11 := eq_true q11
                                go_wp2
                                go_ret
                                exact ⟨by first | rfl | (simp [errW_none, errW_some] <;> rfl) | (simp [*, errW_none, errW_some] <;> rfl), by repeat (first | (with_reducible first | exact HB.out | apply below_alloc | apply pw_below_drewN | apply below_drew1) | exact HB.out)⟩
                            · rw [if_neg c17] at H
                              have c17b0 : decide (48 ≤ (bt a0 x7_2)) = false := decide_eq_false c17
                              clear c17
                              obtain rfl := Option.some.inj H
                              have p11 : 0 ≤ (x7_2 : Int) := of_decide_eq_true (by first | (with_reducible assumption) | assumption)
                              have q11 : x7_2 < (a0.size : Int) := of_decide_eq_true (by first | (with_reducible assumption) | assumption)
                              have hx11 := bt_at a0 x7_2
                              replace p11 := eq_true p11
                              replace q11 := eq_true q11
                              go_wp2
                              go_ret
                              exact ⟨by first | rfl | (simp [errW_none, errW_some] <;> rfl) | (simp [*, errW_none, errW_some] <;> rfl), by repeat (first | (with_reducible first | exact HB.out | apply below_alloc | apply pw_below_drewN | apply below_drew1) | exact HB.out)⟩
                        · rw [if_neg c15] at H
                          have c15b0 : decide (65 ≤ (bt a0 x7_2)) = false := decide_eq_false c15
                          clear c15
                          by_cases c19 : 48 ≤ (bt a0 x7_2)
                          · rw [if_pos c19] at H
                            have c19b0 : decide (48 ≤ (bt a0 x7_2)) = true := decide_eq_true c19
                            clear c19
                            by_cases c20 : ((bt a0 x7_2) ≤ 57)
                            · rw [if_pos c20] at H
                              have c20b0 : decide ((bt a0 x7_2) ≤ 57) = true := decide_eq_true c20
                              clear c20
                              have H' := Aside0.mk H
                              clear H
                              have p11 : 0 ≤ (x7_2 : Int) := of_decide_eq_true (by first | (with_reducible assumption) | assumption)
                              have q11 : x7_2 < (a0.size : Int) := of_decide_eq_true (by first | (with_reducible assumption) | assumption)
                              have hx11 := bt_at a0 x7_2
                              replace p11 := eq_true p11
                              replace q11 := eq_true q11
                              go_wp2
                              go_roundg k2
                              case measure => have := HJ4.out; have := HK2.out; omega
                              case rel => exact ⟨(wrap64 (x7_2 + 1)), (by first | rfl | (simp; done) | (simp [*]; done)), H', ⟨by have := HJ4.out; have := HK2.out; omega⟩, ⟨by repeat (first | (with_reducible first | exact HB.out | apply below_alloc | apply pw_below_drewN | apply below_drew1) | exact HB.out)⟩⟩
                            · rw [if_neg c20] at H
                              have c20b0 : decide ((bt a0 x7_2) ≤ 57) = false := decide_eq_false c20
                              clear c20
                              obtain rfl := Option.some.inj H
                              have p11 : 0 ≤ (x7_2 : Int) := of_decide_eq_true (by first | (with_reducible assumption) | assumption)
                              have q11 : x7_2 < (a0.size : Int) := of_decide_eq_true (by first | (with_reducible assumption) | assumption)
                              have hx11 := bt_at a0 x7_2
                              replace p11 := eq_true p11
                              replace q11 := eq_true q11
                              go_wp2
                              go_ret
                              exact ⟨by first | rfl | (simp [errW_none, errW_some] <;> rfl) | (simp [*, errW_none, errW_some] <;> rfl), by repeat (first | (with_reducible first | exact HB.out | apply below_alloc | apply pw_below_drewN | apply below_drew1) | exact HB.out)⟩
                          · rw [if_neg c19] at H
                            have c19b0 : decide (48 ≤ (bt a0 x7_2)) = false := decide_eq_false c19
                            clear c19
                            obtain rfl := Option.some.inj H
                            have p11 : 0 ≤ (x7_2 : Int) := of_decide_eq_true (by first | (with_reducible assumption) | assumption)
                            have q11 : x7_2 < (a0.size : Int) := of_decide_eq_true (by first | (with_reducible assumption) | assumption)
                            have hx11 := bt_at a0 x7_2
                            replace p11 := eq_true p11
                            replace q11 := eq_true q11
                            go_wp2
                            go_ret
                            exact ⟨by first | rfl | (simp [errW_none, errW_some] <;> rfl) | (simp [*, errW_none, errW_some] <;> rfl), by repeat (first | (with_reducible first | exact HB.out | apply below_alloc | apply pw_below_drewN | apply below_drew1) | exact HB.out)⟩
                    · rw [if_neg c13] at H
                      have c13b0 : decide (97 ≤ (bt a0 x7_2)) = false := decide_eq_false c13
                      clear c13
                      by_cases c21 : 65 ≤ (bt a0 x7_2)
                      · rw [if_pos c21] at H
                        have c21b0 : decide (65 ≤ (bt a0 x7_2)) = true := decide_eq_true c21
                        clear c21
                        by_cases c22 : (bt a0 x7_2) ≤ 90
                        · rw [if_pos c22] at H
                          have c22b0 : decide ((bt a0 x7_2) ≤ 90) = true := decide_eq_true c22
                          clear c22
                          have H' := Aside0.mk H
                          clear H
                          have p11 : 0 ≤ (x7_2 : Int) := of_decide_eq_true (by first | (with_reducible assumption) | assumption)
                          have q11 : x7_2 < (a0.size : Int) := of_decide_eq_true (by first | (with_reducible assumption) | assumption)
                          have hx11 := bt_at a0 x7_2
                          replace p11 := eq_true p11
                          replace q11 := eq_true q11
                          go_wp2
                          go_roundg k2
                          case measure => have := HJ4.out; have := HK2.out; omega
                          case rel => exact ⟨(wrap64 (x7_2 + 1)), (by first | rfl | (simp; done) | (simp [*]; done)), H', ⟨by have := HJ4.out; have := HK2.out; omega⟩, ⟨by repeat (first | (with_reducible first | exact HB.out | apply below_alloc | apply pw_below_drewN | apply below_drew1) | exact HB.out)⟩⟩
                        · rw [if_neg c22] at H
                          have c22b0 : decide ((bt a0 x7_2) ≤ 90) = false := decide_eq_false c22
                          clear c22
                          by_cases c23 : 48 ≤ (bt a0 x7_2)
                          · rw [if_pos c23] at H
                            have c23b0 : decide (48 ≤ (bt a0 x7_2)) = true := decide_eq_true c23
                            clear c23
                            by_cases c24 : ((bt a0 x7_2) ≤ 57)
                            · rw [if_pos c24] at H
                              have c24b0 : decide ((bt a0 x7_2) ≤ 57) = true := decide_eq_true c24
                              clear c24
                              have H' := Aside0.mk H
                              clear H
                              have p11 : 0 ≤ (x7_2 : Int) := of_decide_eq_true (by first | (with_reducible assumption) | assumption)
                              have q11 : x7_2 < (a0.size : Int) := of_decide_eq_true (by first | (with_reducible assumption) | assumption)
                              have hx11 := bt_at a0 x7_2
                              replace p11 := eq_true p11
                              replace q11 := eq_true q11
                              go_wp2
                              go_roundg k2
                              case measure => have := HJ4.out; have := HK2.out; omega
                              case rel => exact ⟨(wrap64 (x7_2 + 1)), (by first | rfl | (simp; done) | (simp [*]; done)), H', ⟨by have := HJ4.out; have := HK2.out; omega⟩, ⟨by repeat (first | (with_reducible first | exact HB.out | apply below_alloc | apply pw_below_drewN | apply below_drew1) | exact HB.out)⟩⟩
                            · rw [if_neg c24] at H
                              have c24b0 : decide ((bt a0 x7_2) ≤ 57) = false := decide_eq_false c24
                              clear c24
                              obtain rfl := Option.some.inj H
                              have p11 : 0 ≤ (x7_2 : Int) := of_decide_eq_true (by first | (with_reducible assumption) | assumption)
                              have q11 : x7_2 < (a0.size : Int) := of_decide_eq_true (by first | (with_reducible assumption) | assumption)
                              have hx11 := bt_at a0 x7_2
                              replace p11 := eq_true p11
                              replace q11 := eq_true q11
                              go_wp2
                              go_ret
                              exact ⟨by first | rfl | (simp [errW_none, errW_some] <;> rfl) | (simp [*, errW_none, errW_some] <;> rfl), by repeat (first | (with_reducible first | exact HB.out | apply below_alloc | apply pw_below_drewN | apply below_drew1) | exact HB.out)⟩
                          · rw [if_neg c23] at H
                            have c23b0 : decide (48 ≤ (bt a0 x7_2)) = false := decide_eq_false c23
                            clear c23
                            obtain rfl := Option.some.inj H
                            have p11 : 0 ≤ (x7_2 : Int) := of_decide_eq_true (by first | (with_reducible assumption) | assumption)
                            have q11 : x7_2 < (a0.size : Int) := of_decide_eq_true (by first | (with_reducible assumption) | assumption)
                            have hx11 := bt_at a0 x7_2
                            replace p11 := eq_true p11
                            replace q11 := eq_true q11
                            go_wp2
                            go_ret
                            exact ⟨by first | rfl | (simp [errW_none, errW_some] <;> rfl) | (simp [*, errW_none, errW_some] <;> rfl), by repeat (first | (with_reducible first | exact HB.out | apply below_alloc | apply pw_below_drewN | apply below_drew1) | exact HB.out)⟩
                      · rw [if_neg c21] at H
                        have c21b0 : decide (65 ≤ (bt a0 x7_2)) = false := decide_eq_false c21
                        clear c21
                        by_cases c25 : 48 ≤ (bt a0 x7_2)
                        · rw [if_pos c25] at H
                          have c25b0 : decide (48 ≤ (bt a0 x7_2)) = true := decide_eq_true c25
                          clear c25
                          by_cases c26 : ((bt a0 x7_2) ≤ 57)
                          · rw [if_pos c26] at H
                            have c26b0 : decide ((bt a0 x7_2) ≤ 57) = true := decide_eq_true c26
                            clear c26
                            have H' := Aside0.mk H
                            clear H
                            have p11 : 0 ≤ (x7_2 : Int) := of_decide_eq_true (by first | (with_reducible assumption) | assumption)
                            have q11 : x7_2 < (a0.size : Int) := of_decide_eq_true (by first | (with_reducible assumption) | assumption)
                            have hx11 := bt_at a0 x7_2
                            replace p11 := eq_true p11
                            replace q11 := eq_true q11
                            go_wp2
                            go_roundg k2
                            case measure => have := HJ4.out; have := HK2.out; omega
                            case rel => exact ⟨(wrap64 (x7_2 + 1)), (by first | rfl | (simp; done) | (simp [*]; done)), H', ⟨by have := HJ4.out; have := HK2.out; omega⟩, ⟨by repeat (first | (with_reducible first | exact HB.out | apply below_alloc | apply pw_below_drewN | apply below_drew1) | exact HB.out)⟩⟩
                          · rw [if_neg c26] at H
                            have c26b0 : decide ((bt a0 x7_2) ≤ 57) = false := decide_eq_false c26
                            clear c26
                            obtain rfl := Option.some.inj H
                            have p11 : 0 ≤ (x7_2 : Int) := of_decide_eq_true (by first | (with_reducible assumption) | assumption)
                            have q11 : x7_2 < (a0.size : Int) := of_decide_eq_true (by first | (with_reducible assumption) | assumption)
                            have hx11 := bt_at a0 x7_2
                            replace p11 := eq_true p11
                            replace q11 := eq_true q11
                            go_wp2
                            go_ret
                            exact ⟨by first | rfl | (simp [errW_none, errW_some] <;> rfl) | (simp [*, errW_none, errW_some] <;> rfl), by repeat (first | (with_reducible first | exact HB.out | apply below_alloc | apply pw_below_drewN | apply below_drew1) | exact HB.out)⟩
                        · rw [if_neg c25] at H
                          have c25b0 : decide (48 ≤ (bt a0 x7_2)) = false := decide_eq_false c25
                          clear c25
                          obtain rfl := Option.some.inj H
                          have p11 : 0 ≤ (x7_2 : Int) := of_decide_eq_true (by first | (with_reducible assumption) | assumption)
                          have q11 : x7_2 < (a0.size : Int) := of_decide_eq_true (by first | (with_reducible assumption) | assumption)
                          have hx11 := bt_at a0 x7_2
                          replace p11 := eq_true p11
                          replace q11 := eq_true q11
                          go_wp2
                          go_ret
                          exact ⟨by first | rfl | (simp [errW_none, errW_some] <;> rfl) | (simp [*, errW_none, errW_some] <;> rfl), by repeat (first | (with_reducible first | exact HB.out | apply below_alloc | apply pw_below_drewN | apply below_drew1) | exact HB.out)⟩
                · rw [if_neg c10] at H
                  exact absurd H (by simp)
              · rw [if_neg c9] at H
                have c9b0 : decide (x7_2 < (a0.size : Int)) = false := decide_eq_false c9
                clear c9
                obtain ⟨ji27, hji27⟩ : ∃ j_ : Int, (Int.tmod (wrap64 ((Int.tmod a2 5) + 5)) 5) = j_ := ⟨_, rfl⟩
                replace H : (if 0 ≤ (ji27) then (if (ji27) < 5 then ((impl_SjOptimistic.f k2 a0).bind fun t103 => (if t103 = true then (if 0 ≤ a1 then (if a1 ≤ (a0.size : Int) then ((some (([bt (⟨#[124, 35, 64, 42, 63]⟩ : ByteArray) (ji27)] : List Int) : List Int)).bind fun y104 => (if (a0.extract 0 (a1 : Int).toNat).size + (strOfNums y104).size ≤ 9223372036854775807 then (if ((a0.extract 0 (a1 : Int).toNat) ++ (strOfNums y104)).size + (a0.extract (a1 : Int).toNat a0.size).size ≤ 9223372036854775807 then ((impl_SjOptimistic.f k2 (((a0.extract 0 (a1 : Int).toNat) ++ (strOfNums y104)) ++ (a0.extract (a1 : Int).toNat a0.size))).bind fun t107 => (some (!t107))) else (none)) else (none))) else (none)) else (none)) else (some false))) else (none)) else (none)) = some r := by first | (rw [hji27] at H; exact H) | (simp only [hji27] at H ⊢; exact H)
                by_cases c28 : 0 ≤ (ji27)
                · rw [if_pos c28] at H
                  have c28b0 : decide (0 ≤ (ji27)) = true := decide_eq_true c28
                  clear c28
                  by_cases c29 : (ji27) < 5
                  · rw [if_pos c29] at H
                    have c29b0 : decide ((ji27) < 5) = true := decide_eq_true c29
                    clear c29
                    replace H := Option.bind_eq_some_iff.mp H
                    obtain ⟨t103, A310, H⟩ := H
                    replace H : (if t103 = true then (if 0 ≤ a1 then (if a1 ≤ (a0.size : Int) then ((some (([bt (⟨#[124, 35, 64, 42, 63]⟩ : ByteArray) (ji27)] : List Int) : List Int)).bind fun y104 => (if (a0.extract 0 (a1 : Int).toNat).size + (strOfNums y104).size ≤ 9223372036854775807 then (if ((a0.extract 0 (a1 : Int).toNat) ++ (strOfNums y104)).size + (a0.extract (a1 : Int).toNat a0.size).size ≤ 9223372036854775807 then ((impl_SjOptimistic.f k2 (((a0.extract 0 (a1 : Int).toNat) ++ (strOfNums y104)) ++ (a0.extract (a1 : Int).toNat a0.size))).bind fun t107 => (some (!t107))) else (none)) else (none))) else (none)) else (none)) else (some false)) = some r := H
                    have A31 := Aside0.mk A310
                    clear A310
                    by_cases c32 : t103 = true
                    · subst c32
                      have H1 : (if 0 ≤ a1 then (if a1 ≤ (a0.size : Int) then ((some (([bt (⟨#[124, 35, 64, 42, 63]⟩ : ByteArray) (ji27)] : List Int) : List Int)).bind fun y104 => (if (a0.extract 0 (a1 : Int).toNat).size + (strOfNums y104).size ≤ 9223372036854775807 then (if ((a0.extract 0 (a1 : Int).toNat) ++ (strOfNums y104)).size + (a0.extract (a1 : Int).toNat a0.size).size ≤ 9223372036854775807 then ((impl_SjOptimistic.f k2 (((a0.extract 0 (a1 : Int).toNat) ++ (strOfNums y104)) ++ (a0.extract (a1 : Int).toNat a0.size))).bind fun t107 => (some (!t107))) else (none)) else (none))) else (none)) else (none)) = some r := by rw [if_pos rfl] at H; exact H
                      clear H
                      have H := H1
                      clear H1
                      by_cases c33 : 0 ≤ a1
                      · rw [if_pos c33] at H
                        have c33b0 := eq_true c33
                        have c33b1 : decide (0 ≤ a1) = true := decide_eq_true c33
                        clear c33
                        by_cases c34 : a1 ≤ (a0.size : Int)
                        · rw [if_pos c34] at H
                          have c34b0 := eq_true c34
                          have c34b1 : decide (a1 ≤ (a0.size : Int)) = true := decide_eq_true c34
                          clear c34
                          obtain ⟨y104, hy104⟩ : ∃ y_ : List Int, y_ = (([bt (⟨#[124, 35, 64, 42, 63]⟩ : ByteArray) (ji27)] : List Int)) := ⟨_, rfl⟩
                          replace H : (if (a0.extract 0 (a1 : Int).toNat).size + (strOfNums y104).size ≤ 9223372036854775807 then (if ((a0.extract 0 (a1 : Int).toNat) ++ (strOfNums y104)).size + (a0.extract (a1 : Int).toNat a0.size).size ≤ 9223372036854775807 then ((impl_SjOptimistic.f k2 (((a0.extract 0 (a1 : Int).toNat) ++ (strOfNums y104)) ++ (a0.extract (a1 : Int).toNat a0.size))).bind fun t107 => (some (!t107))) else (none)) else (none)) = some r := by first | (rw [hy104]; with_reducible exact H) | (have H2_ := (Option.bind_some _ _).symm.trans H; rw [hy104]; with_reducible exact H2_) | (have H2_ := (Option.bind_some _ _).symm.trans H; with_reducible exact H2_) | with_reducible exact H | (rw [hy104]; exact H) | exact H
                          have Ny104 := Aside0.mk hy104
                          clear hy104
                          by_cases c35 : (a0.extract 0 (a1 : Int).toNat).size + (strOfNums y104).size ≤ 9223372036854775807
                          · rw [if_pos c35] at H
                            have c35b0 := eq_true c35
                            have c35b1 : decide ((a0.extract 0 (a1 : Int).toNat).size + (strOfNums y104).size ≤ 9223372036854775807) = true := decide_eq_true c35
                            try have c35b2 : (9223372036854775807 < (a0.extract 0 (a1 : Int).toNat).size + (strOfNums y104).size) = False := eq_false (Nat.not_lt.2 c35)
                            have c35b3 : (9223372036854775807 < a1.toNat + (strOfNums y104).size) = False := by
                              have q : a1 ≤ (a0.size : Int) := of_eq_true c34b0
                              have e : (a0.extract 0 a1.toNat).size = a1.toNat := by rw [ByteArray.size_extract]; omega
                              rw [← e]; exact c35b2
                            have c36b0 := eq_true (of_decide_eq_true (by first | (with_reducible assumption) | assumption) : 0 ≤ a1)
                            have c37b0 := eq_true (of_decide_eq_true (by first | (with_reducible assumption) | assumption) : a1 ≤ (a0.size : Int))
                            by_cases c38 : ((a0.extract 0 (a1 : Int).toNat) ++ (strOfNums y104)).size + (a0.extract (a1 : Int).toNat a0.size).size ≤ 9223372036854775807
                            · rw [if_pos c38] at H
                              have c38b0 := eq_true c38
                              have c38b1 : decide (((a0.extract 0 (a1 : Int).toNat) ++ (strOfNums y104)).size + (a0.extract (a1 : Int).toNat a0.size).size ≤ 9223372036854775807) = true := decide_eq_true c38
                              try have c38b2 : (9223372036854775807 < ((a0.extract 0 (a1 : Int).toNat) ++ (strOfNums y104)).size + (a0.extract (a1 : Int).toNat a0.size).size) = False := eq_false (Nat.not_lt.2 c38)
                              have c38b3 : (9223372036854775807 < a1.toNat + (strOfNums y104).size + (a0.size - a1.toNat)) = False := by
                                have q : a1 ≤ (a0.size : Int) := of_eq_true c34b0
                                have e : ((a0.extract 0 a1.toNat) ++ (strOfNums y104)).size = a1.toNat + (strOfNums y104).size := by rw [ByteArray.size_append, ByteArray.size_extract]; omega
                                have e2 : (a0.extract a1.toNat a0.size).size = a0.size - a1.toNat := by rw [ByteArray.size_extract]; omega
                                rw [← e, ← e2]; exact c38b2
                              replace H := Option.bind_eq_some_iff.mp H
                              obtain ⟨t107, A390, H⟩ := H
                              replace H : (some (!t107)) = some r := H
                              have A39 := Aside0.mk A390
                              clear A390
                              obtain rfl := Option.some.inj H
                              have p30 : 0 ≤ ((ji27) : Int) := of_decide_eq_true (by first | (with_reducible assumption) | assumption)
                              have q30 : (ji27) < (5 : Int) := of_decide_eq_true (by first | (with_reducible assumption) | assumption)
                              have hx30 := bt_at (⟨#[124, 35, 64, 42, 63]⟩ : ByteArray) (ji27)
                              replace p30 := eq_true p30
                              replace q30 := eq_true q30
                              try go_wp2
                              have n0_ := Aside0.mk (below_drew1 HB.out)
                              clear HB
                              have HB := n0_
                              clear n0_
                              refine start_ (n := 18) (S := fun w' => True) (ds := []) #[false, false, false, false, false, false, false, false, false, false, false, false, false, false, false, false, false, false] (by kernel_rfl) rfl rfl trivial (fun hHeld => ?_); refine with_tabW laws_FnSjOptimistic.tab12 laws_FnSjOptimistic.bits12 (fun HT_ HW_ => ?_)
                              generalize wr.drew = w40 at HB hHeld ⊢
                              refine pure_ (i := 0) (N := some 67) (v := ?_) (a' := ?_) #[true, false, false, false, false, false, false, false, false, false, false, false, false, false, false, false, false, false] rfl rfl (any_of HT_.out (by kernel_rfl)) (fun _ _ _ h => h) (Or.inl ⟨by rfl, ?_⟩) ?_ ?_
                              rotate_left
                              · intro w'
                                go_simp
                                with_reducible rfl
                              rotate_left
                              · simp only [Act.put, List.setIfInBounds_toArray, List.set_cons_zero, List.set_cons_succ, i64_w, i32_w]
                                rfl
                              refine one_ (i := 1) (N := some 68) #[true, true, false, false, false, false, false, false, false, false, false, false, false, false, false, false, false, false] rfl rfl (one_of HT_.out (by kernel_rfl)) (by decide) (fun K hK => ?_)
                              refine goes_ Try.func12 (by kernel_rfl) rfl #[.string a0] (by rfl) rfl rfl (by (try simp only [List.map_toArray, List.map_cons, List.map_nil]); first | done | rfl | (simp only [List.length_drop, List.length_take]; rfl)) ?_
                              with_reducible refine (impl_SjOptimistic.calls k2 a0 true _ A31.out).mono ?_
                              rintro e w' ⟨rfl, ⟨nd, rfl⟩⟩
                              refine ⟨_, rfl, ?_⟩
                              refine hK.out _ _ trivial (fun hHeld => ?_)
                              clear hK K
                              refine norm_ (a' := ?_) ?_ ?_
                              rotate_left
                              · show Act.put _ (some 68) _ = _
                                simp only [Act.put, List.setIfInBounds_toArray, List.set_cons_zero, List.set_cons_succ, i64_w, i32_w]
                                rfl
                              refine pure_ (i := 2) (N := some 69) (v := ?_) (a' := ?_) #[true, true, true, false, false, false, false, false, false, false, false, false, false, false, false, false, false, false] rfl rfl (any_of HT_.out (by kernel_rfl)) (fun _ _ _ h => h) (Or.inl ⟨by rfl, ?_⟩) ?_ ?_
                              rotate_left
                              · intro w'
                                go_simp
                                with_reducible rfl
                              rotate_left
                              · simp only [Act.put, List.setIfInBounds_toArray, List.set_cons_zero, List.set_cons_succ, i64_w, i32_w]
                                rfl
                              refine pure_ (i := 3) (N := some 70) (v := ?_) (a' := ?_) #[true, true, true, true, false, false, false, false, false, false, false, false, false, false, false, false, false, false] rfl rfl (any_of HT_.out (by kernel_rfl)) (fun _ _ _ h => h) (Or.inl ⟨by rfl, ?_⟩) ?_ ?_
                              rotate_left
                              · intro w'
                                go_simp
                                with_reducible rfl
                              rotate_left
                              · simp only [Act.put, List.setIfInBounds_toArray, List.set_cons_zero, List.set_cons_succ, i64_w, i32_w]
                                rfl
                              refine pure_ (i := 4) (N := some 71) (v := ?_) (a' := ?_) #[true, true, true, true, true, false, false, false, false, false, false, false, false, false, false, false, false, false] rfl rfl (any_of HT_.out (by kernel_rfl)) (fun _ _ _ h => h) (Or.inl ⟨by rfl, ?_⟩) ?_ ?_
                              rotate_left
                              · intro w'
                                go_simp
                                with_reducible rfl
                              rotate_left
                              · simp only [Act.put, List.setIfInBounds_toArray, List.set_cons_zero, List.set_cons_succ, i64_w, i32_w]
                                rfl
                              refine pure_ (i := 5) (N := some 72) (v := ?_) (a' := ?_) #[true, true, true, true, true, true, false, false, false, false, false, false, false, false, false, false, false, false] rfl rfl (any_of HT_.out (by kernel_rfl)) (fun _ _ _ h => h) (Or.inl ⟨by rfl, ?_⟩) ?_ ?_
                              rotate_left
                              · intro w'
                                go_simp
                                with_reducible rfl
                              rotate_left
                              · simp only [Act.put, List.setIfInBounds_toArray, List.set_cons_zero, List.set_cons_succ, i64_w, i32_w]
                                rfl
                              refine pure_ (i := 6) (N := some 73) (v := ?_) (a' := ?_) #[true, true, true, true, true, true, true, false, false, false, false, false, false, false, false, false, false, false] rfl rfl (any_of HT_.out (by kernel_rfl)) (fun _ _ _ h => h) (Or.inl ⟨by rfl, ?_⟩) ?_ ?_
                              rotate_left
                              · intro w'
                                go_simp
                                with_reducible rfl
                              rotate_left
                              · simp only [Act.put, List.setIfInBounds_toArray, List.set_cons_zero, List.set_cons_succ, i64_w, i32_w]
                                rfl
                              refine pure_ (i := 10) (N := some 77) (v := ?_) (a' := ?_) #[true, true, true, true, true, true, true, false, false, false, true, false, false, false, false, false, false, false] rfl rfl (any_of HT_.out (by kernel_rfl)) (fun _ _ _ h => h) (Or.inl ⟨by rfl, ?_⟩) ?_ ?_
                              rotate_left
                              · intro w'
                                go_simp
                                with_reducible rfl
                              rotate_left
                              · simp only [Act.put, List.setIfInBounds_toArray, List.set_cons_zero, List.set_cons_succ, i64_w, i32_w]
                                rfl
                              refine pure_ (i := 11) (N := some 78) (v := ?_) (a' := ?_) #[true, true, true, true, true, true, true, false, false, false, true, true, false, false, false, false, false, false] rfl rfl (any_of HT_.out (by kernel_rfl)) (fun _ _ _ h => h) (Or.inl ⟨by rfl, ?_⟩) ?_ ?_
                              rotate_left
                              · intro w'
                                go_simp
                                with_reducible rfl
                              rotate_left
                              · simp only [Act.put, List.setIfInBounds_toArray, List.set_cons_zero, List.set_cons_succ, i64_w, i32_w]
                                rfl
                              refine pure_ (i := 12) (N := some 79) (v := ?_) (a' := ?_) #[true, true, true, true, true, true, true, false, false, false, true, true, true, false, false, false, false, false] rfl rfl (any_of HT_.out (by kernel_rfl)) (fun _ _ _ h => h) (Or.inl ⟨by rfl, ?_⟩) ?_ ?_
                              rotate_left
                              · intro w'
                                go_simp
                                with_reducible rfl
                              rotate_left
                              · simp only [Act.put, List.setIfInBounds_toArray, List.set_cons_zero, List.set_cons_succ, i64_w, i32_w]
                                rfl
                              refine one_ (i := 7) (N := some 74) #[true, true, true, true, true, true, true, true, false, false, true, true, true, false, false, false, false, false] rfl rfl (one_of HT_.out (by kernel_rfl)) (by decide) (fun K hK => ?_)
                              refine Kd.R_lit_step (Kd.int .u8) _ 5 ?hg (N := 74) ?hd (xs := ([bt (⟨#[124, 35, 64, 42, 63]⟩ : ByteArray) (ji27)] : List Int)) (inner := [.int .u8 (bt (⟨#[124, 35, 64, 42, 63]⟩ : ByteArray) (ji27))]) (ok := fun _ => True) (okp := fun _ => True) ?hr ?hp (fun _ hk => hk) trivial (Below.refl _ _) (Nat.le_refl _) (by simp) ?_; (case hd => rfl); (case hg => rfl); (case hr => first | (go_simp; done) | (go_simp; rfl)); (case hp => exact (Reps.one (show Kd.M (Kd.int .u8) _ _ _ (bt (⟨#[124, 35, 64, 42, 63]⟩ : ByteArray) (ji27)) [.int .u8 (bt (⟨#[124, 35, 64, 42, 63]⟩ : ByteArray) (ji27))] from rfl) (Reps.none _ _)))
                              intro v105 w41 ho42 hb hg_ hnew_
                              clear hg_ hnew_
                              (first | rw [← Ny104.out] at ho42 | (simp only [Int.reduceToNat] at ho42; rw [← Ny104.out] at ho42))
                              have n0_ := Aside0.mk (Kd.R_lower ho42 (below_size (by repeat (first | (with_reducible first | exact HB.out | apply below_alloc | apply pw_below_drewN | apply below_drew1) | exact HB.out))))
                              have n1_ := Aside0.mk (below_step (by repeat (first | (with_reducible first | exact HB.out | apply below_alloc | apply pw_below_drewN | apply below_drew1) | exact HB.out)) hb)
                              clear HB
                              have HO106 := n0_
                              have HB := n1_
                              clear n0_ n1_
                              clear hb ho42
                              refine hK.out _ _ trivial (fun hHeld => ?_)
                              clear hK K
                              refine norm_ (a' := ?_) ?_ ?_
                              rotate_left
                              · show Act.put _ (some 74) _ = _
                                simp only [Act.put, List.setIfInBounds_toArray, List.set_cons_zero, List.set_cons_succ, i64_w, i32_w]
                                rfl
                              refine one_ (i := 8) (N := some 75) #[true, true, true, true, true, true, true, true, true, false, true, true, true, false, false, false, false, false] rfl rfl (one_of HT_.out (by kernel_rfl)) (by decide) (fun K hK => ?_)
                              have hcv43 := own_string (P := Try.prog) Try.underlying29 Try.underlying5 Try.underlying9 (Kd.own_of_R HO106.out)
                              refine value_ (w1 := ?_) (v := ?_) (by rfl) rfl ?_ ?_
                              rotate_left 2
                              · go_simp
                                constructor
                                · rfl
                                · rfl
                              clear hcv43
                              refine hK.out _ _ trivial (fun hHeld => ?_)
                              clear hK K
                              refine norm_ (a' := ?_) ?_ ?_
                              rotate_left
                              · show Act.put _ (some 75) _ = _
                                simp only [Act.put, List.setIfInBounds_toArray, List.set_cons_zero, List.set_cons_succ, i64_w, i32_w]
                                rfl
                              refine pure_ (i := 9) (N := some 76) (v := ?_) (a' := ?_) #[true, true, true, true, true, true, true, true, true, true, true, true, true, false, false, false, false, false] rfl rfl (any_of HT_.out (by kernel_rfl)) (fun _ _ _ h => h) (Or.inl ⟨by rfl, ?_⟩) ?_ ?_
                              rotate_left
                              · intro w'
                                go_simp
                                with_reducible rfl
                              rotate_left
                              · simp only [Act.put, List.setIfInBounds_toArray, List.set_cons_zero, List.set_cons_succ, i64_w, i32_w]
                                rfl
                              refine pure_ (i := 13) (N := some 80) (v := ?_) (a' := ?_) #[true, true, true, true, true, true, true, true, true, true, true, true, true, true, false, false, false, false] rfl rfl (any_of HT_.out (by kernel_rfl)) (fun _ _ _ h => h) (Or.inl ⟨by rfl, ?_⟩) ?_ ?_
                              rotate_left
                              · intro w'
                                go_simp
                                with_reducible rfl
                              rotate_left
                              · simp only [Act.put, List.setIfInBounds_toArray, List.set_cons_zero, List.set_cons_succ, i64_w, i32_w]
                                rfl
                              refine one_ (i := 14) (N := some 81) #[true, true, true, true, true, true, true, true, true, true, true, true, true, true, true, false, false, false] rfl rfl (one_of HT_.out (by kernel_rfl)) (by decide) (fun K hK => ?_)
                              refine goes_ Try.func12 (by kernel_rfl) rfl #[.string (((a0.extract 0 (a1 : Int).toNat) ++ (strOfNums y104)) ++ (a0.extract (a1 : Int).toNat a0.size))] (by rfl) rfl rfl (by (try simp only [List.map_toArray, List.map_cons, List.map_nil]); first | done | rfl | (simp only [List.length_drop, List.length_take]; rfl)) ?_
                              with_reducible refine (impl_SjOptimistic.calls k2 (((a0.extract 0 (a1 : Int).toNat) ++ (strOfNums y104)) ++ (a0.extract (a1 : Int).toNat a0.size)) t107 _ A39.out).mono ?_
                              rintro e w' ⟨rfl, ⟨nd, rfl⟩⟩
                              refine ⟨_, rfl, ?_⟩
                              refine hK.out _ _ trivial (fun hHeld => ?_)
                              clear hK K
                              refine norm_ (a' := ?_) ?_ ?_
                              rotate_left
                              · show Act.put _ (some 81) _ = _
                                simp only [Act.put, List.setIfInBounds_toArray, List.set_cons_zero, List.set_cons_succ, i64_w, i32_w]
                                rfl
                              refine pure_ (i := 15) (N := some 82) (v := ?_) (a' := ?_) #[true, true, true, true, true, true, true, true, true, true, true, true, true, true, true, true, false, false] rfl rfl (any_of HT_.out (by kernel_rfl)) (fun _ _ _ h => h) (Or.inl ⟨by rfl, ?_⟩) ?_ ?_
                              rotate_left
                              · intro w'
                                go_simp
                                with_reducible rfl
                              rotate_left
                              · simp only [Act.put, List.setIfInBounds_toArray, List.set_cons_zero, List.set_cons_succ, i64_w, i32_w]
                                rfl
                              refine pure_ (i := 16) (N := some 83) (v := ?_) (a' := ?_) #[true, true, true, true, true, true, true, true, true, true, true, true, true, true, true, true, true, false] rfl rfl (any_of HT_.out (by kernel_rfl)) (fun _ _ _ h => h) (Or.inl ⟨by rfl, ?_⟩) ?_ ?_
                              rotate_left
                              · intro w'
                                go_simp
                                with_reducible rfl
                              rotate_left
                              · simp only [Act.put, List.setIfInBounds_toArray, List.set_cons_zero, List.set_cons_succ, i64_w, i32_w]
                                rfl
                              refine pure_ (i := 17) (N := some 6) (v := ?_) (a' := ?_) #[true, true, true, true, true, true, true, true, true, true, true, true, true, true, true, true, true, true] rfl rfl (any_of HT_.out (by kernel_rfl)) (fun _ _ _ h => h) (Or.inl ⟨by rfl, ?_⟩) ?_ ?_
                              rotate_left
                              · intro w'
                                go_simp
                                with_reducible rfl
                              rotate_left
                              · simp only [Act.put, List.setIfInBounds_toArray, List.set_cons_zero, List.set_cons_succ, i64_w, i32_w]
                                rfl
                              refine done_ (done_of HT_.out (by kernel_rfl)) ?_
                              try go_wp2
                              go_ret
                              exact ⟨by first | rfl | (simp [errW_none, errW_some] <;> rfl) | (simp only [← hji27]; first | rfl | (simp [errW_none, errW_some] <;> rfl)) | (simp [*, errW_none, errW_some] <;> rfl), by repeat (first | (with_reducible first | exact HB.out | apply below_alloc | apply pw_below_drewN | apply below_drew1) | exact HB.out)⟩
                            · rw [if_neg c38] at H
                              exact absurd H (by simp)
                          · rw [if_neg c35] at H
                            exact absurd H (by simp)
                        · rw [if_neg c34] at H
                          exact absurd H (by simp)
                      · rw [if_neg c33] at H
                        exact absurd H (by simp)
                    · replace c32 := Bool.eq_false_iff.mpr c32
                      subst c32
                      have H1 : (some false) = some r := by rw [if_neg (show ¬ (false = true) by decide)] at H; exact H
                      clear H
                      have H := H1
                      clear H1
                      obtain rfl := Option.some.inj H
                      have p30 : 0 ≤ ((ji27) : Int) := of_decide_eq_true (by first | (with_reducible assumption) | assumption)
                      have q30 : (ji27) < (5 : Int) := of_decide_eq_true (by first | (with_reducible assumption) | assumption)
                      have hx30 := bt_at (⟨#[124, 35, 64, 42, 63]⟩ : ByteArray) (ji27)
                      replace p30 := eq_true p30
                      replace q30 := eq_true q30
                      try go_wp2
                      have n0_ := Aside0.mk (below_drew1 HB.out)
                      clear HB
                      have HB := n0_
                      clear n0_
                      refine start_ (n := 18) (S := fun w' => True) (ds := []) #[false, false, false, false, false, false, false, false, false, false, false, false, false, false, false, false, false, false] (by kernel_rfl) rfl rfl trivial (fun hHeld => ?_); refine with_tabW laws_FnSjOptimistic.tab12 laws_FnSjOptimistic.bits12 (fun HT_ HW_ => ?_)
                      generalize wr.drew = w44 at HB hHeld ⊢
                      refine pure_ (i := 0) (N := some 67) (v := ?_) (a' := ?_) #[true, false, false, false, false, false, false, false, false, false, false, false, false, false, false, false, false, false] rfl rfl (any_of HT_.out (by kernel_rfl)) (fun _ _ _ h => h) (Or.inl ⟨by rfl, ?_⟩) ?_ ?_
                      rotate_left
                      · intro w'
                        go_simp
                        with_reducible rfl
                      rotate_left
                      · simp only [Act.put, List.setIfInBounds_toArray, List.set_cons_zero, List.set_cons_succ, i64_w, i32_w]
                        rfl
                      refine one_ (i := 1) (N := some 68) #[true, true, false, false, false, false, false, false, false, false, false, false, false, false, false, false, false, false] rfl rfl (one_of HT_.out (by kernel_rfl)) (by decide) (fun K hK => ?_)
                      refine goes_ Try.func12 (by kernel_rfl) rfl #[.string a0] (by rfl) rfl rfl (by (try simp only [List.map_toArray, List.map_cons, List.map_nil]); first | done | rfl | (simp only [List.length_drop, List.length_take]; rfl)) ?_
                      with_reducible refine (impl_SjOptimistic.calls k2 a0 false _ A31.out).mono ?_
                      rintro e w' ⟨rfl, ⟨nd, rfl⟩⟩
                      refine ⟨_, rfl, ?_⟩
                      refine hK.out _ _ trivial (fun hHeld => ?_)
                      clear hK K
                      refine norm_ (a' := ?_) ?_ ?_
                      rotate_left
                      · show Act.put _ (some 68) _ = _
                        simp only [Act.put, List.setIfInBounds_toArray, List.set_cons_zero, List.set_cons_succ, i64_w, i32_w]
                        rfl
                      refine pure_ (i := 2) (N := some 69) (v := ?_) (a' := ?_) #[true, true, true, false, false, false, false, false, false, false, false, false, false, false, false, false, false, false] rfl rfl (any_of HT_.out (by kernel_rfl)) (fun _ _ _ h => h) (Or.inl ⟨by rfl, ?_⟩) ?_ ?_
                      rotate_left
                      · intro w'
                        go_simp
                        with_reducible rfl
                      rotate_left
                      · simp only [Act.put, List.setIfInBounds_toArray, List.set_cons_zero, List.set_cons_succ, i64_w, i32_w]
                        rfl
                      refine pure_ (i := 3) (N := some 70) (v := undef) (a' := ?_) #[true, true, true, true, false, false, false, false, false, false, false, false, false, false, false, false, false, false] rfl rfl (any_of HT_.out (by kernel_rfl)) (fun _ _ _ h => h) (Or.inr ⟨by rfl, rfl⟩) ?_ ?_
                      rotate_left
                      · simp only [Act.put, List.setIfInBounds_toArray, List.set_cons_zero, List.set_cons_succ, i64_w, i32_w]
                        rfl
                      refine pure_ (i := 4) (N := some 71) (v := undef) (a' := ?_) #[true, true, true, true, true, false, false, false, false, false, false, false, false, false, false, false, false, false] rfl rfl (any_of HT_.out (by kernel_rfl)) (fun _ _ _ h => h) (Or.inr ⟨by rfl, rfl⟩) ?_ ?_
                      rotate_left
                      · simp only [Act.put, List.setIfInBounds_toArray, List.set_cons_zero, List.set_cons_succ, i64_w, i32_w]
                        rfl
                      refine pure_ (i := 5) (N := some 72) (v := undef) (a' := ?_) #[true, true, true, true, true, true, false, false, false, false, false, false, false, false, false, false, false, false] rfl rfl (any_of HT_.out (by kernel_rfl)) (fun _ _ _ h => h) (Or.inr ⟨by rfl, rfl⟩) ?_ ?_
                      rotate_left
                      · simp only [Act.put, List.setIfInBounds_toArray, List.set_cons_zero, List.set_cons_succ, i64_w, i32_w]
                        rfl
                      refine pure_ (i := 6) (N := some 73) (v := undef) (a' := ?_) #[true, true, true, true, true, true, true, false, false, false, false, false, false, false, false, false, false, false] rfl rfl (any_of HT_.out (by kernel_rfl)) (fun _ _ _ h => h) (Or.inr ⟨by rfl, rfl⟩) ?_ ?_
                      rotate_left
                      · simp only [Act.put, List.setIfInBounds_toArray, List.set_cons_zero, List.set_cons_succ, i64_w, i32_w]
                        rfl
                      refine pure_ (i := 7) (N := some 74) (v := undef) (a' := ?_) #[true, true, true, true, true, true, true, true, false, false, false, false, false, false, false, false, false, false] rfl rfl (any_of HT_.out (by kernel_rfl)) (fun _ _ _ h => h) (Or.inr ⟨by rfl, rfl⟩) ?_ ?_
                      rotate_left
                      · simp only [Act.put, List.setIfInBounds_toArray, List.set_cons_zero, List.set_cons_succ, i64_w, i32_w]
                        rfl
                      refine pure_ (i := 8) (N := some 75) (v := undef) (a' := ?_) #[true, true, true, true, true, true, true, true, true, false, false, false, false, false, false, false, false, false] rfl rfl (any_of HT_.out (by kernel_rfl)) (fun _ _ _ h => h) (Or.inr ⟨by rfl, rfl⟩) ?_ ?_
                      rotate_left
                      · simp only [Act.put, List.setIfInBounds_toArray, List.set_cons_zero, List.set_cons_succ, i64_w, i32_w]
                        rfl
                      refine pure_ (i := 9) (N := some 76) (v := undef) (a' := ?_) #[true, true, true, true, true, true, true, true, true, true, false, false, false, false, false, false, false, false] rfl rfl (any_of HT_.out (by kernel_rfl)) (fun _ _ _ h => h) (Or.inr ⟨by rfl, rfl⟩) ?_ ?_
                      rotate_left
                      · simp only [Act.put, List.setIfInBounds_toArray, List.set_cons_zero, List.set_cons_succ, i64_w, i32_w]
                        rfl
                      refine pure_ (i := 10) (N := some 77) (v := undef) (a' := ?_) #[true, true, true, true, true, true, true, true, true, true, true, false, false, false, false, false, false, false] rfl rfl (any_of HT_.out (by kernel_rfl)) (fun _ _ _ h => h) (Or.inr ⟨by rfl, rfl⟩) ?_ ?_
                      rotate_left
                      · simp only [Act.put, List.setIfInBounds_toArray, List.set_cons_zero, List.set_cons_succ, i64_w, i32_w]
                        rfl
                      refine pure_ (i := 11) (N := some 78) (v := undef) (a' := ?_) #[true, true, true, true, true, true, true, true, true, true, true, true, false, false, false, false, false, false] rfl rfl (any_of HT_.out (by kernel_rfl)) (fun _ _ _ h => h) (Or.inr ⟨by rfl, rfl⟩) ?_ ?_
                      rotate_left
                      · simp only [Act.put, List.setIfInBounds_toArray, List.set_cons_zero, List.set_cons_succ, i64_w, i32_w]
                        rfl
                      refine pure_ (i := 12) (N := some 79) (v := undef) (a' := ?_) #[true, true, true, true, true, true, true, true, true, true, true, true, true, false, false, false, false, false] rfl rfl (any_of HT_.out (by kernel_rfl)) (fun _ _ _ h => h) (Or.inr ⟨by rfl, rfl⟩) ?_ ?_
                      rotate_left
                      · simp only [Act.put, List.setIfInBounds_toArray, List.set_cons_zero, List.set_cons_succ, i64_w, i32_w]
                        rfl
                      refine pure_ (i := 13) (N := some 80) (v := undef) (a' := ?_) #[true, true, true, true, true, true, true, true, true, true, true, true, true, true, false, false, false, false] rfl rfl (any_of HT_.out (by kernel_rfl)) (fun _ _ _ h => h) (Or.inr ⟨by rfl, rfl⟩) ?_ ?_
                      rotate_left
                      · simp only [Act.put, List.setIfInBounds_toArray, List.set_cons_zero, List.set_cons_succ, i64_w, i32_w]
                        rfl
                      refine pure_ (i := 14) (N := some 81) (v := undef) (a' := ?_) #[true, true, true, true, true, true, true, true, true, true, true, true, true, true, true, false, false, false] rfl rfl (any_of HT_.out (by kernel_rfl)) (fun _ _ _ h => h) (Or.inr ⟨by rfl, rfl⟩) ?_ ?_
                      rotate_left
                      · simp only [Act.put, List.setIfInBounds_toArray, List.set_cons_zero, List.set_cons_succ, i64_w, i32_w]
                        rfl
                      refine pure_ (i := 15) (N := some 82) (v := undef) (a' := ?_) #[true, true, true, true, true, true, true, true, true, true, true, true, true, true, true, true, false, false] rfl rfl (any_of HT_.out (by kernel_rfl)) (fun _ _ _ h => h) (Or.inr ⟨by rfl, rfl⟩) ?_ ?_
                      rotate_left
                      · simp only [Act.put, List.setIfInBounds_toArray, List.set_cons_zero, List.set_cons_succ, i64_w, i32_w]
                        rfl
                      refine pure_ (i := 16) (N := some 83) (v := ?_) (a' := ?_) #[true, true, true, true, true, true, true, true, true, true, true, true, true, true, true, true, true, false] rfl rfl (any_of HT_.out (by kernel_rfl)) (fun _ _ _ h => h) (Or.inl ⟨by rfl, ?_⟩) ?_ ?_
                      rotate_left
                      · intro w'
                        go_simp
                        with_reducible rfl
                      rotate_left
                      · simp only [Act.put, List.setIfInBounds_toArray, List.set_cons_zero, List.set_cons_succ, i64_w, i32_w]
                        rfl
                      refine pure_ (i := 17) (N := some 6) (v := ?_) (a' := ?_) #[true, true, true, true, true, true, true, true, true, true, true, true, true, true, true, true, true, true] rfl rfl (any_of HT_.out (by kernel_rfl)) (fun _ _ _ h => h) (Or.inl ⟨by rfl, ?_⟩) ?_ ?_
                      rotate_left
                      · intro w'
                        go_simp
                        with_reducible rfl
                      rotate_left
                      · simp only [Act.put, List.setIfInBounds_toArray, List.set_cons_zero, List.set_cons_succ, i64_w, i32_w]
                        rfl
                      refine done_ (done_of HT_.out (by kernel_rfl)) ?_
                      try go_wp2
                      go_ret
                      exact ⟨by first | rfl | (simp [errW_none, errW_some] <;> rfl) | (simp only [← hji27]; first | rfl | (simp [errW_none, errW_some] <;> rfl)) | (simp [*, errW_none, errW_some] <;> rfl), by repeat (first | (with_reducible first | exact HB.out | apply below_alloc | apply pw_below_drewN | apply below_drew1) | exact HB.out)⟩
                  · rw [if_neg c29] at H
                    exact absurd H (by simp)
                · rw [if_neg c28] at H
                  exact absurd H (by simp)

/-- THE ONE PURE STATEMENT of laws_FnSjOptimistic: yours. -/
def laws_FnSjOptimistic.Pure : Prop := ∀ (a0 : ByteArray) (a1 : Int) (a2 : Int), a0.size ≤ 140737488351232 → (Lit.int .i64 a1).wf = true → (Lit.int .i64 a2).wf = true → ∃ k, laws_FnSjOptimistic.f k a0 a1 a2 = some true
theorem laws_FnSjOptimistic.walk (P : laws_FnSjOptimistic.Pure) (a0 : ByteArray) (a1 : Int) (a2 : Int) (w : World) (w0 : a0.size ≤ 140737488351232) (w1 : (Lit.int .i64 a1).wf = true) (w2 : (Lit.int .i64 a2).wf = true) :
    Calls Try.prog 4 #[.string a0, .int .i64 a1, .int .i64 a2] w fun e w' => e = .returned (.bool true) ∧ Below w.heap.size w w' := by
  obtain ⟨k, h⟩ := P a0 a1 a2 w0 w1 w2
  refine (laws_FnSjOptimistic.calls k a0 a1 a2 true w h).mono ?_
  rintro e w' ⟨rfl, hd⟩
  exact ⟨rfl, hd⟩

end Go.Proofs.Ytloegbicgopmpaa.PFnSjOptimistic
