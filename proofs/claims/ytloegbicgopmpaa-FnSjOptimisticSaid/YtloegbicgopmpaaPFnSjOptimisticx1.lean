-- PRINTED BY print.sh 35421559b90ae4d0a3588c463048766b98c2df88dd9212a6774a882060cdf62d: not written by this session
import Derived.Test.YtloegbicgopmpaaPFnSjOptimisticx0
namespace Go.Proofs.Ytloegbicgopmpaa.PFnSjOptimistic
open Go.RowKit Go.Proofs.YtloegbicgopmpaaW.PrintWords Go.Proofs.YtloegbicgopmpaaW.PrintLast Go.Proofs.YtloegbicgopmpaaW.PrintMore
attribute [local go_sem] max2_int min2_int max_two min_two max_three min_three max_four min_four   -- for this text's walks alone
set_option linter.unusedVariables false
set_option linter.unusedSimpArgs false

/-! ### sjson_isOptimisticPath: function 44 -/
mutual
def sjson_isOptimisticPath.l0 : Nat → ByteArray → Int → Option (Bool)
  | 0, _, _ => none
  | k + 1, x0, x3 => if x3 < (x0.size : Int) then (if 0 ≤ x3 then (if (bt x0 x3) < 46 then (sjson_isOptimisticPath.j1 k x0 x3 true) else (sjson_isOptimisticPath.j1 k x0 x3 (decide ((bt x0 x3) > 122)))) else (none)) else (some true)
def sjson_isOptimisticPath.j1 : Nat → ByteArray → Int → Bool → Option (Bool)
  | 0, _, _, _ => none
  | k + 1, x0, x3, x19 => if x19 = true then (some false) else (if 0 ≤ x3 then (if x3 < (x0.size : Int) then (if (bt x0 x3) > 57 then (sjson_isOptimisticPath.j2 k x0 x3 (decide ((bt x0 x3) < 65))) else (sjson_isOptimisticPath.j2 k x0 x3 false)) else (none)) else (none))
def sjson_isOptimisticPath.j2 : Nat → ByteArray → Int → Bool → Option (Bool)
  | 0, _, _, _ => none
  | k + 1, x0, x3, x29 => if x29 = true then (some false) else (if 0 ≤ x3 then (if x3 < (x0.size : Int) then (if (bt x0 x3) > 122 then (some false) else (sjson_isOptimisticPath.l0 k x0 (wrap64 (x3 + 1)))) else (none)) else (none))
end
def sjson_isOptimisticPath.f (k : Nat) (a0 : ByteArray) : Option (Bool) := sjson_isOptimisticPath.l0 k a0 0
theorem sjson_isOptimisticPath.mono_l : ∀ k, (∀ y0 y1, LeO (sjson_isOptimisticPath.l0 k y0 y1) (sjson_isOptimisticPath.l0 (k + 1) y0 y1)) ∧ (∀ y0 y1 y2, LeO (sjson_isOptimisticPath.j1 k y0 y1 y2) (sjson_isOptimisticPath.j1 (k + 1) y0 y1 y2)) ∧ (∀ y0 y1 y2, LeO (sjson_isOptimisticPath.j2 k y0 y1 y2) (sjson_isOptimisticPath.j2 (k + 1) y0 y1 y2))
  | 0 => ⟨fun _ _ r h => by simp [sjson_isOptimisticPath.l0] at h, fun _ _ _ r h => by simp [sjson_isOptimisticPath.j1] at h, fun _ _ _ r h => by simp [sjson_isOptimisticPath.j2] at h⟩
  | k + 1 => by
    obtain ⟨ih0, ih1, ih2⟩ := sjson_isOptimisticPath.mono_l k
    refine ⟨?_, ?_, ?_⟩
    · intro y0 y1
      unfold sjson_isOptimisticPath.l0
      repeat' first
      | (with_reducible exact ih0 _ _)
      | (with_reducible exact ih1 _ _ _)
      | (with_reducible exact ih2 _ _ _)
      | (with_reducible exact LeO.refl _)
      | (with_reducible exact LeO.none _)
      | (with_reducible refine LeO.ite ?_ ?_)
      | (with_reducible refine LeO.bind ?_ (fun _ => ?_))
      | exact ih0 _ _
      | exact ih1 _ _ _
      | exact ih2 _ _ _
      | exact LeO.none _
      | refine LeO.ite ?_ ?_
      | refine LeO.bind ?_ (fun _ => ?_)
    · intro y0 y1 y2
      unfold sjson_isOptimisticPath.j1
      repeat' first
      | (with_reducible exact ih0 _ _)
      | (with_reducible exact ih1 _ _ _)
      | (with_reducible exact ih2 _ _ _)
      | (with_reducible exact LeO.refl _)
      | (with_reducible exact LeO.none _)
      | (with_reducible refine LeO.ite ?_ ?_)
      | (with_reducible refine LeO.bind ?_ (fun _ => ?_))
      | exact ih0 _ _
      | exact ih1 _ _ _
      | exact ih2 _ _ _
      | exact LeO.none _
      | refine LeO.ite ?_ ?_
      | refine LeO.bind ?_ (fun _ => ?_)
    · intro y0 y1 y2
      unfold sjson_isOptimisticPath.j2
      repeat' first
      | (with_reducible exact ih0 _ _)
      | (with_reducible exact ih1 _ _ _)
      | (with_reducible exact ih2 _ _ _)
      | (with_reducible exact LeO.refl _)
      | (with_reducible exact LeO.none _)
      | (with_reducible refine LeO.ite ?_ ?_)
      | (with_reducible refine LeO.bind ?_ (fun _ => ?_))
      | exact ih0 _ _
      | exact ih1 _ _ _
      | exact ih2 _ _ _
      | exact LeO.none _
      | refine LeO.ite ?_ ?_
      | refine LeO.bind ?_ (fun _ => ?_)
theorem sjson_isOptimisticPath.mono : ∀ a0 k, LeO (sjson_isOptimisticPath.f k a0) (sjson_isOptimisticPath.f (k + 1) a0) := by
  intro a0 k
  obtain ⟨ih0, ih1, ih2⟩ := sjson_isOptimisticPath.mono_l k
  unfold sjson_isOptimisticPath.f
  repeat' first
      | (with_reducible exact ih0 _ _)
      | (with_reducible exact ih1 _ _ _)
      | (with_reducible exact ih2 _ _ _)
      | (with_reducible exact LeO.refl _)
      | (with_reducible exact LeO.none _)
      | (with_reducible refine LeO.ite ?_ ?_)
      | (with_reducible refine LeO.bind ?_ (fun _ => ?_))
      | exact ih0 _ _
      | exact ih1 _ _ _
      | exact ih2 _ _ _
      | exact LeO.none _
      | refine LeO.ite ?_ ?_
      | refine LeO.bind ?_ (fun _ => ?_)
set_option maxHeartbeats 8000000 in
set_option maxRecDepth 100000 in
theorem sjson_isOptimisticPath.calls (k : Nat) (a0 : ByteArray) (r : Bool) (w : World) (h : sjson_isOptimisticPath.f k a0 = some r) :
    Calls Try.prog 44 #[.string a0] w fun e w' => e = .returned (.bool r) ∧ Drawn0 w w' := by
  have H : (sjson_isOptimisticPath.l0 k a0 0) = some r := h
  clear h
  have H' := Aside0.mk H
  clear H
  go_enter Try.func44, Try.ntmps44
  go_wp2
  go_loopg [3] k (fun kq v3 w' => ∃ (x3_1 : Int), v3 = .int .i64 x3_1 ∧ Aside0 (sjson_isOptimisticPath.l0 kq a0 x3_1 = some r) ∧ Aside0 (kq ≤ k) ∧ Drawn0 w w')
  case atStart => exact ⟨(0), (by first | rfl | (simp; done) | (simp [*]; done)), H', ⟨Nat.le_refl _⟩, by repeat (first | exact Drawn0.refl _ | apply Drawn0.step)⟩
  case round =>
    clear H'
    obtain ⟨x3_1, rfl, HA, HK1, ⟨m1, rfl⟩⟩ := hrel
    cases gk with
    | zero => exact absurd HA.out (by simp [sjson_isOptimisticPath.l0])
    | succ k1 =>
      have H := HA.out
      clear HA
      simp only [sjson_isOptimisticPath.l0] at H
      by_cases c2 : x3_1 < (a0.size : Int)
      · rw [if_pos c2] at H
        have c2b0 : decide (x3_1 < (a0.size : Int)) = true := decide_eq_true c2
        clear c2
        have HC3 := Aside0.mk H
        clear H
        go_upto_region 4 with (fail)
        go_cut [19] (fun v19 wc => ∃ (kq : Nat) (x19_2 : Bool), v19 = .bool x19_2 ∧ Aside0 (sjson_isOptimisticPath.j1 kq a0 x3_1 x19_2 = some r) ∧ Aside0 (kq ≤ k1) ∧ Drawn0 w wc)
        case first =>
          have H := HC3.out
          clear HC3
          by_cases c4 : 0 ≤ x3_1
          · rw [if_pos c4] at H
            have c4b0 : decide (0 ≤ x3_1) = true := decide_eq_true c4
            clear c4
            (first | rw [c4b0] | (simp only [i64_w, i32_w]; rw [c4b0]) | skip)
            by_cases c6 : (bt a0 x3_1) < 46
            · rw [if_pos c6] at H
              have c6b0 : decide ((bt a0 x3_1) < 46) = true := decide_eq_true c6
              clear c6
              have H' := Aside0.mk H
              clear H
              have p5 : 0 ≤ (x3_1 : Int) := of_decide_eq_true (by first | (with_reducible assumption) | assumption)
              have q5 : x3_1 < (a0.size : Int) := of_decide_eq_true (by first | (with_reducible assumption) | assumption)
              have hx5 := bt_at a0 x3_1
              replace p5 := eq_true p5
              replace q5 := eq_true q5
              go_wp2
              go_meet
              case rel => exact ⟨_, (true), (by first | rfl | (simp; done) | (simp [*]; done)), H', ⟨by have := HK1.out; first | omega | exact Nat.le_refl _⟩, by repeat (first | exact Drawn0.refl _ | apply Drawn0.step)⟩
            · rw [if_neg c6] at H
              have c6b0 : decide ((bt a0 x3_1) < 46) = false := decide_eq_false c6
              clear c6
              have H' := Aside0.mk H
              clear H
              have p5 : 0 ≤ (x3_1 : Int) := of_decide_eq_true (by first | (with_reducible assumption) | assumption)
              have q5 : x3_1 < (a0.size : Int) := of_decide_eq_true (by first | (with_reducible assumption) | assumption)
              have hx5 := bt_at a0 x3_1
              replace p5 := eq_true p5
              replace q5 := eq_true q5
              have p7 : 0 ≤ (x3_1 : Int) := of_decide_eq_true (by first | (with_reducible assumption) | assumption)
              have q7 : x3_1 < (a0.size : Int) := of_decide_eq_true (by first | (with_reducible assumption) | assumption)
              have hx7 := bt_at a0 x3_1
              replace p7 := eq_true p7
              replace q7 := eq_true q7
              go_wp2
              go_meet
              case rel => exact ⟨_, (decide ((bt a0 x3_1) > 122)), (by first | rfl | (simp; done) | (simp [*]; done)), H', ⟨by have := HK1.out; first | omega | exact Nat.le_refl _⟩, by repeat (first | exact Drawn0.refl _ | apply Drawn0.step)⟩
          · rw [if_neg c4] at H
            exact absurd H (by simp)
        case rest =>
          clear HC3
          try clear c2
          try clear c2b0
          try clear p2
          try clear c4
          try clear c4b0
          try clear p5
          try clear q5
          try clear hx5
          try clear c6
          try clear c6b0
          try clear p7
          try clear q7
          try clear hx7
          try clear p5
          try clear p7
          try clear q5
          try clear q7
          obtain ⟨kq, x19_2, rfl, HA, HJ2, ⟨mc2, rfl⟩⟩ := hcut
          cases kq with
          | zero => exact absurd HA.out (by simp [sjson_isOptimisticPath.j1])
          | succ kj2 =>
            have H := HA.out
            clear HA
            simp only [sjson_isOptimisticPath.j1] at H
            by_cases c8 : x19_2 = true
            · subst c8
              have H1 : (some false) = some r := by rw [if_pos rfl] at H; exact H
              clear H
              have H := H1
              clear H1
              obtain rfl := Option.some.inj H
              go_wp2
              go_ret
              exact ⟨by first | rfl | (simp; done) | (simp [*]; done), by repeat (first | exact Drawn0.refl _ | apply Drawn0.step)⟩
            · replace c8 := Bool.eq_false_iff.mpr c8
              subst c8
              have H1 : (if 0 ≤ x3_1 then (if x3_1 < (a0.size : Int) then (if (bt a0 x3_1) > 57 then (sjson_isOptimisticPath.j2 kj2 a0 x3_1 (decide ((bt a0 x3_1) < 65))) else (sjson_isOptimisticPath.j2 kj2 a0 x3_1 false)) else (none)) else (none)) = some r := by rw [if_neg (show ¬ (false = true) by decide)] at H; exact H
              clear H
              have H := H1
              clear H1
              have HC9 := Aside0.mk H
              clear H
              go_upto_region 6 with (fail)
              go_cut [29] (fun v29 wc => ∃ (kq : Nat) (x29_8 : Bool), v29 = .bool x29_8 ∧ Aside0 (sjson_isOptimisticPath.j2 kq a0 x3_1 x29_8 = some r) ∧ Aside0 (kq ≤ kj2) ∧ Drawn0 w wc)
              case first =>
                have H := HC9.out
                clear HC9
                by_cases c10 : 0 ≤ x3_1
                · rw [if_pos c10] at H
                  have c10b0 : decide (0 ≤ x3_1) = true := decide_eq_true c10
                  clear c10
                  (first | rw [c10b0] | (simp only [i64_w, i32_w]; rw [c10b0]) | skip)
                  by_cases c11 : x3_1 < (a0.size : Int)
                  · rw [if_pos c11] at H
                    have c11b0 : decide (x3_1 < (a0.size : Int)) = true := decide_eq_true c11
                    clear c11
                    by_cases c13 : (bt a0 x3_1) > 57
                    · rw [if_pos c13] at H
                      have c13b0 : decide (57 < (bt a0 x3_1)) = true := decide_eq_true c13
                      clear c13
                      have H' := Aside0.mk H
                      clear H
                      have p12 : 0 ≤ (x3_1 : Int) := of_decide_eq_true (by first | (with_reducible assumption) | assumption)
                      have q12 : x3_1 < (a0.size : Int) := of_decide_eq_true (by first | (with_reducible assumption) | assumption)
                      have hx12 := bt_at a0 x3_1
                      replace p12 := eq_true p12
                      replace q12 := eq_true q12
                      have p14 : 0 ≤ (x3_1 : Int) := of_decide_eq_true (by first | (with_reducible assumption) | assumption)
                      have q14 : x3_1 < (a0.size : Int) := of_decide_eq_true (by first | (with_reducible assumption) | assumption)
                      have hx14 := bt_at a0 x3_1
                      replace p14 := eq_true p14
                      replace q14 := eq_true q14
                      go_wp2
                      go_meet
                      case rel => exact ⟨_, (decide ((bt a0 x3_1) < 65)), (by first | rfl | (simp; done) | (simp [*]; done)), H', ⟨by have := HK1.out; have := HJ2.out; first | omega | exact Nat.le_refl _⟩, by repeat (first | exact Drawn0.refl _ | apply Drawn0.step)⟩
                    · rw [if_neg c13] at H
                      have c13b0 : decide (57 < (bt a0 x3_1)) = false := decide_eq_false c13
                      clear c13
                      have H' := Aside0.mk H
                      clear H
                      have p12 : 0 ≤ (x3_1 : Int) := of_decide_eq_true (by first | (with_reducible assumption) | assumption)
                      have q12 : x3_1 < (a0.size : Int) := of_decide_eq_true (by first | (with_reducible assumption) | assumption)
                      have hx12 := bt_at a0 x3_1
                      replace p12 := eq_true p12
                      replace q12 := eq_true q12
                      go_wp2
                      go_meet
                      case rel => exact ⟨_, (false), (by first | rfl | (simp; done) | (simp [*]; done)), H', ⟨by have := HK1.out; have := HJ2.out; first | omega | exact Nat.le_refl _⟩, by repeat (first | exact Drawn0.refl _ | apply Drawn0.step)⟩
                  · rw [if_neg c11] at H
                    exact absurd H (by simp)
                · rw [if_neg c10] at H
                  exact absurd H (by simp)
              case rest =>
                clear HC9
                try clear c1
                try clear p1
                try clear q1
                try clear hx1
                try clear c2
                try clear c2b0
                try clear p2
                try clear c4
                try clear c4b0
                try clear p5
                try clear q5
                try clear hx5
                try clear c6
                try clear c6b0
                try clear p7
                try clear q7
                try clear hx7
                try clear c8
                try clear c10
                try clear c10b0
                try clear c11
                try clear c11b0
                try clear p12
                try clear q12
                try clear hx12
                try clear c13
                try clear c13b0
                try clear p14
                try clear q14
                try clear hx14
                try clear p12
                try clear p14
                try clear p2
                try clear p5
                try clear p7
                try clear q12
                try clear q14
                try clear q5
                try clear q7
                obtain ⟨kq, x29_8, rfl, HA, HJ8, ⟨mc8, rfl⟩⟩ := hcut
                cases kq with
                | zero => exact absurd HA.out (by simp [sjson_isOptimisticPath.j2])
                | succ kj8 =>
                  have H := HA.out
                  clear HA
                  simp only [sjson_isOptimisticPath.j2] at H
                  by_cases c15 : x29_8 = true
                  · subst c15
                    have H1 : (some false) = some r := by rw [if_pos rfl] at H; exact H
                    clear H
                    have H := H1
                    clear H1
                    obtain rfl := Option.some.inj H
                    go_wp2
                    go_ret
                    exact ⟨by first | rfl | (simp; done) | (simp [*]; done), by repeat (first | exact Drawn0.refl _ | apply Drawn0.step)⟩
                  · replace c15 := Bool.eq_false_iff.mpr c15
                    subst c15
                    have H1 : (if 0 ≤ x3_1 then (if x3_1 < (a0.size : Int) then (if (bt a0 x3_1) > 122 then (some false) else (sjson_isOptimisticPath.l0 kj8 a0 (wrap64 (x3_1 + 1)))) else (none)) else (none)) = some r := by rw [if_neg (show ¬ (false = true) by decide)] at H; exact H
                    clear H
                    have H := H1
                    clear H1
                    by_cases c16 : 0 ≤ x3_1
                    · rw [if_pos c16] at H
                      have c16b0 : decide (0 ≤ x3_1) = true := decide_eq_true c16
                      clear c16
                      by_cases c17 : x3_1 < (a0.size : Int)
                      · rw [if_pos c17] at H
                        have c17b0 : decide (x3_1 < (a0.size : Int)) = true := decide_eq_true c17
                        clear c17
                        by_cases c19 : (bt a0 x3_1) > 122
                        · rw [if_pos c19] at H
                          have c19b0 : decide (122 < (bt a0 x3_1)) = true := decide_eq_true c19
                          clear c19
                          obtain rfl := Option.some.inj H
                          have p18 : 0 ≤ (x3_1 : Int) := of_decide_eq_true (by first | (with_reducible assumption) | assumption)
                          have q18 : x3_1 < (a0.size : Int) := of_decide_eq_true (by first | (with_reducible assumption) | assumption)
                          have hx18 := bt_at a0 x3_1
                          replace p18 := eq_true p18
                          replace q18 := eq_true q18
                          go_wp2
                          go_ret
                          exact ⟨by first | rfl | (simp; done) | (simp [*]; done), by repeat (first | exact Drawn0.refl _ | apply Drawn0.step)⟩
                        · rw [if_neg c19] at H
                          have c19b0 : decide (122 < (bt a0 x3_1)) = false := decide_eq_false c19
                          clear c19
                          have H' := Aside0.mk H
                          clear H
                          have p18 : 0 ≤ (x3_1 : Int) := of_decide_eq_true (by first | (with_reducible assumption) | assumption)
                          have q18 : x3_1 < (a0.size : Int) := of_decide_eq_true (by first | (with_reducible assumption) | assumption)
                          have hx18 := bt_at a0 x3_1
                          replace p18 := eq_true p18
                          replace q18 := eq_true q18
                          go_wp2
                          go_roundg kj8
                          case measure => have := HK1.out; have := HJ2.out; have := HJ8.out; omega
                          case rel => exact ⟨(wrap64 (x3_1 + 1)), (by first | rfl | (simp; done) | (simp [*]; done)), H', ⟨by have := HK1.out; have := HJ2.out; have := HJ8.out; omega⟩, by repeat (first | exact Drawn0.refl _ | apply Drawn0.step)⟩
                      · rw [if_neg c17] at H
                        exact absurd H (by simp)
                    · rw [if_neg c16] at H
                      exact absurd H (by simp)
      · rw [if_neg c2] at H
        have c2b0 : decide (x3_1 < (a0.size : Int)) = false := decide_eq_false c2
        clear c2
        obtain rfl := Option.some.inj H
        go_wp2
        go_ret
        exact ⟨by first | rfl | (simp; done) | (simp [*]; done), by repeat (first | exact Drawn0.refl _ | apply Drawn0.step)⟩

/-! ### sjson_DoorOptimistic: function 32 -/
def sjson_DoorOptimistic.f (k : Nat) (a0 : ByteArray) : Option (Bool) := (sjson_isOptimisticPath.f k a0).bind fun t101 => (some t101)
theorem sjson_DoorOptimistic.mono : ∀ a0 k, LeO (sjson_DoorOptimistic.f k a0) (sjson_DoorOptimistic.f (k + 1) a0) := by
  intro a0 k
  unfold sjson_DoorOptimistic.f
  repeat' first
      | (with_reducible exact sjson_isOptimisticPath.mono _ _)
      | (with_reducible exact LeO.refl _)
      | (with_reducible exact LeO.none _)
      | (with_reducible refine LeO.ite ?_ ?_)
      | (with_reducible refine LeO.bind ?_ (fun _ => ?_))
      | exact sjson_isOptimisticPath.mono _ _
      | exact LeO.none _
      | refine LeO.ite ?_ ?_
      | refine LeO.bind ?_ (fun _ => ?_)
set_option maxHeartbeats 8000000 in
set_option maxRecDepth 100000 in
theorem sjson_DoorOptimistic.calls (k : Nat) (a0 : ByteArray) (r : Bool) (w : World) (h : sjson_DoorOptimistic.f k a0 = some r) :
    Calls Try.prog 32 #[.string a0] w fun e w' => e = .returned (.bool r) ∧ Drawn0 w w' := by
  have H : ((sjson_isOptimisticPath.f k a0).bind fun t101 => (some t101)) = some r := h
  clear h
  replace H := Option.bind_eq_some_iff.mp H
  obtain ⟨t101, A20, H⟩ := H
  replace H : (some t101) = some r := H
  have A2 := Aside0.mk A20
  clear A20
  obtain rfl := Option.some.inj H
  go_enter Try.func32, Try.ntmps32
  go_wp2_with (first | ((with_reducible refine gate_callee (f := 44) rfl ?_); refine goesL_ (some 4) rfl rfl Try.func44 (by kernel_rfl) rfl #[.string a0] rfl (by (try simp only [List.map_toArray, List.map_cons, List.map_nil]); first | done | rfl | (simp only [List.length_drop, List.length_take]; rfl)) ?_; (with_reducible refine (sjson_isOptimisticPath.calls k a0 t101 _ A2.out).mono ?_); rintro e w' ⟨rfl, ⟨nd, rfl⟩⟩; refine ⟨_, rfl, ?_⟩))
  go_ret
  exact ⟨by first | rfl | (simp; done) | (simp [*]; done), by repeat (first | exact Drawn0.refl _ | apply Drawn0.step)⟩

/-! ### impl_SjOptimistic: function 12 -/
def impl_SjOptimistic.f (k : Nat) (a0 : ByteArray) : Option (Bool) := (sjson_DoorOptimistic.f k a0).bind fun t102 => (some t102)
theorem impl_SjOptimistic.mono : ∀ a0 k, LeO (impl_SjOptimistic.f k a0) (impl_SjOptimistic.f (k + 1) a0) := by
  intro a0 k
  unfold impl_SjOptimistic.f
  repeat' first
      | (with_reducible exact sjson_DoorOptimistic.mono _ _)
      | (with_reducible exact LeO.refl _)
      | (with_reducible exact LeO.none _)
      | (with_reducible refine LeO.ite ?_ ?_)
      | (with_reducible refine LeO.bind ?_ (fun _ => ?_))
      | exact sjson_DoorOptimistic.mono _ _
      | exact LeO.none _
      | refine LeO.ite ?_ ?_
      | refine LeO.bind ?_ (fun _ => ?_)
set_option maxHeartbeats 8000000 in
set_option maxRecDepth 100000 in
theorem impl_SjOptimistic.calls (k : Nat) (a0 : ByteArray) (r : Bool) (w : World) (h : impl_SjOptimistic.f k a0 = some r) :
    Calls Try.prog 12 #[.string a0] w fun e w' => e = .returned (.bool r) ∧ Drawn0 w w' := by
  have H : ((sjson_DoorOptimistic.f k a0).bind fun t102 => (some t102)) = some r := h
  clear h
  replace H := Option.bind_eq_some_iff.mp H
  obtain ⟨t102, A20, H⟩ := H
  replace H : (some t102) = some r := H
  have A2 := Aside0.mk A20
  clear A20
  obtain rfl := Option.some.inj H
  go_enter Try.func12, Try.ntmps12
  go_wp2_with (first | ((with_reducible refine gate_callee (f := 32) rfl ?_); refine goesL_ (some 4) rfl rfl Try.func32 (by kernel_rfl) rfl #[.string a0] rfl (by (try simp only [List.map_toArray, List.map_cons, List.map_nil]); first | done | rfl | (simp only [List.length_drop, List.length_take]; rfl)) ?_; (with_reducible refine (sjson_DoorOptimistic.calls k a0 t102 _ A2.out).mono ?_); rintro e w' ⟨rfl, ⟨nd, rfl⟩⟩; refine ⟨_, rfl, ?_⟩))
  go_ret
  exact ⟨by first | rfl | (simp; done) | (simp [*]; done), by repeat (first | exact Drawn0.refl _ | apply Drawn0.step)⟩

end Go.Proofs.Ytloegbicgopmpaa.PFnSjOptimistic
