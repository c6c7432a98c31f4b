/- The walk of spec.Places. -/
import Derived.Test.YtkdkdhcjpgmjdaaGreatDoorReader5
namespace Go.Proofs.YtkdkdhcjpgmjdaaGreatDoor.L
open Go.RowKit
set_option linter.unusedVariables false
set_option linter.unusedSimpArgs false

theorem valC_all {s : ByteArray} (hs : s.size ≤ 2147483648) : ∀ n, ValC s n
  | 0 => fun g i w h hi hn => absurd hn (by omega)
  | n + 1 => value_succ hs (valC_all hs n)

/-- What Places answers. -/
def PlacesPost (w : World) (s : ByteArray) (e : Ending) (w' : World) : Prop :=
  Below w.heap.size w w' ∧
  ((∃ p, places s = some p ∧ ∃ (k b' e' : Int) (An : Option Addr) (nn cn : Nat) (Ak : Option Addr) (nk ck : Nat), e = .returned (.tuple #[.agg #[.int .i64 k, .int .i64 b', .int .i64 e', .slice An nn cn, .slice Ak nk ck], .bool true]) ∧
      PlC w' (From w.heap.size) p [.int .i64 k, .int .i64 b', .int .i64 e', .slice An nn cn, .slice Ak nk ck]) ∨
   (places s = none ∧ e = .returned (.tuple #[.agg #[.int .i64 0, .int .i64 0, .int .i64 0, .slice none 0 0, .slice none 0 0], .bool false])))

theorem new_rd (w : World) (s : ByteArray) : RdS (w.alloc (.cells #[.string s, .int .i64 0] 86)) w.heap.size s 0 := heap_alloc_new w _
theorem below_of_new {a b w : World} {g : Nat} (h : Below a.heap.size a b) (k : b.grownBy w (some g)) (hg : a.heap.size ≤ g) : Below a.heap.size a w :=
  h.trans ⟨k.os, k.tape, k.output, k.size, fun i hi => k.block i (Nat.lt_of_lt_of_le hi h.size) (fun e => by injection e; omega)⟩
theorem below_set {a w : World} (h : Below a.heap.size a w) {p : Addr} (hp : a.heap.size ≤ p.block) (u : Value) : Below a.heap.size a (w.setCell p u) := h.setCell hp u

set_option maxHeartbeats 4000000 in
theorem placesW (s : ByteArray) (w : World) (hs : s.size ≤ 2147483648) : Calls Tryz.prog 28 #[.string s] w (PlacesPost w s) := by
  have hs2 : s.size ≤ 140737488351232 := by omega
  have hv := valC_all hs (s.size + 1)
  have hi0 := skip_top isBlank s (i := 0) (by omega)
  have HV := Lib.hid hv
  clear hv
  obtain ⟨i0, hq⟩ : ∃ i0, skip isBlank s 0 = i0 := ⟨_, rfl⟩
  rw [hq] at hi0
  have HI := Lib.hid hq
  clear hq
  have hB0 : Below w.heap.size w ((w.alloc (.cells #[.int .i64 0, .int .i64 0, .int .i64 0, .slice none 0 0, .slice none 0 0] 27)).alloc (.cells #[.string s, .int .i64 0] 86)) := below_alloc (below_alloc (Below.refl _ _) _) _
  have hR0 : RdS ((w.alloc (.cells #[.int .i64 0, .int .i64 0, .int .i64 0, .slice none 0 0, .slice none 0 0] 27)).alloc (.cells #[.string s, .int .i64 0] 86)) (w.heap.size + 1) s 0 := by
    have := new_rd (w.alloc (.cells #[.int .i64 0, .int .i64 0, .int .i64 0, .slice none 0 0, .slice none 0 0] 27)) s
    simpa using this
  have hP0 : B5 ((w.alloc (.cells #[.int .i64 0, .int .i64 0, .int .i64 0, .slice none 0 0, .slice none 0 0] 27)).alloc (.cells #[.string s, .int .i64 0] 86)) w.heap.size (.int .i64 0) (.int .i64 0) (.int .i64 0) (.slice none 0 0) (.slice none 0 0) := (B5.new w _ _ _ _ _).alloc _
  have HB0 := Lib.hid hB0
  have HR0 := Lib.hid hR0
  have HP0 := Lib.hid hP0
  clear hB0 hR0 hP0
  cases hval : valN s (s.size + 1) i0 with
  | none =>
    have HE := Lib.hid (show places s = none by unfold places valAt; rw [HI.out, hval])
    have HVAL := Lib.hid hval
    clear hval
    go_enter Tryz.func28, Tryz.ntmps28
    go_wp2_with (first
      | (go_at_call 40; go_must (refine (blanks (w.heap.size + 1) s 0 _ HR0.out hs2 (by omega)).mono ?_); rw [HI.out]; rintro e w1 ⟨rfl, hM1⟩)
      | (go_at_call 41; go_must (refine (val_no HV.out (w.heap.size + 1) i0 _ hM1.rd hi0 (by omega) HVAL.out).mono ?_); rintro e w2 ⟨j, k, b', e', An, nn, cn, Ak, nk, ck, hj, hM2, rfl⟩
         have hP2 := (HP0.out.grown hM1.gr (by simp)).grown hM2.gr (by simp)
         have hB2 := Lib.hid (below_of_new (below_of_new HB0.out hM1.gr (by omega)) hM2.gr (by omega))
         have q0 := fun o => (hP2.alloc o).c0
         have q1 := fun o => (hP2.alloc o).c1
         have q2 := fun o => (hP2.alloc o).c2
         have q3 := fun o => (hP2.alloc o).c3
         have q4 := fun o => (hP2.alloc o).c4
         have e0 := fun o => (hP2.alloc o).f 0
         have e1 := fun o => (hP2.alloc o).f 1
         have e2 := fun o => (hP2.alloc o).f 2
         have e3 := fun o => (hP2.alloc o).f 3
         have e4 := fun o => (hP2.alloc o).f 4
         clear hP2 hM1 hM2))
    refine bodyPost_ret (v := .tuple #[.agg #[.int .i64 0, .int .i64 0, .int .i64 0, .slice none 0 0, .slice none 0 0], .bool false]) (by simp [results, Tryz.results28, go_sem, q0, q1, q2, q3, q4]) rfl ?_
    refine ⟨?_, .inr ⟨HE.out, rfl⟩⟩
    iterate 5 with_reducible refine below_set ?_ (by simp) _
    exact below_alloc hB2.out _
  | some jp =>
    obtain ⟨j, p⟩ := jp
    have hj := valN_fwd s (s.size + 1) i0 j p hi0 hval
    have hz1 := skip_top isBlank s hj.2
    obtain ⟨z, hz⟩ : ∃ z, skip isBlank s j = z := ⟨_, rfl⟩
    rw [hz] at hz1
    have HVAL := Lib.hid hval
    have HZ := Lib.hid hz
    clear hval hz
    by_cases hend : z = s.size
    · have HE := Lib.hid (show places s = some p by unfold places valAt; rw [HI.out, HVAL.out]; simp only; rw [HZ.out, if_pos hend])
      subst hend
      have heq : ((s.size : Int) == (s.size : Int)) = true := by simp
      have tok1 : True := trivial
      go_enter Tryz.func28, Tryz.ntmps28
      go_wp2_with (first
        | (go_at_call 40; clear tok1; go_must (refine (blanks (w.heap.size + 1) s 0 _ HR0.out hs2 (by omega)).mono ?_); rw [HI.out]; rintro e w1 ⟨rfl, hM1⟩)
        | (go_at_call 41; go_must (refine (val_yes HV.out (w.heap.size + 1) i0 _ hM1.rd hi0 (by omega) HVAL.out).mono ?_); rintro e w2 ⟨k, b', e', An, nn, cn, Ak, nk, ck, hM2, rfl, hP⟩
           have HM2 := Lib.hid hM2
           have HM1 := Lib.hid hM1
           have HPL := Lib.hid hP
           clear hM1 hM2 hP)
        | (go_at_call 40; go_must (refine (blanks (w.heap.size + 1) s j _ (HM2.out.rd.alloc _) hs2 hj.2).mono ?_); rw [HZ.out]; rintro e w3 ⟨rfl, hM3⟩
           have hP2 := (((HP0.out.grown HM1.out.gr (by simp)).grown HM2.out.gr (by simp)).alloc (.cells #[.int .i64 k, .int .i64 b', .int .i64 e', .slice An nn cn, .slice Ak nk ck] 27)).grown hM3.gr (by simp)
           have hB2 := Lib.hid (below_of_new (below_alloc (below_of_new (below_of_new HB0.out HM1.out.gr (by omega)) HM2.out.gr (by omega)) _) hM3.gr (by omega))
           have hlt2 := HM2.out.rd.lt
           have hN2 := (B5.new w2 (.int .i64 k) (.int .i64 b') (.int .i64 e') (.slice An nn cn) (.slice Ak nk ck)).grown hM3.gr (by simp; omega)
           have hGR := Lib.hid hM3.gr
           have hne2 : (w2.heap.size == w.heap.size) = false := by simp; omega
           have hne3 : (w.heap.size == w2.heap.size) = false := by simp; omega
           have r1 := hM3.rd.c1
           have q0 := hP2.c0
           have q1 := hP2.c1
           have q2 := hP2.c2
           have q3 := hP2.c3
           have q4 := hP2.c4
           have e0 := hP2.f 0
           have e1 := hP2.f 1
           have e2 := hP2.f 2
           have e3 := hP2.f 3
           have e4 := hP2.f 4
           have n0 := hN2.c0
           have n1 := hN2.c1
           have n2 := hN2.c2
           have n3 := hN2.c3
           have n4 := hN2.c4
           have HLT := Lib.hid hlt2
           clear hP2 hN2 hM3 hlt2))
      refine bodyPost_ret (v := .tuple #[.agg #[.int .i64 k, .int .i64 b', .int .i64 e', .slice An nn cn, .slice Ak nk ck], .bool true]) (by simp [results, Tryz.results28, go_sem, q0, q1, q2, q3, q4]) rfl ?_
      have hw1 := HM1.out.rd.lt
      refine ⟨?_, .inl ⟨p, HE.out, k, b', e', An, nn, cn, Ak, nk, ck, rfl, (HPL.out.keep (((Keeps.alloc _ _ _).trans (Keeps.of_grown hGR.out fun t ht => by simp only [From] at ht; simp; omega)).trans ?_)).mono fun t _ ht => by simp only [From] at ht ⊢; omega⟩⟩
      · iterate 5 with_reducible refine below_set ?_ (by simp) _
        exact hB2.out
      · refine ⟨by simp [World.setCell], fun t ht _ => ?_⟩
        simp only [From] at ht
        iterate 5 rw [Below.heap_setCell _ _ _ t (by simp; omega)]
    · have HE := Lib.hid (show places s = none by unfold places valAt; rw [HI.out, HVAL.out]; simp only; rw [HZ.out, if_neg hend])
      have hne : ((z : Int) == (s.size : Int)) = false := by simp; omega
      have tok1 : True := trivial
      go_enter Tryz.func28, Tryz.ntmps28
      go_wp2_with (first
        | (go_at_call 40; clear tok1; go_must (refine (blanks (w.heap.size + 1) s 0 _ HR0.out hs2 (by omega)).mono ?_); rw [HI.out]; rintro e w1 ⟨rfl, hM1⟩)
        | (go_at_call 41; go_must (refine (val_yes HV.out (w.heap.size + 1) i0 _ hM1.rd hi0 (by omega) HVAL.out).mono ?_); rintro e w2 ⟨k, b', e', An, nn, cn, Ak, nk, ck, hM2, rfl, hP⟩
           have HM2 := Lib.hid hM2
           have HM1 := Lib.hid hM1
           have HPL := Lib.hid hP
           clear hM1 hM2 hP)
        | (go_at_call 40; go_must (refine (blanks (w.heap.size + 1) s j _ (HM2.out.rd.alloc _) hs2 hj.2).mono ?_); rw [HZ.out]; rintro e w3 ⟨rfl, hM3⟩
           have hP2 := (((HP0.out.grown HM1.out.gr (by simp)).grown HM2.out.gr (by simp)).alloc (.cells #[.int .i64 k, .int .i64 b', .int .i64 e', .slice An nn cn, .slice Ak nk ck] 27)).grown hM3.gr (by simp)
           have hB2 := Lib.hid (below_of_new (below_alloc (below_of_new (below_of_new HB0.out HM1.out.gr (by omega)) HM2.out.gr (by omega)) _) hM3.gr (by omega))
           have r1 := hM3.rd.c1
           have q0 := hP2.c0
           have q1 := hP2.c1
           have q2 := hP2.c2
           have q3 := hP2.c3
           have q4 := hP2.c4
           have e0 := hP2.f 0
           have e1 := hP2.f 1
           have e2 := hP2.f 2
           have e3 := hP2.f 3
           have e4 := hP2.f 4
           clear hP2 hM3))
      refine bodyPost_ret (v := .tuple #[.agg #[.int .i64 0, .int .i64 0, .int .i64 0, .slice none 0 0, .slice none 0 0], .bool false]) (by simp [results, Tryz.results28, go_sem, q0, q1, q2, q3, q4]) rfl ?_
      refine ⟨?_, .inr ⟨HE.out, rfl⟩⟩
      iterate 5 with_reducible refine below_set ?_ (by simp) _
      exact hB2.out
end Go.Proofs.YtkdkdhcjpgmjdaaGreatDoor.L
