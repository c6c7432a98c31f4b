/- The walk of jpPlaces. -/
import Derived.Test.YtkdkdhcjpgmjdaaDoorJpGet2
import Derived.Test.YtkdkdhcjpgmjdaaDoorPlaces
import Derived.Laws.DeepStrings4
namespace Go.Proofs.YtkdkdhcjpgmjdaaDoor.Jp
open Go.RowKit L
set_option linter.unusedVariables false
set_option linter.unusedSimpArgs false

theorem B5.below {w w' : World} {g : Nat} {v0 v1 v2 v3 v4 : Value} (h : B5 w g v0 v1 v2 v3 v4) (hb : Below w.heap.size w w') : B5 w' g v0 v1 v2 v3 v4 := (hb.block g h.lt).trans h
/-- What jpPlaces answers. -/
def JpPlPost (s : ByteArray) (w : World) (e : Ending) (w' : World) : Prop :=
  Below w.heap.size w w' ∧
  ((∃ p, s.size ≤ 65536 ∧ places s = some p ∧ ∃ (k b' e' : Int) (An : Option Addr) (nn cn : Nat) (Ak : Option Addr) (nk ck : Nat), e = .returned (.tuple #[.agg #[.int .i64 k, .int .i64 b', .int .i64 e', .slice An nn cn, .slice Ak nk ck], .bool true]) ∧
      PlC w' (From w.heap.size) p [.int .i64 k, .int .i64 b', .int .i64 e', .slice An nn cn, .slice Ak nk ck]) ∨
   (e = .returned (.tuple #[.agg #[.int .i64 0, .int .i64 0, .int .i64 0, .slice none 0 0, .slice none 0 0], .bool false])))
set_option maxRecDepth 100000 in
set_option maxHeartbeats 4000000 in
theorem jpPlacesW (s : ByteArray) (w : World) (hs : s.size ≤ 2147483648) : Calls Tryd.prog 5 #[.string s] w (JpPlPost s w) := by
  obtain ⟨w1, hw1⟩ : ∃ w1, w.alloc (.cells #[.int .i64 0, .int .i64 0, .int .i64 0, .slice none 0 0, .slice none 0 0] 25) = w1 := ⟨_, rfl⟩
  have HB1 := Lib.hid (show Below w.heap.size w w1 by rw [← hw1]; exact below_alloc (Below.refl _ _) _)
  have hp0 : B5 w1 w.heap.size (.int .i64 0) (.int .i64 0) (.int .i64 0) (.slice none 0 0) (.slice none 0 0) := by rw [← hw1]; exact B5.new _ _ _ _ _ _
  have HZ := Lib.hid (show w1.heap.size = w.heap.size + 1 by rw [← hw1]; simp)
  have q0 := hp0.c0
  have q1 := hp0.c1
  have q2 := hp0.c2
  have q3 := hp0.c3
  have q4 := hp0.c4
  have r0 := hp0.f 0
  have r1 := hp0.f 1
  have r2 := hp0.f 2
  have r3 := hp0.f 3
  have r4 := hp0.f 4
  have HP0 := Lib.hid hp0
  clear hp0
  by_cases hbig : 65536 < s.size
  · go_enter Tryd.func5, Tryd.ntmps5
    go_wp2
    refine bodyPost_ret (v := .tuple #[.agg #[.int .i64 0, .int .i64 0, .int .i64 0, .slice none 0 0, .slice none 0 0], .bool false]) (by simp [results, Tryd.results5, go_sem, q0, q1, q2, q3, q4]) rfl ?_
    refine ⟨?_, .inr rfl⟩
    iterate 5 with_reducible refine below_set ?_ (Nat.le_refl _) _
    exact HB1.out
  · cases hp : places s with
    | none =>
      have HP := Lib.hid hp
      clear hp
      go_enter Tryd.func5, Tryd.ntmps5
      go_wp2_with (first
        | (go_at_call 17; refine (placesW s _ hs).mono ?_; rintro e w2 ⟨hb2, ⟨p, hp, _⟩ | ⟨_, rfl⟩⟩; case inl => exact absurd (HP.out.symm.trans hp) (by simp)
           have hp2 := B5.below HP0.out hb2
           have q0 := hp2.c0
           have q1 := hp2.c1
           have q2 := hp2.c2
           have q3 := hp2.c3
           have q4 := hp2.c4
           have r0 := hp2.f 0
           have r1 := hp2.f 1
           have r2 := hp2.f 2
           have r3 := hp2.f 3
           have r4 := hp2.f 4
           clear hp2
           replace hb2 := Lib.hid hb2))
      refine bodyPost_ret (v := .tuple #[.agg #[.int .i64 0, .int .i64 0, .int .i64 0, .slice none 0 0, .slice none 0 0], .bool false]) (by simp [results, Tryd.results5, go_sem, q0, q1, q2, q3, q4]) rfl ?_
      refine ⟨?_, .inr rfl⟩
      iterate 5 with_reducible refine below_set ?_ (Nat.le_refl _) _
      exact below_of HB1.out hb2.out
    | some p =>
      have HP := Lib.hid hp
      clear hp
      go_enter Tryd.func5, Tryd.ntmps5
      go_wp2_with (first
        | (go_at_call 17; refine (placesW s _ hs).mono ?_; rintro e w2 ⟨hb2, ⟨p', hp, k, b', e', An, nn, cn, Ak, nk, ck, rfl, hPl⟩ | ⟨hp, _⟩⟩; case inr => exact absurd (HP.out.symm.trans hp) (by simp)
           obtain rfl : p = p' := Option.some.inj (HP.out.symm.trans hp)
           clear hp
           have hp2 := B5.below HP0.out hb2
           have q0 := hp2.c0
           have q1 := hp2.c1
           have q2 := hp2.c2
           have q3 := hp2.c3
           have q4 := hp2.c4
           have r0 := hp2.f 0
           have r1 := hp2.f 1
           have r2 := hp2.f 2
           have r3 := hp2.f 3
           have r4 := hp2.f 4
           clear hp2
           replace hb2 := Lib.hid hb2
           replace hPl := Lib.hid hPl))
      refine bodyPost_ret (v := .tuple #[.agg #[.int .i64 k, .int .i64 b', .int .i64 e', .slice An nn cn, .slice Ak nk ck], .bool true]) (by simp [results, Tryd.results5, go_sem, q0, q1, q2, q3, q4]) rfl ?_
      refine ⟨?_, .inl ⟨p, by omega, HP.out, k, b', e', An, nn, cn, Ak, nk, ck, rfl, (hPl.out.keep ?_).mono fun j _ hj => by have := HZ.out; simp only [From] at hj ⊢; omega⟩⟩
      · iterate 5 with_reducible refine below_set ?_ (Nat.le_refl _) _
        exact below_of HB1.out hb2.out
      · refine ⟨by simp [World.setCell], fun t ht _ => ?_⟩
        have := HZ.out
        simp only [From] at ht
        iterate 5 rw [Below.heap_setCell _ _ _ t (by simp; omega)]
theorem plc_vals {w : World} {B : Nat → Prop} {p : Pl} {k b e : Int} {s1 s2 : Value} (h : PlC w B p [.int .i64 k, .int .i64 b, .int .i64 e, s1, s2]) : k = (p.kind : Int) ∧ b = (p.b : Int) ∧ e = (p.e : Int) := by
  cases p with
  | mk kd b0 e0 ns ks =>
    simp only [PlC] at h
    obtain ⟨An, cn, Ak, ck, xs, h, -⟩ := h
    simp only [List.cons.injEq, Value.int.injEq, true_and] at h
    exact ⟨h.1, h.2.1, h.2.2.1⟩
theorem places_ok {s : ByteArray} {p : Pl} (h : places s = some p) : p.kind ≤ 6 ∧ p.b < p.e ∧ p.e ≤ s.size := by
  unfold places valAt at h
  split at h
  · cases h
  · rename_i j q hv
    split at h
    · injection h with h
      subst h
      have hk := vok _ _ _ _ (skip_top isBlank s (i := 0) (by omega)) hv
      obtain ⟨k1, k2, -, k4, k5, -, -, -, -, k6⟩ := hk
      exact ⟨k6, by omega, by omega⟩
    · cases h
end Go.Proofs.YtkdkdhcjpgmjdaaDoor.Jp
