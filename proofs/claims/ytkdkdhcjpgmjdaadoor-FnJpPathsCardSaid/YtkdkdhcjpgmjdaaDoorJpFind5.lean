/- The walk of jpFound. -/
import Derived.Test.YtkdkdhcjpgmjdaaDoorJpFind4
namespace Go.Proofs.YtkdkdhcjpgmjdaaDoor.Jp
open Go.RowKit L
set_option linter.unusedVariables false
set_option linter.unusedSimpArgs false

theorem places_val {s : ByteArray} {p : Pl} (h : places s = some p) : IsVal s p ∧ Rdv s (s.size + 1) 0 p := by
  unfold places valAt at h
  split at h
  · cases h
  · rename_i j q hv
    split at h
    · injection h with h
      subst h
      obtain ⟨h1, h2⟩ := rdv_of (off := 0) (by omega) (skip_top isBlank s (i := 0) (by omega)) hv
      exact ⟨⟨_, _, h1⟩, h1⟩
    · cases h
theorem pm_of_plc {w : World} {B : Nat → Prop} {p : Pl} {k b e : Int} {An : Option Addr} {nn cn : Nat} {Ak : Option Addr} {nk ck : Nat} (h : PlC w B p [.int .i64 k, .int .i64 b, .int .i64 e, .slice An nn cn, .slice Ak nk ck]) : Pm w B p An nn cn Ak nk ck := by
  cases p with
  | mk kd b0 e0 ns ks =>
    simp only [PlC] at h
    obtain ⟨An', cn', Ak', ck', ys, he, h0, h1, h2⟩ := h
    simp only [List.cons.injEq, Value.slice.injEq, and_true] at he
    obtain ⟨-, -, -, ⟨rfl, rfl, rfl⟩, rfl, rfl, rfl⟩ := he
    exact ⟨rfl, rfl, h0, ys, h1, h2⟩
theorem found_cons {s : ByteArray} {p : Pl} {k : ByteArray} {ks : List ByteArray} : foundP s p (k :: ks) = if p.kind = 6 ∧ isIdx k = true then none else match stepP s p k with | none => none | some q => foundP s q ks := rfl
/-- What jpFound answers. -/
def FoundPost (s : ByteArray) (ks : List ByteArray) (w : World) (e : Ending) (w' : World) : Prop := Below w.heap.size w w' ∧
  ((∃ root r An cn Ak ck, s.size ≤ 65536 ∧ places s = some root ∧ Leads s root ks r ∧ IsVal s r ∧ e = .returned (.tuple #[Pg r An r.names.length cn Ak r.kids.length ck, .bool true]) ∧ Pm w' (From w.heap.size) r An r.names.length cn Ak r.kids.length ck) ∨
   e = .returned (.tuple #[Pz, .bool false]))
/-- jpFound stands at key j. -/
structure FoundAt (s : ByteArray) (g : Nat) (w1 : World) (o : Option Pl) (ks : List ByteArray) (j : Nat) (wr : World) (p : Pl) (An : Option Addr) (nn cn : Nat) (Ak : Option Addr) (nk ck : Nat) : Prop where
  val : IsVal s p
  mem : Pm wr (fun i => g < i ∧ i < w1.heap.size) p An nn cn Ak nk ck
  box : B5 wr w1.heap.size (.int .i64 (p.kind : Int)) (.int .i64 (p.b : Int)) (.int .i64 (p.e : Int)) (.slice An nn cn) (.slice Ak nk ck)
  zero : B5 wr g (.int .i64 0) (.int .i64 0) (.int .i64 0) (.slice none 0 0) (.slice none 0 0)
  bel : Below w1.heap.size w1 wr
  found : foundP s p (ks.drop j) = o
theorem FoundAt.below {s : ByteArray} {g : Nat} {w1 wr wx : World} {o : Option Pl} {ks : List ByteArray} {j : Nat} {p : Pl} {An : Option Addr} {nn cn : Nat} {Ak : Option Addr} {nk ck : Nat} (h : FoundAt s g w1 o ks j wr p An nn cn Ak nk ck) (hb : Below wr.heap.size wr wx) : FoundAt s g w1 o ks j wx p An nn cn Ak nk ck :=
  ⟨h.val, h.mem.keep (Keeps.of_below hb), B5.below h.box hb, B5.below h.zero hb, below_of h.bel hb, h.found⟩
theorem b5_other {w : World} {g g2 : Nat} (hne : g ≠ g2) {v0 v1 v2 v3 v4 u0 u1 u2 u3 u4 : Value} (h : B5 w g v0 v1 v2 v3 v4) : B5 (((((w.setCell ⟨g2, 0, none⟩ u0).setCell ⟨g2, 1, none⟩ u1).setCell ⟨g2, 2, none⟩ u2).setCell ⟨g2, 3, none⟩ u3).setCell ⟨g2, 4, none⟩ u4) g v0 v1 v2 v3 v4 := by
  unfold B5 at h ⊢
  iterate 5 rw [Below.heap_setCell _ _ _ g hne]
  exact h
theorem keep_other {g n g2 : Nat} {w : World} {u0 u1 u2 u3 u4 : Value} (hg : g2 ≤ g ∨ n ≤ g2) : Keeps (fun j => g < j ∧ j < n) w (((((w.setCell ⟨g2, 0, none⟩ u0).setCell ⟨g2, 1, none⟩ u1).setCell ⟨g2, 2, none⟩ u2).setCell ⟨g2, 3, none⟩ u3).setCell ⟨g2, 4, none⟩ u4) := by
  refine ⟨by simp [World.setCell], fun t ht _ => ?_⟩
  iterate 5 rw [Below.heap_setCell _ _ _ t (by simp; omega)]
set_option maxRecDepth 100000 in
set_option maxHeartbeats 8000000 in
theorem jpFoundW (s : ByteArray) (ks : List ByteArray) (B2 : Nat → Prop) (A : Option Addr) (n c : Nat) (w : World) (hR : Row w B2 1 A n c (keysV ks)) (hks : ∀ k ∈ ks, k.size ≤ 2147483647) (hs : s.size ≤ 2147483647) :
    Calls Tryd.prog 9 #[.string s, .slice A n c] w (FoundPost s ks w) := by
  obtain ⟨hn, hnm⟩ := keys_len hR
  obtain ⟨w0, hw0⟩ : ∃ w0, w.alloc (.cells #[.int .i64 0, .int .i64 0, .int .i64 0, .slice none 0 0, .slice none 0 0] 25) = w0 := ⟨_, rfl⟩
  have hb0 : Below w.heap.size w w0 := by rw [← hw0]; exact below_alloc (Below.refl _ _) _
  have hz0 : B5 w0 w.heap.size (.int .i64 0) (.int .i64 0) (.int .i64 0) (.slice none 0 0) (.slice none 0 0) := by rw [← hw0]; exact B5.new _ _ _ _ _ _
  have hsz0 : w0.heap.size = w.heap.size + 1 := by rw [← hw0]; simp
  have HB0 := Lib.hid hb0
  have HZ0 := Lib.hid hz0
  have HSZ0 := Lib.hid hsz0
  have HR := Lib.hid hR
  have HN := Lib.hid hn
  have HKS := Lib.hid hks
  clear hb0 hz0 hsz0 hR hn hks
  go_enter Tryd.func9, Tryd.ntmps9
  go_upto_region 2 with (first
    | (go_at_call 5; refine (jpPlacesW s _ (by omega)).mono ?_; rintro e w1 ⟨hb1, ⟨root, hsz, hp, k, b', e', An, nn, cn, Ak, nk, ck, rfl, hPl⟩ | rfl⟩ <;> replace hb1 := Lib.hid hb1))
  · obtain ⟨rfl, rfl, rfl⟩ := plc_vals hPl
    obtain ⟨hval, -⟩ := places_val hp
    have hm1 := pm_of_plc hPl
    obtain ⟨w2, hw2⟩ : ∃ w2, w1.alloc (.cells #[.int .i64 (root.kind : Int), .int .i64 (root.b : Int), .int .i64 (root.e : Int), .slice An nn cn, .slice Ak nk ck] 25) = w2 := ⟨_, rfl⟩
    rw [hw2]
    have hb2 : Below w1.heap.size w1 w2 := by rw [← hw2]; exact below_alloc (Below.refl _ _) _
    have hp2 : B5 w2 w1.heap.size (.int .i64 (root.kind : Int)) (.int .i64 (root.b : Int)) (.int .i64 (root.e : Int)) (.slice An nn cn) (.slice Ak nk ck) := by rw [← hw2]; exact B5.new _ _ _ _ _ _
    have HF0 := Lib.hid (show FoundAt s w.heap.size w1 (foundP s root ks) ks 0 w2 root An nn cn Ak nk ck from ⟨hval, (hm1.mono (fun j hj hB => ⟨by have := HSZ0.out; simp only [From] at hB; omega, hj⟩)).keep (Keeps.of_below hb2), hp2, B5.below (B5.below HZ0.out hb1.out) hb2, hb2, rfl⟩)
    have HP := Lib.hid hp
    have HB1 := Lib.hid (below_of HB0.out hb1.out)
    have hlt1 : w.heap.size < w1.heap.size := by have := HSZ0.out; have := hb1.out.size; omega
    obtain ⟨bo, hbo⟩ : ∃ bo, onceP s root ks = bo := ⟨_, rfl⟩
    have HBO := Lib.hid hbo
    have c0 := hp2.c0
    have c1 := hp2.c1
    have c2 := hp2.c2
    have c3 := hp2.c3
    have c4 := hp2.c4
    clear hb2 hp2 hw2 hPl hval hm1 hp hbo
    cases bo with
    | false =>
      go_wp2_with (first
        | (go_at_call 20; refine (onceW s ks root _ _ An nn cn Ak nk ck A n c false _ HF0.out.val HF0.out.mem (HR.out.keep (Keeps.of_below (below_of HB1.out HF0.out.bel))) HKS.out hsz HBO.out).mono ?_; rintro e w3 ⟨rfl, hb3⟩
           have hz := B5.below HF0.out.zero hb3
           have q0 := hz.c0
           have q1 := hz.c1
           have q2 := hz.c2
           have q3 := hz.c3
           have q4 := hz.c4
           have r0 := hz.f 0
           have r1 := hz.f 1
           have r2 := hz.f 2
           have r3 := hz.f 3
           have r4 := hz.f 4
           clear hz
           replace hb3 := Lib.hid hb3))
      refine bodyPost_ret (v := .tuple #[Pz, .bool false]) (by simp [results, Tryd.results9, go_sem, q0, q1, q2, q3, q4]) rfl ?_
      exact ⟨below_b5 (below_of HB1.out (below_of HF0.out.bel hb3.out)) (Nat.le_refl _), .inr rfl⟩
    | true =>
      go_wp2_with (first
        | (go_at_call 20; refine (onceW s ks root _ _ An nn cn Ak nk ck A n c true _ HF0.out.val HF0.out.mem (HR.out.keep (Keeps.of_below (below_of HB1.out HF0.out.bel))) HKS.out hsz HBO.out).mono ?_; rintro e w3 ⟨rfl, hb3⟩
           have HF3 := Lib.hid (HF0.out.below hb3)
           clear hb3))
      clear c0 c1 c2 c3 c4
      go_loopg [27] n (fun d v27 wr => ∃ (j : Nat) (p : Pl) (An : Option Addr) (nn cn : Nat) (Ak : Option Addr) (nk ck : Nat), v27 = .int .i64 (j : Int) ∧ j ≤ n ∧ n - j ≤ d ∧ FoundAt s w.heap.size w1 (foundP s root ks) ks j wr p An nn cn Ak nk ck)
      case atStart => exact ⟨0, root, An, nn, cn, Ak, nk, ck, rfl, by omega, by omega, HF3.out⟩
      case round =>
        obtain ⟨j, p, An, nn, cn, Ak, nk, ck, rfl, hj, hd, hF⟩ := hrel
        have HD := Lib.hid hd
        have HF := Lib.hid hF
        have c0 := hF.box.c0
        have c1 := hF.box.c1
        have c2 := hF.box.c2
        have c3 := hF.box.c3
        have c4 := hF.box.c4
        have q0 := hF.zero.c0
        have q1 := hF.zero.c1
        have q2 := hF.zero.c2
        have q3 := hF.zero.c3
        have q4 := hF.zero.c4
        have r0 := hF.zero.f 0
        have r1 := hF.zero.f 1
        have r2 := hF.zero.f 2
        have r3 := hF.zero.f 3
        have r4 := hF.zero.f 4
        clear hd hF
        by_cases hlt : j < n
        · obtain ⟨key, hk⟩ : ∃ x, ks[j]? = some x := ⟨_, List.getElem?_eq_getElem (by rw [← HN.out]; exact hlt)⟩
          obtain ⟨ad, rfl, hlb, hc⟩ := keyAt (HR.out.keep (Keeps.of_below (below_of HB1.out HF.out.bel))) hk
          have hksz := HKS.out key (List.mem_of_getElem? hk)
          have HON := Lib.hid (show foundP s p (key :: ks.drop (j + 1)) = foundP s root ks by rw [← drop_key hk]; exact HF.out.found)
          clear hk
          obtain ⟨ib, hib⟩ : ∃ ib, isIdx key = ib := ⟨_, rfl⟩
          have HIB := Lib.hid hib
          clear hib
          by_cases h6i : p.kind = 6 ∧ ib = true
          · obtain ⟨h6, rfl⟩ := h6i
            have k6 : ((p.kind : Int) == 6) = true := by rw [beq_iff_eq]; omega
            clear h6
            go_wp2_with (first
              | (go_at_call 21; refine (jpIndexW key true HIB.out _ (by omega)).mono ?_; rintro e w4 ⟨rfl, rfl⟩))
            refine bodyPost_ret (v := .tuple #[Pz, .bool false]) (by simp [results, Tryd.results9, go_sem, q0, q1, q2, q3, q4]) rfl ?_
            exact ⟨below_b5 (below_of HB1.out HF.out.bel) (Nat.le_refl _), .inr rfl⟩
          · have HNI := Lib.hid (show ¬ (p.kind = 6 ∧ isIdx key = true) by rw [HIB.out]; exact h6i)
            have hgoal : ∀ K6 : Bool, ((p.kind : Int) == 6) = K6 → (K6 = true → ib = false) := fun K6 hK e => by
              subst e
              cases ib with
              | false => rfl
              | true => exact absurd ⟨by rw [beq_iff_eq] at hK; omega, rfl⟩ h6i
            obtain ⟨K6, hK6⟩ : ∃ K6, ((p.kind : Int) == 6) = K6 := ⟨_, rfl⟩
            have hki := hgoal K6 hK6
            clear hgoal h6i
            cases hst : stepP s p key with
            | none =>
              have HST := Lib.hid hst
              clear hst
              cases K6 with
              | true =>
                obtain rfl := hki rfl
                clear hki
                go_wp2_with (first
                  | (go_at_call 21; refine (jpIndexW key false HIB.out _ (by omega)).mono ?_; rintro e w4 ⟨rfl, rfl⟩)
                  | (go_at_call 22; refine (stepW s key p _ An nn cn Ak nk ck _ HF.out.val HF.out.mem hsz (by omega)).mono ?_; rintro e w4 ⟨hb4, ⟨-, rfl⟩ | ⟨q, Aq, cq, Ar, cr, hq, -⟩⟩; case inr => exact absurd (HST.out.symm.trans hq) (by simp)
                     have hbx := B5.below HF.out.box hb4
                     have c0 := hbx.c0
                     have c1 := hbx.c1
                     have c2 := hbx.c2
                     have c3 := hbx.c3
                     have c4 := hbx.c4
                     have f0 := hbx.f 0
                     have f1 := hbx.f 1
                     have f2 := hbx.f 2
                     have f3 := hbx.f 3
                     have f4 := hbx.f 4
                     replace hbx := Lib.hid hbx
                     obtain ⟨w5, hw5⟩ : ∃ w5, ((((w4.setCell ⟨w1.heap.size, 0, none⟩ (.int .i64 0)).setCell ⟨w1.heap.size, 1, none⟩ (.int .i64 0)).setCell ⟨w1.heap.size, 2, none⟩ (.int .i64 0)).setCell ⟨w1.heap.size, 3, none⟩ (.slice none 0 0)).setCell ⟨w1.heap.size, 4, none⟩ (.slice none 0 0) = w5 := ⟨_, rfl⟩
                     have hz5 := b5_other (g2 := w1.heap.size) (u0 := .int .i64 0) (u1 := .int .i64 0) (u2 := .int .i64 0) (u3 := .slice none 0 0) (u4 := .slice none 0 0) (show w.heap.size ≠ w1.heap.size by omega) (B5.below HF.out.zero hb4)
                     have hB5 := below_b5 (u0 := .int .i64 0) (u1 := .int .i64 0) (u2 := .int .i64 0) (u3 := .slice none 0 0) (u4 := .slice none 0 0) (below_of HB1.out (below_of HF.out.bel hb4)) (show w.heap.size ≤ w1.heap.size by omega)
                     rw [hw5] at hz5 hB5
                     have q0 := hz5.c0
                     have q1 := hz5.c1
                     have q2 := hz5.c2
                     have q3 := hz5.c3
                     have q4 := hz5.c4
                     have r0 := hz5.f 0
                     have r1 := hz5.f 1
                     have r2 := hz5.f 2
                     have r3 := hz5.f 3
                     have r4 := hz5.f 4
                     clear hz5
                     replace hB5 := Lib.hid hB5
                     replace hb4 := Lib.hid hb4))
                refine bodyPost_ret (v := .tuple #[Pz, .bool false]) (by simp [results, Tryd.results9, go_sem, q0, q1, q2, q3, q4]) rfl ?_
                exact ⟨below_b5 hB5.out (Nat.le_refl _), .inr rfl⟩
              | false =>
                clear hki
                go_wp2_with (first
                  | (go_at_call 21; refine (jpIndexW key false HIB.out _ (by omega)).mono ?_; rintro e w4 ⟨rfl, rfl⟩)
                  | (go_at_call 22; refine (stepW s key p _ An nn cn Ak nk ck _ HF.out.val HF.out.mem hsz (by omega)).mono ?_; rintro e w4 ⟨hb4, ⟨-, rfl⟩ | ⟨q, Aq, cq, Ar, cr, hq, -⟩⟩; case inr => exact absurd (HST.out.symm.trans hq) (by simp)
                     have hbx := B5.below HF.out.box hb4
                     have c0 := hbx.c0
                     have c1 := hbx.c1
                     have c2 := hbx.c2
                     have c3 := hbx.c3
                     have c4 := hbx.c4
                     have f0 := hbx.f 0
                     have f1 := hbx.f 1
                     have f2 := hbx.f 2
                     have f3 := hbx.f 3
                     have f4 := hbx.f 4
                     replace hbx := Lib.hid hbx
                     obtain ⟨w5, hw5⟩ : ∃ w5, ((((w4.setCell ⟨w1.heap.size, 0, none⟩ (.int .i64 0)).setCell ⟨w1.heap.size, 1, none⟩ (.int .i64 0)).setCell ⟨w1.heap.size, 2, none⟩ (.int .i64 0)).setCell ⟨w1.heap.size, 3, none⟩ (.slice none 0 0)).setCell ⟨w1.heap.size, 4, none⟩ (.slice none 0 0) = w5 := ⟨_, rfl⟩
                     have hz5 := b5_other (g2 := w1.heap.size) (u0 := .int .i64 0) (u1 := .int .i64 0) (u2 := .int .i64 0) (u3 := .slice none 0 0) (u4 := .slice none 0 0) (show w.heap.size ≠ w1.heap.size by omega) (B5.below HF.out.zero hb4)
                     have hB5 := below_b5 (u0 := .int .i64 0) (u1 := .int .i64 0) (u2 := .int .i64 0) (u3 := .slice none 0 0) (u4 := .slice none 0 0) (below_of HB1.out (below_of HF.out.bel hb4)) (show w.heap.size ≤ w1.heap.size by omega)
                     rw [hw5] at hz5 hB5
                     have q0 := hz5.c0
                     have q1 := hz5.c1
                     have q2 := hz5.c2
                     have q3 := hz5.c3
                     have q4 := hz5.c4
                     have r0 := hz5.f 0
                     have r1 := hz5.f 1
                     have r2 := hz5.f 2
                     have r3 := hz5.f 3
                     have r4 := hz5.f 4
                     clear hz5
                     replace hB5 := Lib.hid hB5
                     replace hb4 := Lib.hid hb4))
                refine bodyPost_ret (v := .tuple #[Pz, .bool false]) (by simp [results, Tryd.results9, go_sem, q0, q1, q2, q3, q4]) rfl ?_
                exact ⟨below_b5 hB5.out (Nat.le_refl _), .inr rfl⟩
            | some q =>
              have HON2 := Lib.hid (show foundP s q (ks.drop (j + 1)) = foundP s root ks by rw [← HON.out, found_cons, if_neg HNI.out, hst])
              have HST := Lib.hid hst
              have HVQ := Lib.hid (show IsVal s q by
                unfold stepP at hst
                obtain ⟨i, -, hi⟩ := Option.bind_eq_some_iff.1 hst
                exact (isval_in HF.out.val).1 q (List.mem_of_getElem? hi))
              clear hst
              cases K6 with
              | true =>
                obtain rfl := hki rfl
                clear hki
                go_wp2_with (first
                  | (go_at_call 21; refine (jpIndexW key false HIB.out _ (by omega)).mono ?_; rintro e w4 ⟨rfl, rfl⟩)
                  | (go_at_call 22; refine (stepW s key p _ An nn cn Ak nk ck _ HF.out.val HF.out.mem hsz (by omega)).mono ?_; rintro e w4 ⟨hb4, ⟨hq, -⟩ | ⟨q', Aq, cq, Ar, cr, hq, rfl, hpm⟩⟩; case inl => exact absurd (HST.out.symm.trans hq) (by simp)
                     obtain rfl : q = q' := Option.some.inj (HST.out.symm.trans hq)
                     clear hq
                     have hbx := B5.below HF.out.box hb4
                     have c0 := hbx.c0
                     have c1 := hbx.c1
                     have c2 := hbx.c2
                     have c3 := hbx.c3
                     have c4 := hbx.c4
                     have f0 := hbx.f 0
                     have f1 := hbx.f 1
                     have f2 := hbx.f 2
                     have f3 := hbx.f 3
                     have f4 := hbx.f 4
                     replace hbx := Lib.hid hbx
                     replace hpm := Lib.hid hpm
                     replace hb4 := Lib.hid hb4))
                go_roundg (gk - 1)
                case measure => have := HD.out; omega
                case rel => exact ⟨j + 1, q, Aq, q.names.length, cq, Ar, q.kids.length, cr, by go_num, by omega, by have := HD.out; omega, HVQ.out, hpm.out.keep (keep_other (.inr (Nat.le_refl _))), b5_put hbx.out, b5_other (by omega) (B5.below HF.out.zero hb4.out), below_b5 (below_of HF.out.bel hb4.out) (Nat.le_refl _), HON2.out⟩
              | false =>
                clear hki
                go_wp2_with (first
                  | (go_at_call 21; refine (jpIndexW key false HIB.out _ (by omega)).mono ?_; rintro e w4 ⟨rfl, rfl⟩)
                  | (go_at_call 22; refine (stepW s key p _ An nn cn Ak nk ck _ HF.out.val HF.out.mem hsz (by omega)).mono ?_; rintro e w4 ⟨hb4, ⟨hq, -⟩ | ⟨q', Aq, cq, Ar, cr, hq, rfl, hpm⟩⟩; case inl => exact absurd (HST.out.symm.trans hq) (by simp)
                     obtain rfl : q = q' := Option.some.inj (HST.out.symm.trans hq)
                     clear hq
                     have hbx := B5.below HF.out.box hb4
                     have c0 := hbx.c0
                     have c1 := hbx.c1
                     have c2 := hbx.c2
                     have c3 := hbx.c3
                     have c4 := hbx.c4
                     have f0 := hbx.f 0
                     have f1 := hbx.f 1
                     have f2 := hbx.f 2
                     have f3 := hbx.f 3
                     have f4 := hbx.f 4
                     replace hbx := Lib.hid hbx
                     replace hpm := Lib.hid hpm
                     replace hb4 := Lib.hid hb4))
                go_roundg (gk - 1)
                case measure => have := HD.out; omega
                case rel => exact ⟨j + 1, q, Aq, q.names.length, cq, Ar, q.kids.length, cr, by go_num, by omega, by have := HD.out; omega, HVQ.out, hpm.out.keep (keep_other (.inr (Nat.le_refl _))), b5_put hbx.out, b5_other (by omega) (B5.below HF.out.zero hb4.out), below_b5 (below_of HF.out.bel hb4.out) (Nat.le_refl _), HON2.out⟩
        · have HE := Lib.hid (show foundP s root ks = some p by rw [← HF.out.found, List.drop_eq_nil_of_le (by rw [← HN.out]; omega)]; rfl)
          have hhn := HF.out.mem.hn
          have hhk := HF.out.mem.hk
          subst hhn hhk
          go_wp2
          refine bodyPost_ret (v := .tuple #[Pg p An p.names.length cn Ak p.kids.length ck, .bool true]) (by simp [results, Tryd.results9, go_sem, q0, q1, q2, q3, q4]) rfl ?_
          refine ⟨below_b5 (below_of HB1.out HF.out.bel) (Nat.le_refl _), .inl ⟨root, p, An, cn, Ak, ck, hsz, HP.out, leads_of HBO.out HE.out, HF.out.val, rfl, ?_⟩⟩
          exact (HF.out.mem.keep (keep_other (.inl (Nat.le_refl _)))).mono (fun j hj h => by simp only [From]; omega)
  · obtain ⟨w2, hw2⟩ : ∃ w2, w1.alloc (.cells #[.int .i64 0, .int .i64 0, .int .i64 0, .slice none 0 0, .slice none 0 0] 25) = w2 := ⟨_, rfl⟩
    rw [hw2]
    have hb2 : Below w1.heap.size w1 w2 := by rw [← hw2]; exact below_alloc (Below.refl _ _) _
    have HB2 := Lib.hid (below_of (below_of HB0.out hb1.out) hb2)
    have hz := B5.below (B5.below HZ0.out hb1.out) hb2
    have q0 := hz.c0
    have q1 := hz.c1
    have q2 := hz.c2
    have q3 := hz.c3
    have q4 := hz.c4
    have r0 := hz.f 0
    have r1 := hz.f 1
    have r2 := hz.f 2
    have r3 := hz.f 3
    have r4 := hz.f 4
    clear hz hb2 hw2
    go_wp2
    refine bodyPost_ret (v := .tuple #[Pz, .bool false]) (by simp [results, Tryd.results9, go_sem, q0, q1, q2, q3, q4]) rfl ?_
    exact ⟨below_b5 HB2.out (Nat.le_refl _), .inr rfl⟩
end Go.Proofs.YtkdkdhcjpgmjdaaDoor.Jp
