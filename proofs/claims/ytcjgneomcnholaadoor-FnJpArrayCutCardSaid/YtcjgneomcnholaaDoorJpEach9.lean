/- FnJpArrayCut: the walk of the law. -/
import Derived.Test.YtcjgneomcnholaaDoorJpEach8
import Derived.Test.YtcjgneomcnholaaDoorJpEach5
import Derived.Test.YtcjgneomcnholaaDoorJpEach4
import Derived.Test.YtcjgneomcnholaaDoorJpLawC
namespace Go.Proofs.YtcjgneomcnholaaDoor.Jp
open Go.RowKit L
set_option linter.unusedVariables false
set_option linter.unusedSimpArgs false
theorem echain_all {s : ByteArray} {n E : Nat} : ∀ {qs : List Pl} {off : Nat}, EChain s n E off qs → ∀ q ∈ qs, q.b < q.e ∧ q.e ≤ s.size ∧ q.kind ≤ 6 ∧ (q.kind = 4 → q.b + 2 ≤ q.e)
  | [q], off, h, q', hq => by
    simp only [List.mem_singleton] at hq
    subst hq
    obtain ⟨h1, h2, h3, h4, h5, h6, h7, h8⟩ := h.1
    exact ⟨h6, h5, h7, h8⟩
  | q :: r :: qs, off, h, q', hq => by
    rcases List.mem_cons.1 hq with rfl | hq
    · obtain ⟨h1, h2, h3, h4, h5, h6, h7, h8⟩ := h.1
      exact ⟨h6, h5, h7, h8⟩
    · exact echain_all h.2.2 q' hq
set_option maxRecDepth 100000 in
set_option maxHeartbeats 4000000 in
theorem lawArrCut (T : Nat → TypeId) (V : Nat → Value) (s : ByteArray) (c : Int) (w : World) (hs0 : s.size ≤ 140737488351232) (hc : (Lit.int .i64 c).wf = true) (hW : Wd T V w) :
    Calls Tryd.prog 4 #[.string s, .int .i64 c] w fun e w' => e = .returned (.bool true) ∧ Below w.heap.size w w' := by
  have HW := Lib.hid hW
  have HC := Lib.hid hc
  clear hW hc
  by_cases hbig : 2147483647 < s.size
  · go_enter Tryd.func4, Tryd.ntmps4
    go_wp2
    all_goals go_ret
    all_goals exact ⟨rfl, Below.refl _ _⟩
  have hs : s.size ≤ 2147483647 := by omega
  have hd1 : decide (2147483647 < (s.size : Int)) = false := by simp; omega
  clear hbig hs0
  go_enter Tryd.func4, Tryd.ntmps4
  go_upto_region 4 with (first
    | (go_at_call 14; refine (jpPlacesW s _ (by omega)).mono ?_; rintro e w1 ⟨hb1, ⟨p, hsz, hp, k, b', e', An, nn, cn, Ak, nk, ck, rfl, hPl⟩ | rfl⟩ <;> replace hb1 := Lib.hid hb1))
  · obtain ⟨rfl, rfl, rfl⟩ := plc_vals hPl
    obtain ⟨hk6, hbe, hes⟩ := places_ok hp
    have hkk : nk = p.kids.length ∧ ∃ ys, Row w1 (From w.heap.size) 5 Ak nk ck ys ∧ PlsC w1 (From w.heap.size) p.kids ys := by
      cases p with
      | mk kd b0 e0 ns ks =>
        simp only [PlC] at hPl
        obtain ⟨An', cn', Ak', ck', ys, he, -, h1, h2⟩ := hPl
        simp only [List.cons.injEq, Value.slice.injEq, and_true] at he
        obtain ⟨-, -, -, -, rfl, rfl, rfl⟩ := he
        exact ⟨rfl, ys, h1, h2⟩
    obtain ⟨hnk, ys, hrow, hpls⟩ := hkk
    obtain ⟨wp, hwp⟩ : ∃ wp, w1.alloc (.cells #[.int .i64 (p.kind : Int), .int .i64 (p.b : Int), .int .i64 (p.e : Int), .slice An nn cn, .slice Ak nk ck] 27) = wp := ⟨_, rfl⟩
    rw [hwp]
    have hbp : Below w1.heap.size w1 wp := by rw [← hwp]; exact below_alloc (Below.refl _ _) _
    have hp5 : B5 wp w1.heap.size (.int .i64 (p.kind : Int)) (.int .i64 (p.b : Int)) (.int .i64 (p.e : Int)) (.slice An nn cn) (.slice Ak nk ck) := by rw [← hwp]; exact B5.new _ _ _ _ _ _
    have q0 := hp5.c0
    have q1 := hp5.c1
    have q2 := hp5.c2
    have q3 := hp5.c3
    have q4 := hp5.c4
    have HBP := Lib.hid (below_of hb1.out hbp)
    have HWP := Lib.hid (HW.out.below HBP.out)
    have HP := Lib.hid hp
    have HROW := Lib.hid (hrow.keep (Keeps.of_below hbp))
    have HPLS := Lib.hid (hpls.keep (Keeps.of_below hbp))
    have HNK := Lib.hid hnk
    have HP5 := Lib.hid hp5
    clear hp5 hbp hwp hPl hp hrow hpls hnk
    by_cases h4 : 4096 < s.size
    · go_wp2
      go_ret
      exact ⟨rfl, HBP.out⟩
    have h4b : decide (4096 < (s.size : Int)) = false := by simp; omega
    by_cases hk5 : p.kind = 5
    case neg =>
      have hk5b : ((p.kind : Int) == 5) = false := beq_eq_false_iff_ne.2 (by omega)
      have hk5c : ((p.kind : Int) != 5) = true := by simp; omega
      go_wp2
      go_ret
      exact ⟨rfl, HBP.out⟩
    by_cases hc0 : c < 0
    · go_wp2
      go_ret
      exact ⟨rfl, HBP.out⟩
    by_cases hce : (p.e : Int) ≤ c
    · go_wp2
      go_ret
      exact ⟨rfl, HBP.out⟩
    obtain ⟨m, rfl⟩ : ∃ m : Nat, c = (m : Int) := ⟨c.toNat, by omega⟩
    obtain ⟨t, ht⟩ : ∃ t, s.extract 0 m = t := ⟨_, rfl⟩
    have hts : t.size = m := by rw [← ht, size_ext]; omega
    have htx : tx t = (tx s).take t.size := by rw [hts, ← ht, tx_cut, List.drop_zero, Nat.sub_zero]
    have hte : t = s.extract 0 t.size := by rw [hts, ht]
    have hv : valN s (s.size + 1) (L.skip isBlank s 0) = some (p.e, p) := by
      have h := HP.out
      unfold places valAt at h
      split at h
      · cases h
      · rename_i j q hv
        split at h
        · injection h with h
          subst h
          have hk := vok _ _ _ _ (skip_top isBlank s (i := 0) (by omega)) hv
          rw [hv, hk.2.2.2.2.1]
        · cases h
    obtain ⟨h91, hil, hin⟩ := arr_in2 (skip_top isBlank s (i := 0) (by omega)) hv hk5
    have hq : ∀ q ∈ p.kids, q.b < q.e ∧ q.e ≤ s.size ∧ q.kind ≤ 6 ∧ (q.kind = 4 → q.b + 2 ≤ q.e) := by
      rcases hin with ⟨h, -, -⟩ | ⟨-, h⟩
      · rw [h]; intro q hq; cases hq
      · exact echain_all h
    have hin2 : (p.kids = [] ∧ L.skip isBlank s (L.skip isBlank s 0 + 1) + 1 = p.e) ∨ (bt s (L.skip isBlank s (L.skip isBlank s 0 + 1)) ≠ 93 ∧ EChain s s.size p.e (L.skip isBlank s 0 + 1) p.kids) := by
      rcases hin with ⟨h, -, h2⟩ | h
      · exact .inl ⟨h, h2⟩
      · exact .inr h
    have HIN := Lib.hid hin2
    have HQ := Lib.hid hq
    have HT := Lib.hid ht
    have HTS := Lib.hid hts
    have HTX := Lib.hid htx
    have HTE := Lib.hid hte
    have H91 := Lib.hid h91
    have HIL := Lib.hid hil
    have HK5 := Lib.hid hk5
    have hk5b : ((p.kind : Int) == 5) = true := by rw [beq_iff_eq]; omega
    have hk5c : ((p.kind : Int) != 5) = false := by rw [hk5]; rfl
    clear hin hin2 hq ht hts htx hte h91 hil hv hk5
    go_wp2_with (fail)
    rw [HT.out]
    refine (jpEachW T V s t s.size (L.skip isBlank s 0) p.e p.kids _ HWP.out HTE.out HTX.out (by omega) (by rw [HTS.out]; omega) hes rfl HIL.out H91.out HIN.out).mono ?_
    rintro e w4 ⟨Af, n, cf, x, xs, rfl, hRow, hn, hHad, hb4⟩
    rw [HTS.out] at hHad
    replace hb4 := Lib.hid hb4
    replace hRow := Lib.hid hRow
    replace hHad := Lib.hid hHad
    have HP54 := Lib.hid (B5.below HP5.out hb4.out)
    have t0 := HP54.out.c0
    have t1 := HP54.out.c1
    have t2 := HP54.out.c2
    have t3 := HP54.out.c3
    have t4 := HP54.out.c4
    go_wp2_with (first
      | (go_at_call 16; (with_reducible refine (hadW s Af An Ak n cf nn cn nk ck m p.kind p.b p.e p.kids xs ys _ _ _ hRow.out (HROW.out.keep (Keeps.of_below hb4.out)) (HPLS.out.keep (Keeps.of_below hb4.out)) HNK.out hn (by omega) hHad.out HQ.out).mono ?_); rintro e w5 ⟨rfl, hb5⟩; replace hb5 := Lib.hid hb5))
    go_ret
    exact ⟨rfl, below_of (below_of HBP.out hb4.out) hb5.out⟩
  · go_wp2
    go_ret
    exact ⟨rfl, below_alloc hb1.out _⟩
end Go.Proofs.YtcjgneomcnholaaDoor.Jp
