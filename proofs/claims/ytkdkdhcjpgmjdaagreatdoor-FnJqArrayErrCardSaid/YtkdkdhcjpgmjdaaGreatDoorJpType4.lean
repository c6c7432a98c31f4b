/- The walk of getTypeConfig at a word or a number. -/
import Derived.Test.YtkdkdhcjpgmjdaaGreatDoorJpType
namespace Go.Proofs.YtkdkdhcjpgmjdaaGreatDoor.Jp
open Go.RowKit L
set_option linter.unusedVariables false
set_option linter.unusedSimpArgs false

set_option maxRecDepth 100000 in
set_option maxHeartbeats 4000000 in
theorem typeTokX (x : Int) (a b : Bool) (T : Nat → TypeId) (V : Nat → Value) (A : Option Addr) (s : ByteArray) (c i : Nat) (n : Int) (w : World) (h : Rd w A s) (hE : Errs T V w) (hs : s.size ≤ 1000000) (hc : s.size ≤ c) (hi : i < s.size) (hx : bt s i = x) (h34 : ¬ x = 34) (h39 : x = 39 → a = false) (h91 : ¬ x = 91) (h123 : ¬ x = 123) :
    Calls Tryz.prog 85 #[.agg #[.bool a, .bool b, .int .i64 n], .slice A s.size c, .int .i64 (i : Int)] w (TypePost T V s i (gty a ((tx s).drop i)) w) := by
  have HB := Lib.hid (below_alloc (Below.refl w.heap.size w) (.cells #[.bool a, .bool b, .int .i64 n] 97))
  have HR := Lib.hid (h.below HB.out)
  have HE := Lib.hid (hE.below HB.out)
  have hcf := CfgAt.new w a b n
  obtain ⟨ad, rfl, hcell⟩ := HR.out.at_ hi
  obtain ⟨k, hk1, hk2, hk3⟩ := tx_at s i hi
  have hr := bt_range s i
  rw [hx] at hcell hk2 hr
  have HK1 := Lib.hid hk1
  have HK2 := Lib.hid hk2
  have hg0 := hcf.c0
  have hg1 := hcf.c1
  have hg2 := hcf.c2
  have HT := Lib.hid (rdcut HR.out (i := i) (j := s.size) (Nat.le_refl _) hi)
  have HEX := Lib.hid (tx_ext s i)
  clear h hE hx hk1 hk2 hk3 hcf
  have b34 : (x == 34) = false := beq_eq_false_iff_ne.2 h34
  have b91 : (x == 91) = false := beq_eq_false_iff_ne.2 h91
  have b123 : (x == 123) = false := beq_eq_false_iff_ne.2 h123
  have HQ := Lib.hid (show ¬ IsQ a k from by
    rintro (e | ⟨e, ea⟩)
    · exact h34 ((u8 HK2.out 34).1 e)
    · rw [h39 ((u8 HK2.out 39).1 e)] at ea; cases ea)
  have HN91 := Lib.hid (show ¬ k = 91 from u8n HK2.out 91 rfl h91)
  have HN123 := Lib.hid (show ¬ k = 123 from u8n HK2.out 123 rfl h123)
  obtain ⟨t, ht⟩ : ∃ t, tok ((tx s).drop i) = t := ⟨_, rfl⟩
  have htl : i + t ≤ s.size := by
    have := tok_le ((tx s).drop i)
    rw [List.length_drop, tx_len] at this
    omega
  have HTK := Lib.hid ht
  have HF := Lib.hid (rdcut HR.out (i := i) (j := i + t) htl hi)
  obtain ⟨v, hv⟩ : ∃ v, s.extract i (i + t) = v := ⟨_, rfl⟩
  have hvs : v.size = t := by rw [← hv, size_ext]; omega
  have HVS := Lib.hid hvs
  have HTV := Lib.hid (show tx v = ((tx s).drop i).take t by rw [← hv, tx_cut, Nat.add_sub_cancel_left])
  have hcv : (convert 59 9 (.slice (some (ad.add i)) t (c - i))).run Tryz.prog (w.alloc (.cells #[.bool a, .bool b, .int .i64 n] 97)) = .ok (.string v) (w.alloc (.cells #[.bool a, .bool b, .int .i64 n] 97)) := by
    have := HF.out
    rw [hv] at this
    rw [← HVS.out]
    exact this.string Tryz.underlying59 Tryz.underlying5 Tryz.underlying9
  have HV := Lib.hid hv
  clear ht hv hvs
  have HTL := Lib.hid (show v.toList = tx v from ByteArray.toList_eq v)
  have he2 := HE.out.e2.2
  have HA : Hid (a = true → ¬ x = 39) := Lib.hid fun ha e => by rw [h39 e] at ha; cases ha
  clear h39
  by_cases hA : x = 116 ∨ x = 102
  · have HKA := Lib.hid (show k = 116 ∨ k = 102 from hA.imp (u8 HK2.out 116).2 (u8 HK2.out 102).2)
    by_cases hw1 : v.toList = [116, 114, 117, 101]
    · have HG := Lib.hid (show gty a ((tx s).drop i) = .ok 5 t by
        rw [HK1.out, gty_tf HKA.out (by rw [← HK1.out, HTK.out, ← HTV.out, ← HTL.out]; exact .inl hw1), ← HK1.out, HTK.out])
      rcases hA with rfl | rfl
      all_goals
        cases a
        all_goals
          go_enter Tryz.func85, Tryz.ntmps85
          go_wp2_with (first
            | (go_at_call 67; refine (tokW _ (s.extract i s.size) _ _ _ HT.out cut_size (by rw [size_ext]; omega) (by rw [size_ext]; omega)).mono ?_; rw [HEX.out, HTK.out]; rintro e w1 ⟨rfl, rfl⟩))
          (try simp only [Exit.inBlock, Exit.then])
          refine bodyPost_ret (results_tmp4 rfl _ _ _) rfl ?_
          exact TypePost.ok (k := t) HG.out rfl (by omega) rfl (by omega) (by omega) (by omega) HF.out HB.out
    · by_cases hw2 : v.toList = [102, 97, 108, 115, 101]
      · have HG := Lib.hid (show gty a ((tx s).drop i) = .ok 5 t by
          rw [HK1.out, gty_tf HKA.out (by rw [← HK1.out, HTK.out, ← HTV.out, ← HTL.out]; exact .inr hw2), ← HK1.out, HTK.out])
        have hb1 : (v.toList == [116, 114, 117, 101]) = false := beq_eq_false_iff_ne.2 hw1
        rcases hA with rfl | rfl
        all_goals
          cases a
          all_goals
            go_enter Tryz.func85, Tryz.ntmps85
            go_wp2_with (first
              | (go_at_call 67; refine (tokW _ (s.extract i s.size) _ _ _ HT.out cut_size (by rw [size_ext]; omega) (by rw [size_ext]; omega)).mono ?_; rw [HEX.out, HTK.out]; rintro e w1 ⟨rfl, rfl⟩))
            (try simp only [Exit.inBlock, Exit.then])
            refine bodyPost_ret (results_tmp4 rfl _ _ _) rfl ?_
            exact TypePost.ok (k := t) HG.out rfl (by omega) rfl (by omega) (by omega) (by omega) HF.out HB.out
      · have HG := Lib.hid (show gty a ((tx s).drop i) = .no 7 2 by
          rw [HK1.out, gty_tfno HKA.out (by
            rw [← HK1.out, HTK.out, ← HTV.out, ← HTL.out]
            rintro (e | e)
            · exact hw1 e
            · exact hw2 e)])
        have hb1 : (v.toList == [116, 114, 117, 101]) = false := beq_eq_false_iff_ne.2 hw1
        have hb2 : (v.toList == [102, 97, 108, 115, 101]) = false := beq_eq_false_iff_ne.2 hw2
        rcases hA with rfl | rfl
        all_goals
          cases a
          all_goals
            go_enter Tryz.func85, Tryz.ntmps85
            go_wp2_with (first
              | (go_at_call 67; refine (tokW _ (s.extract i s.size) _ _ _ HT.out cut_size (by rw [size_ext]; omega) (by rw [size_ext]; omega)).mono ?_; rw [HEX.out, HTK.out]; rintro e w1 ⟨rfl, rfl⟩))
            go_quiet (fail)
            go_wp2
            (try simp only [Exit.inBlock, Exit.then])
            refine bodyPost_ret (results_tmp4 rfl _ _ _) rfl ?_
            exact TypePost.no HG.out rfl rfl (below_drewN HB.out _)
  by_cases hB : x = 117 ∨ x = 110
  · have HKA := Lib.hid (show k = 117 ∨ k = 110 from hB.imp (u8 HK2.out 117).2 (u8 HK2.out 110).2)
    by_cases hw1 : v.toList = [110, 117, 108, 108]
    · have HG := Lib.hid (show gty a ((tx s).drop i) = .ok 6 t by
        rw [HK1.out, gty_n HKA.out (by rw [← HK1.out, HTK.out, ← HTV.out, ← HTL.out]; exact hw1), ← HK1.out, HTK.out])
      rcases hB with rfl | rfl
      all_goals
        cases a
        all_goals
          go_enter Tryz.func85, Tryz.ntmps85
          go_wp2_with (first
            | (go_at_call 67; refine (tokW _ (s.extract i s.size) _ _ _ HT.out cut_size (by rw [size_ext]; omega) (by rw [size_ext]; omega)).mono ?_; rw [HEX.out, HTK.out]; rintro e w1 ⟨rfl, rfl⟩))
          (try simp only [Exit.inBlock, Exit.then])
          refine bodyPost_ret (results_tmp4 rfl _ _ _) rfl ?_
          exact TypePost.ok (k := t) HG.out rfl (by omega) rfl (by omega) (by omega) (by omega) HF.out HB.out
    · have HG := Lib.hid (show gty a ((tx s).drop i) = .no 7 2 by
        rw [HK1.out, gty_nno HKA.out (by rw [← HK1.out, HTK.out, ← HTV.out, ← HTL.out]; exact hw1)])
      have hb1 : (v.toList == [110, 117, 108, 108]) = false := beq_eq_false_iff_ne.2 hw1
      rcases hB with rfl | rfl
      all_goals
        cases a
        all_goals
          go_enter Tryz.func85, Tryz.ntmps85
          go_wp2_with (first
            | (go_at_call 67; refine (tokW _ (s.extract i s.size) _ _ _ HT.out cut_size (by rw [size_ext]; omega) (by rw [size_ext]; omega)).mono ?_; rw [HEX.out, HTK.out]; rintro e w1 ⟨rfl, rfl⟩))
          go_quiet (fail)
          go_wp2
          (try simp only [Exit.inBlock, Exit.then])
          refine bodyPost_ret (results_tmp4 rfl _ _ _) rfl ?_
          exact TypePost.no HG.out rfl rfl (below_drewN HB.out _)
  by_cases hC : x = 45 ∨ x = 48 ∨ x = 49 ∨ x = 50 ∨ x = 51 ∨ x = 52 ∨ x = 53 ∨ x = 54 ∨ x = 55 ∨ x = 56 ∨ x = 57
  · have HKD := Lib.hid (show digB k = true ∨ k = 45 by
      have hk := HK2.out
      by_cases h45 : x = 45
      · exact .inr ((u8 hk 45).2 h45)
      · left
        unfold digB
        simp only [Bool.and_eq_true, decide_eq_true_eq]
        omega)
    have HG := Lib.hid (show gty a ((tx s).drop i) = .ok 2 t by rw [HK1.out, gty_num HKD.out, ← HK1.out, HTK.out])
    rcases hC with rfl | rfl | rfl | rfl | rfl | rfl | rfl | rfl | rfl | rfl | rfl
    all_goals
      cases a
      all_goals
        go_enter Tryz.func85, Tryz.ntmps85
        go_wp2_with (first
          | (go_at_call 67; refine (tokW _ (s.extract i s.size) _ _ _ HT.out cut_size (by rw [size_ext]; omega) (by rw [size_ext]; omega)).mono ?_; rw [HEX.out, HTK.out]; rintro e w1 ⟨rfl, rfl⟩))
        (try simp only [Exit.inBlock, Exit.then])
        refine bodyPost_ret (results_tmp4 rfl _ _ _) rfl ?_
        exact TypePost.ok (k := t) HG.out rfl (by omega) rfl (by omega) (by omega) (by omega) HF.out HB.out
  have HG := Lib.hid (show gty a ((tx s).drop i) = .no 7 2 by
    rw [HK1.out]
    refine gty_bad HQ.out HN91.out HN123.out (fun h => hA (h.imp (u8 HK2.out 116).1 (u8 HK2.out 102).1)) (fun h => hB (h.imp (u8 HK2.out 117).1 (u8 HK2.out 110).1)) ?_
    rintro (h | h)
    · unfold digB at h
      simp only [Bool.and_eq_true, decide_eq_true_eq] at h
      have hk := HK2.out
      omega
    · exact hC (.inl ((u8 HK2.out 45).1 h)))
  have d116 : (x == 116) = false := beq_eq_false_iff_ne.2 (by omega)
  have d102 : (x == 102) = false := beq_eq_false_iff_ne.2 (by omega)
  have d117 : (x == 117) = false := beq_eq_false_iff_ne.2 (by omega)
  have d110 : (x == 110) = false := beq_eq_false_iff_ne.2 (by omega)
  have d45 : (x == 45) = false := beq_eq_false_iff_ne.2 (by omega)
  have d48 : (x == 48) = false := beq_eq_false_iff_ne.2 (by omega)
  have d49 : (x == 49) = false := beq_eq_false_iff_ne.2 (by omega)
  have d50 : (x == 50) = false := beq_eq_false_iff_ne.2 (by omega)
  have d51 : (x == 51) = false := beq_eq_false_iff_ne.2 (by omega)
  have d52 : (x == 52) = false := beq_eq_false_iff_ne.2 (by omega)
  have d53 : (x == 53) = false := beq_eq_false_iff_ne.2 (by omega)
  have d54 : (x == 54) = false := beq_eq_false_iff_ne.2 (by omega)
  have d55 : (x == 55) = false := beq_eq_false_iff_ne.2 (by omega)
  have d56 : (x == 56) = false := beq_eq_false_iff_ne.2 (by omega)
  have d57 : (x == 57) = false := beq_eq_false_iff_ne.2 (by omega)
  clear hA hB hC
  cases a
  case false =>
    go_enter Tryz.func85, Tryz.ntmps85
    go_wp2_with (first
      | (go_at_call 67; refine (tokW _ (s.extract i s.size) _ _ _ HT.out cut_size (by rw [size_ext]; omega) (by rw [size_ext]; omega)).mono ?_; rw [HEX.out, HTK.out]; rintro e w1 ⟨rfl, rfl⟩))
    go_quiet (fail)
    go_wp2
    (try simp only [Exit.inBlock, Exit.then])
    refine bodyPost_ret (results_tmp4 rfl _ _ _) rfl ?_
    exact TypePost.no HG.out rfl rfl (below_drewN HB.out _)
  case true =>
    have b39 : (x == 39) = false := beq_eq_false_iff_ne.2 (HA.out rfl)
    go_enter Tryz.func85, Tryz.ntmps85
    go_wp2_with (first
      | (go_at_call 67; refine (tokW _ (s.extract i s.size) _ _ _ HT.out cut_size (by rw [size_ext]; omega) (by rw [size_ext]; omega)).mono ?_; rw [HEX.out, HTK.out]; rintro e w1 ⟨rfl, rfl⟩))
    go_quiet (fail)
    go_wp2
    (try simp only [Exit.inBlock, Exit.then])
    refine bodyPost_ret (results_tmp4 rfl _ _ _) rfl ?_
    exact TypePost.no HG.out rfl rfl (below_drewN HB.out _)
end Go.Proofs.YtkdkdhcjpgmjdaaGreatDoor.Jp
