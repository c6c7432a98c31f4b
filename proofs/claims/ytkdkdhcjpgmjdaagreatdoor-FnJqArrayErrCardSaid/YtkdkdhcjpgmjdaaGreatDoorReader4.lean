/- The walks of spec's reader, fourth part: members. -/
import Derived.Test.YtkdkdhcjpgmjdaaGreatDoorReader3
namespace Go.Proofs.YtkdkdhcjpgmjdaaGreatDoor.L
open Go.RowKit
set_option linter.unusedVariables false
set_option linter.unusedSimpArgs false

section
variable {f : Nat → Option (Nat × Pl)} {s : ByteArray} {k i : Nat} {ns : List (Nat × Nat)} {ks : List Pl}
theorem mb_noq (h : ¬ bt s i = 34) : membsN f s (k + 1) i ns ks = none := by simp only [membsN]; rw [if_neg h]
theorem mb_nos (h : bt s i = 34) (hs : strAt s i = none) : membsN f s (k + 1) i ns ks = none := by simp only [membsN]; rw [if_pos h, hs]
theorem mb_noc {j : Nat} (h : bt s i = 34) (hs : strAt s i = some j) (hc : ¬ bt s (skip isBlank s j) = 58) : membsN f s (k + 1) i ns ks = none := by
  simp only [membsN]; rw [if_pos h, hs]; simp only; rw [if_neg hc]
theorem mb_nov {j : Nat} (h : bt s i = 34) (hs : strAt s i = some j) (hc : bt s (skip isBlank s j) = 58) (hv : f (skip isBlank s (skip isBlank s j + 1)) = none) : membsN f s (k + 1) i ns ks = none := by
  simp only [membsN]; rw [if_pos h, hs]; simp only; rw [if_pos hc, hv]
theorem mb_end {j l : Nat} {p : Pl} (h : bt s i = 34) (hs : strAt s i = some j) (hc : bt s (skip isBlank s j) = 58) (hv : f (skip isBlank s (skip isBlank s j + 1)) = some (l, p)) (he : bt s (skip isBlank s l) = 125) :
    membsN f s (k + 1) i ns ks = some (skip isBlank s l + 1, ns ++ [(i, j)], ks ++ [p]) := by
  simp only [membsN]; rw [if_pos h, hs]; simp only; rw [if_pos hc, hv]; simp only; rw [if_pos he]
theorem mb_more {j l : Nat} {p : Pl} (h : bt s i = 34) (hs : strAt s i = some j) (hc : bt s (skip isBlank s j) = 58) (hv : f (skip isBlank s (skip isBlank s j + 1)) = some (l, p)) (he : ¬ bt s (skip isBlank s l) = 125) (h44 : bt s (skip isBlank s l) = 44) :
    membsN f s (k + 1) i ns ks = membsN f s k (skip isBlank s (skip isBlank s l + 1)) (ns ++ [(i, j)]) (ks ++ [p]) := by
  simp only [membsN]; rw [if_pos h, hs]; simp only; rw [if_pos hc, hv]; simp only; rw [if_neg he, if_pos h44]
theorem mb_bad {j l : Nat} {p : Pl} (h : bt s i = 34) (hs : strAt s i = some j) (hc : bt s (skip isBlank s j) = 58) (hv : f (skip isBlank s (skip isBlank s j + 1)) = some (l, p)) (he : ¬ bt s (skip isBlank s l) = 125) (h44 : ¬ bt s (skip isBlank s l) = 44) :
    membsN f s (k + 1) i ns ks = none := by
  simp only [membsN]; rw [if_pos h, hs]; simp only; rw [if_pos hc, hv]; simp only; rw [if_neg he, if_neg h44]
end

theorem MbPost.no {w w' : World} {g : Nat} {s : ByteArray} {r : Option (Nat × List (Nat × Nat) × List Pl)} {e : Ending} {j : Nat} (hM : Mv w w' g s j) (hr : r = none) (hj : j ≤ s.size) (he : e = .returned (.tuple #[.slice none 0 0, .slice none 0 0, .bool false])) : MbPost w g s r e w' :=
  ⟨j, none, 0, 0, none, 0, 0, hj, hM, by rw [he, hr]; rfl, fun l ns ps h => by rw [hr] at h; cases h⟩

theorem quoted_yes (g : Nat) (s : ByteArray) (i j : Nat) (w : World) (h : RdS w g s i) (hs : s.size ≤ 140737488351232) (hi : i < s.size) (he : strAt s i = some j) :
    Calls Tryz.prog 60 #[rp g] w fun e w' => e = .returned (.bool true) ∧ Mv w w' g s j := by
  refine (quoted g s i w h hs hi).mono ?_
  rintro e w' ⟨l, _, hM, rfl, hl⟩
  rw [he] at hl ⊢
  have := hl j rfl
  subst this
  exact ⟨rfl, hM⟩
theorem quoted_no (g : Nat) (s : ByteArray) (i : Nat) (w : World) (h : RdS w g s i) (hs : s.size ≤ 140737488351232) (hi : i < s.size) (he : strAt s i = none) :
    Calls Tryz.prog 60 #[rp g] w fun e w' => e = .returned (.bool false) ∧ ∃ j, j ≤ s.size ∧ Mv w w' g s j := by
  refine (quoted g s i w h hs hi).mono ?_
  rintro e w' ⟨l, hl, hM, rfl, _⟩
  rw [he]
  exact ⟨rfl, l, hl, hM⟩

set_option maxRecDepth 100000 in
set_option maxHeartbeats 8000000 in
theorem members {s : ByteArray} {n : Nat} (hs : s.size ≤ 2147483648) (hv : ValC s n) (g i : Nat) (w : World) (h : RdS w g s i) (hi : i < s.size) (hn : s.size - i ≤ n) :
    Calls Tryz.prog 58 #[rp g] w (MbPost w g s (membsAt (valN s n) s i)) := by
  have HV := Lib.hid hv
  have c1 := h.c1
  have f1 := h.f1
  have hgw := h.lt
  have HM := Lib.hid (Mv.refl h)
  have hs2 : s.size ≤ 140737488351232 := by omega
  clear h hv
  have hb0 := skip_le isBlank s (i + 1)
  have hb1 := skip_top isBlank s (i := i + 1) (by omega)
  by_cases h93 : bt s (skip isBlank s (i + 1)) = 125
  · have hlt := lt_of_bt (s := s) (i := skip isBlank s (i + 1)) (by omega)
    have HE := Lib.hid (show membsAt (valN s n) s i = some (skip isBlank s (i + 1) + 1, [], []) by unfold membsAt; rw [if_pos h93])
    have H93 := Lib.hid h93
    clear h93
    go_enter Tryz.func58, Tryz.ntmps58
    go_wp2_with (first
      | (go_at_call 40; go_must (refine (blanks g s (i + 1) _ HM.out.next.rd hs2 (by omega)).mono ?_); rintro e w1 ⟨rfl, hM1⟩)
      | (go_at_call 82; go_must (refine (take_yes g s _ _ _ hM1.rd hs2 (by decide) H93.out).mono ?_); rintro e w2 ⟨rfl, hM2⟩))
    go_ret3
    refine ⟨skip isBlank s (i + 1) + 1, none, 0, 0, none, 0, 0, by omega, (HM.out.next.trans hM1).trans hM2, by rw [HE.out]; rfl, fun l ns ps hr => ?_⟩
    rw [HE.out] at hr
    simp only [Option.some.injEq, Prod.mk.injEq] at hr
    obtain ⟨rfl, rfl, rfl⟩ := hr
    exact ⟨rfl, rfl, rfl, Row.nil _ _ _, [], Row.nil _ _ _, by simp [PlsC]⟩
  · have HE := Lib.hid (show membsAt (valN s n) s i = membsN (valN s n) s (s.size + 1) (skip isBlank s (i + 1)) [] [] by unfold membsAt; rw [if_neg h93])
    have H93 := Lib.hid h93
    clear h93
    go_enter Tryz.func58, Tryz.ntmps58
    go_wp2_with (first
      | (go_at_call 40; go_must (refine (blanks g s (i + 1) _ HM.out.next.rd hs2 (by omega)).mono ?_); rintro e w1 ⟨rfl, hM1⟩)
      | (go_at_call 82; go_must (refine (take_no g s _ _ _ hM1.rd hs2 (by decide) H93.out).mono ?_); rintro e w2 ⟨rfl, hM2⟩))
    have HM2 := Lib.hid ((HM.out.next.trans hM1).trans hM2)
    clear hM1 hM2 HM H93 c1 f1
    go_loopg [5, 6] (s.size + 1) (fun d v5 v6 wr => ∃ (k : Nat) (ns : List (Nat × Nat)) (ps : List Pl) (xs : List Value), Mv w wr g s k ∧ membsN (valN s n) s d k ns ps = membsAt (valN s n) s i ∧ k ≤ s.size ∧ i < k ∧ s.size - k < d ∧ ps.length ≤ k ∧ ns.length = ps.length ∧
      wr.ownsRow w.heap.size 68 2 v5 ns.length (spv ns) ∧ Kids wr w.heap.size v6 v5.ownBlock ps xs)
    case atStart => exact ⟨_, [], [], [], HM2.out, HE.out.symm, hb1, by omega, by omega, by simp, rfl, World.ownsRow_nil _ _ _ _, Kids.nil _ _ _⟩
    case round =>
      obtain ⟨k, ns, ps, xs, hM, hel, hk, hik, hfu, hpl, hnl, hN, hK⟩ := hrel
      obtain ⟨d, rfl⟩ : ∃ d, gk = d + 1 := ⟨gk - 1, by omega⟩
      have HM := Lib.hid hM
      have HS := Lib.hid hel
      have HK := Lib.hid hK
      have HN := Lib.hid hN
      have HNL := Lib.hid hnl
      have hnl2 : ns.length ≤ k := by omega
      clear hM hel hK HM2 HE hN hnl
      have c1 := HM.out.rd.c1
      have hr := bt_range s k
      by_cases h34 : bt s k = 34
      · have hklt : k < s.size := lt_of_bt (by omega)
        cases hst : strAt s k with
        | none =>
          have HE := Lib.hid ((mb_nos (f := valN s n) (k := d) (ns := ns) (ks := ps) h34 hst).symm.trans HS.out)
          have H34 := Lib.hid h34
          have HST := Lib.hid hst
          clear h34 hst hr
          go_wp2_with (first
            | (go_at_call 57; go_must (refine (here_of g s k H34.out _ HM.out.rd hs2).mono ?_); rintro e w3 ⟨rfl, n1, rfl⟩)
            | (go_at_call 60; go_must (refine (quoted_no g s k _ (HM.out.drewN _).rd hs2 hklt HST.out).mono ?_); rintro e w4 ⟨rfl, j, hj, hM4⟩))
          go_ret3
          exact MbPost.no ((HM.out.drewN _).trans hM4) HE.out.symm hj (by simp)
        | some j =>
          have hj := strAt_step hst
          have H34 := Lib.hid h34
          have HST := Lib.hid hst
          clear h34 hst hr
          obtain ⟨i0, hi0, hz0, hz1, hz2⟩ := info_parts info_sp
          have HI := Lib.hid hi0
          have HZ0 := Lib.hid hz0
          have HZ1 := Lib.hid hz1
          have HZ2 := Lib.hid hz2
          clear hi0 hz0 hz1 hz2
          go_upto_region 11 with (first
            | (go_at_call 57; go_must (refine (here_of g s k H34.out _ HM.out.rd hs2).mono ?_); rintro e w3 ⟨rfl, n1, rfl⟩)
            | (go_at_call 60; go_must (refine (quoted_yes g s k j _ (HM.out.drewN _).rd hs2 hklt HST.out).mono ?_); rintro e w4 ⟨rfl, hM4⟩
               have HM4 := Lib.hid ((HM.out.drewN n1).trans hM4)
               have HN4 := Lib.hid ((show (wr.drewN n1).ownsRow w.heap.size 68 2 u5 ns.length (spv ns) from HN.out).kept hM4.gr (.inr fun e => by have := (HN.out.lt g e).1; omega))
               have HK4 := Lib.hid ((show Kids (wr.drewN n1) w.heap.size u6 u5.ownBlock ps xs from ⟨HK.out.own, HK.out.pls.keep (.drewN _ _ _)⟩).keep hM4.gr hgw)
               clear hM4 c1
               have c1 := HM4.out.rd.c1)
            | (at_builtin; go_must (refine wpList_append_own_at _ rfl (.tmp 33) (.tmp 40) 24 rfl w.heap.size 68 i0 _ 2 16 Tryz.underlying24 HI.out HZ0.out HZ1.out HZ2.out rfl (by decide) _ ns.length (spv ns) rfl (HN4.out.alloc _) ⟨w4.heap.size, 0, none⟩ 1 1 [.int .i64 (k : Int), .int .i64 (j : Int)] rfl rfl (World.news_of_block (cs := #[.int .i64 (k : Int), .int .i64 (j : Int)]) (t := 68) (fr := (0, 0)) (heap_alloc_new _ _)) (by simp [Value.oneCell']) (by simp only [maxLen]; omega) (by omega) (by have := HM4.out.gr.size; simp; omega) ?_)
               intro v5' w5 hO5 hg5 _ hat5))
          have hown4 : ∀ l, u5.ownBlock = some l → w.heap.size ≤ l ∧ l < w4.heap.size := fun l hl => HN4.out.lt l hl
          have hM4a : Mv w (w4.alloc (Obj.cells #[.int .i64 (k : Int), .int .i64 (j : Int)] 68)) g s j := ⟨HM4.out.rd.alloc _, grown_alloc HM4.out.gr _⟩
          have HM5 := Lib.hid (show Mv w w5 g s j from ⟨hM4a.rd.grown hg5 (fun e => by have := (hown4 g e.symm).1; omega), grown_new hM4a.gr hg5 (fun l hl => .inr (hown4 l hl).1)⟩)
          have HN5 := Lib.hid (show w5.ownsRow w.heap.size 68 2 v5' (ns ++ [(k, j)]).length (spv (ns ++ [(k, j)])) by rw [List.length_append, spv_append]; exact hO5)
          have HK5 := Lib.hid (show Kids w5 w.heap.size u6 v5'.ownBlock ps xs from (HK4.out.below (below_alloc (Below.refl _ _) _)).other hg5 (own_ne (HK4.out.own.alloc (Obj.cells #[.int .i64 (k : Int), .int .i64 (j : Int)] 68)) (HN4.out.alloc _) (by decide)) hat5)
          clear hown4 hM4a hO5 hg5 hat5 HN4 HK4 HM4 HM c1 HI HZ0 HZ1 HZ2 HN HK
          have hq0 := skip_le isBlank s j
          have hq1 := skip_top isBlank s hj.2
          obtain ⟨q, hq⟩ : ∃ q, skip isBlank s j = q := ⟨_, rfl⟩
          rw [hq] at hq0 hq1
          by_cases h58 : bt s q = 58
          · have hqlt := lt_of_bt (s := s) (i := q) (by omega)
            have hm0 := skip_le isBlank s (q + 1)
            have hm1 := skip_top isBlank s (i := q + 1) (by omega)
            obtain ⟨m, hm⟩ : ∃ m, skip isBlank s (q + 1) = m := ⟨_, rfl⟩
            rw [hm] at hm0 hm1
            have HQ := Lib.hid hq
            have HMM := Lib.hid hm
            have H58 := Lib.hid h58
            clear hq hm h58
            cases hval : valN s n m with
            | none =>
              have HE := Lib.hid ((mb_nov (f := valN s n) (k := d) (ns := ns) (ks := ps) H34.out HST.out (by rw [HQ.out]; exact H58.out) (by rw [HQ.out, HMM.out]; exact hval)).symm.trans HS.out)
              have HVAL := Lib.hid hval
              clear hval
              have tok1 : True := trivial
              go_wp2_with (first
                | (go_at_call 40; clear tok1; go_must (refine (blanks g s j _ HM5.out.rd hs2 hj.2).mono ?_); rw [HQ.out]; rintro e w6 ⟨rfl, hM6⟩)
                | (go_at_call 82; go_must (refine (take_yes g s _ _ _ hM6.rd hs2 (by decide) H58.out).mono ?_); rintro e w7 ⟨rfl, hM7⟩)
                | (go_at_call 40; go_must (refine (blanks g s (q + 1) _ hM7.rd hs2 (by omega)).mono ?_); rw [HMM.out]; rintro e w8 ⟨rfl, hM8⟩)
                | (go_at_call 41; go_must (refine (val_no HV.out g m _ hM8.rd hm1 (by omega) HVAL.out).mono ?_); rintro e w9 ⟨l, k', b', e', An, nn, cn, Ak, nk, ck, hl, hM9, rfl⟩))
              go_ret3
              have hMM := (((HM5.out.trans hM6).trans hM7).trans hM8).trans hM9
              exact MbPost.no ⟨hMM.rd.alloc _, grown_alloc hMM.gr _⟩ HE.out.symm hl (by simp)
            | some lp =>
              obtain ⟨l, p⟩ := lp
              have hl := valN_fwd s n m l p hm1 hval
              have HVAL := Lib.hid hval
              clear hval
              obtain ⟨i0, hi0, hz0, hz1, hz2⟩ := info_parts info_pl
              have HI := Lib.hid hi0
              have HZ0 := Lib.hid hz0
              have HZ1 := Lib.hid hz1
              have HZ2 := Lib.hid hz2
              clear hi0 hz0 hz1 hz2
              have tok1 : True := trivial
              go_upto_region 19 with (first
                | (go_at_call 40; clear tok1; go_must (refine (blanks g s j _ HM5.out.rd hs2 hj.2).mono ?_); rw [HQ.out]; rintro e w6 ⟨rfl, hM6⟩)
                | (go_at_call 82; go_must (refine (take_yes g s _ _ _ hM6.rd hs2 (by decide) H58.out).mono ?_); rintro e w7 ⟨rfl, hM7⟩)
                | (go_at_call 40; go_must (refine (blanks g s (q + 1) _ hM7.rd hs2 (by omega)).mono ?_); rw [HMM.out]; rintro e w8 ⟨rfl, hM8⟩
                   have HM8 := Lib.hid ((HM5.out.trans hM6).trans (hM7.trans hM8))
                   have HG8 := Lib.hid ((hM6.trans hM7).trans hM8).gr
                   clear hM6 hM7 hM8)
                | (go_at_call 41; go_must (refine (val_yes HV.out g m _ HM8.out.rd hm1 (by omega) HVAL.out).mono ?_); rintro e w9 ⟨k', b', e', An, nn, cn, Ak, nk, ck, hM9, rfl, hP⟩
                   have HM9 := Lib.hid hM9
                   have HP := Lib.hid hP
                   have HN9 := Lib.hid ((HN5.out.kept HG8.out (.inr fun e => by have := (HN5.out.lt g e).1; omega)).kept hM9.gr (.inr fun e => by have := (HN5.out.lt g e).1; omega))
                   have HK9 := Lib.hid ((HK5.out.keep HG8.out hgw).keep hM9.gr hgw)
                   clear hM9 hP)
                | (at_builtin; go_must (refine wpList_append_own_at _ rfl (.tmp 56) (.tmp 58) 25 rfl w.heap.size 27 i0 _ 5 72 Tryz.underlying25 HI.out HZ0.out HZ1.out HZ2.out rfl (by decide) _ ps.length xs rfl ((HK9.out.own.alloc _).alloc _) ⟨w9.heap.size + 1, 0, none⟩ 1 1 [.int .i64 k', .int .i64 b', .int .i64 e', .slice An nn cn, .slice Ak nk ck] rfl rfl (World.news_of_block (cs := #[.int .i64 k', .int .i64 b', .int .i64 e', .slice An nn cn, .slice Ak nk ck]) (t := 27) (fr := (0, 0)) (by rw [show w9.heap.size + 1 = (w9.alloc _).heap.size from (by simp)]; exact heap_alloc_new _ _)) (by simp [Value.oneCell']) (by simp only [maxLen]; omega) (by omega) (by have := HM8.out.gr.size; have := HM9.out.gr.size; simp; omega) ?_)
                   intro v6' w10 hO10 hg10 _ hat10))
              have hown9 : ∀ t, u6.ownBlock = some t → w.heap.size ≤ t ∧ t < w8.heap.size := fun t ht => (HK5.out.keep HG8.out hgw).own.lt t ht
              have hown9n : ∀ t, v5'.ownBlock = some t → w.heap.size ≤ t ∧ t < w8.heap.size := fun t ht => (HN5.out.kept HG8.out (.inr fun e => by have := (HN5.out.lt g e).1; omega)).lt t ht
              have hM9a : Mv w ((w9.alloc (Obj.cells #[.int .i64 k', .int .i64 b', .int .i64 e', .slice An nn cn, .slice Ak nk ck] 27)).alloc (Obj.cells #[.int .i64 k', .int .i64 b', .int .i64 e', .slice An nn cn, .slice Ak nk ck] 27)) g s l := ⟨((HM8.out.trans HM9.out).rd.alloc _).alloc _, grown_alloc (grown_alloc (HM8.out.trans HM9.out).gr _) _⟩
              have HM10 := Lib.hid (show Mv w w10 g s l from ⟨hM9a.rd.grown hg10 (fun e => by have := (hown9 g e.symm).1; omega), grown_new hM9a.gr hg10 (fun t ht => .inr (hown9 t ht).1)⟩)
              have hP9 : PlC ((w9.alloc (Obj.cells #[.int .i64 k', .int .i64 b', .int .i64 e', .slice An nn cn, .slice Ak nk ck] 27)).alloc (Obj.cells #[.int .i64 k', .int .i64 b', .int .i64 e', .slice An nn cn, .slice Ak nk ck] 27)) (From w8.heap.size) p [.int .i64 k', .int .i64 b', .int .i64 e', .slice An nn cn, .slice Ak nk ck] := (HP.out.keep (.alloc _ _ _)).keep (.alloc _ _ _)
              have hK9 : Kids ((w9.alloc (Obj.cells #[.int .i64 k', .int .i64 b', .int .i64 e', .slice An nn cn, .slice Ak nk ck] 27)).alloc (Obj.cells #[.int .i64 k', .int .i64 b', .int .i64 e', .slice An nn cn, .slice Ak nk ck] 27)) w.heap.size u6 v5'.ownBlock ps xs := HK9.out.below (below_alloc (below_alloc (Below.refl _ _) _) _)
              have HK10 := Lib.hid (hK9.snoc hP9 (fun t ht => (hown9 t ht).2) (fun t ht => (hown9n t ht).2) HM8.out.gr.size hO10 hg10 hat10)
              have hN9 : ((w9.alloc (Obj.cells #[.int .i64 k', .int .i64 b', .int .i64 e', .slice An nn cn, .slice Ak nk ck] 27)).alloc (Obj.cells #[.int .i64 k', .int .i64 b', .int .i64 e', .slice An nn cn, .slice Ak nk ck] 27)).ownsRow w.heap.size 68 2 v5' (ns ++ [(k, j)]).length (spv (ns ++ [(k, j)])) := (HN9.out.alloc _).alloc _
              have HN10 := Lib.hid (hN9.kept hg10 (own_ne hN9 hK9.own (by decide)))
              clear hown9 hown9n hM9a hP9 hK9 hN9 hO10 hg10 hat10 HM9 HP HN9 HK9 HG8 HM8 HN5 HK5 HM5 HI HZ0 HZ1 HZ2
              have hz0 := skip_le isBlank s l
              have hz1 := skip_top isBlank s hl.2
              obtain ⟨z, hz⟩ : ∃ z, skip isBlank s l = z := ⟨_, rfl⟩
              rw [hz] at hz0 hz1
              have HZ := Lib.hid hz
              clear hz
              have HA := Lib.hid (show bt s (skip isBlank s j) = 58 by rw [HQ.out]; exact H58.out)
              have HB := Lib.hid (show valN s n (skip isBlank s (skip isBlank s j + 1)) = some (l, p) by rw [HQ.out, HMM.out]; exact HVAL.out)
              by_cases h125 : bt s z = 125
              · have hzlt := lt_of_bt (s := s) (i := z) (by omega)
                have HE := Lib.hid ((mb_end (f := valN s n) (k := d) (ns := ns) (ks := ps) H34.out HST.out HA.out HB.out (by rw [HZ.out]; exact h125)).symm.trans HS.out)
                have H125 := Lib.hid h125
                clear h125
                obtain ⟨A5, c5, rfl, hrow5⟩ := Row.of_own HN10.out
                obtain ⟨A6, c6, rfl, hrow6⟩ := Row.of_own HK10.out.own
                have HROW5 := Lib.hid hrow5
                have HROW6 := Lib.hid hrow6
                clear hrow5 hrow6
                go_wp2_with (first
                  | (go_at_call 40; go_must (refine (blanks g s l _ HM10.out.rd hs2 hl.2).mono ?_); rw [HZ.out]; rintro e w11 ⟨rfl, hM11⟩)
                  | (go_at_call 82; go_must (refine (take_yes g s _ _ _ hM11.rd hs2 (by decide) H125.out).mono ?_); rintro e w12 ⟨rfl, hM12⟩))
                go_ret3
                have hM67 := hM11.trans hM12
                have hkp : Keeps (From w.heap.size) w10 w12 := .of_grown hM67.gr (fun t ht e => by injection e; simp only [From] at ht; omega)
                refine ⟨z + 1, A5, ns.length + 1, c5, A6, ps.length + 1, c6, by omega, HM10.out.trans hM67, by rw [← HE.out]; rfl, fun t ns' ps' hr => ?_⟩
                rw [← HE.out, HZ.out] at hr
                simp only [Option.some.injEq, Prod.mk.injEq] at hr
                obtain ⟨rfl, rfl, rfl⟩ := hr
                exact ⟨rfl, by simp, by simp, by have h := HROW5.out.keep hkp; rwa [List.length_append] at h, _, by have h := HROW6.out.keep hkp; rwa [List.length_append] at h, (HK10.out.pls.mono (fun t _ ht => ht.1)).keep hkp⟩
              · by_cases h44 : bt s z = 44
                · have hzlt := lt_of_bt (s := s) (i := z) (by omega)
                  have HE := Lib.hid ((mb_more (f := valN s n) (k := d) (ns := ns) (ks := ps) H34.out HST.out HA.out HB.out (by rw [HZ.out]; exact h125) (by rw [HZ.out]; exact h44)).symm.trans HS.out)
                  have H125 := Lib.hid h125
                  have H44 := Lib.hid h44
                  have hr0 := skip_le isBlank s (z + 1)
                  have hr1 := skip_top isBlank s (i := z + 1) (by omega)
                  clear h125 h44
                  have tok1 : True := trivial
                  have tok2 : True := trivial
                  go_wp2_with (first
                    | (go_at_call 40; clear tok1; go_must (refine (blanks g s l _ HM10.out.rd hs2 hl.2).mono ?_); rw [HZ.out]; rintro e w11 ⟨rfl, hM11⟩)
                    | (go_at_call 82; clear tok2; go_must (refine (take_no g s _ _ _ hM11.rd hs2 (by decide) H125.out).mono ?_); rintro e w12 ⟨rfl, hM12⟩)
                    | (go_at_call 82; go_must (refine (take_yes g s _ _ _ hM12.rd hs2 (by decide) H44.out).mono ?_); rintro e w13 ⟨rfl, hM13⟩)
                    | (go_at_call 40; go_must (refine (blanks g s (z + 1) _ hM13.rd hs2 (by omega)).mono ?_); rintro e w14 ⟨rfl, hM14⟩))
                  go_roundg d
                  case measure => omega
                  case rel =>
                    have hMM := ((hM11.trans hM12).trans hM13).trans hM14
                    exact ⟨_, ns ++ [(k, j)], ps ++ [p], _, HM10.out.trans hMM, by rw [← HZ.out]; rw [← HZ.out] at *; exact HE.out, hr1, by omega, by omega, by simp; omega, by simp [HNL.out], HN10.out.kept hMM.gr (.inr fun e => by have := (HN10.out.lt g e).1; omega), HK10.out.keep hMM.gr hgw⟩
                · have HE := Lib.hid ((mb_bad (f := valN s n) (k := d) (ns := ns) (ks := ps) H34.out HST.out HA.out HB.out (by rw [HZ.out]; exact h125) (by rw [HZ.out]; exact h44)).symm.trans HS.out)
                  have H125 := Lib.hid h125
                  have H44 := Lib.hid h44
                  clear h125 h44
                  have tok2 : True := trivial
                  go_wp2_with (first
                    | (go_at_call 40; go_must (refine (blanks g s l _ HM10.out.rd hs2 hl.2).mono ?_); rw [HZ.out]; rintro e w11 ⟨rfl, hM11⟩)
                    | (go_at_call 82; clear tok2; go_must (refine (take_no g s _ _ _ hM11.rd hs2 (by decide) H125.out).mono ?_); rintro e w12 ⟨rfl, hM12⟩)
                    | (go_at_call 82; go_must (refine (take_no g s _ _ _ hM12.rd hs2 (by decide) H44.out).mono ?_); rintro e w13 ⟨rfl, hM13⟩))
                  go_ret3
                  exact MbPost.no (((HM10.out.trans hM11).trans hM12).trans hM13) HE.out.symm hz1 (by simp)
          · have HE := Lib.hid ((mb_noc (f := valN s n) (k := d) (ns := ns) (ks := ps) H34.out HST.out (by rw [hq]; exact h58)).symm.trans HS.out)
            have HQ := Lib.hid hq
            have H58 := Lib.hid h58
            clear hq h58
            go_wp2_with (first
              | (go_at_call 40; go_must (refine (blanks g s j _ HM5.out.rd hs2 hj.2).mono ?_); rw [HQ.out]; rintro e w6 ⟨rfl, hM6⟩)
              | (go_at_call 82; go_must (refine (take_no g s _ _ _ hM6.rd hs2 (by decide) H58.out).mono ?_); rintro e w7 ⟨rfl, hM7⟩))
            go_ret3
            exact MbPost.no ((HM5.out.trans hM6).trans hM7) HE.out.symm hq1 (by simp)
      · have HE := Lib.hid ((mb_noq (f := valN s n) (s := s) (k := d) (ns := ns) (ks := ps) h34).symm.trans HS.out)
        generalize hc : bt s k = c at *
        have HC := Lib.hid hc
        clear hc
        go_wp2_with (first
          | (go_at_call 57; go_must (refine (here_of g s k HC.out _ HM.out.rd hs2).mono ?_); rintro e w3 ⟨rfl, n1, rfl⟩))
        go_ret3
        exact MbPost.no (HM.out.drewN _) HE.out.symm hk (by simp)
end Go.Proofs.YtkdkdhcjpgmjdaaGreatDoor.L
