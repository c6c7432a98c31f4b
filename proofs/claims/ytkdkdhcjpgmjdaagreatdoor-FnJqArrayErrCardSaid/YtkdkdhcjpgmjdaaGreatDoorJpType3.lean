/- The walk of getTypeConfig at an object. -/
import Derived.Test.YtkdkdhcjpgmjdaaGreatDoorJpType
namespace Go.Proofs.YtkdkdhcjpgmjdaaGreatDoor.Jp
open Go.RowKit L
set_option linter.unusedVariables false
set_option linter.unusedSimpArgs false

theorem blkObjW (A : Option Addr) (s : ByteArray) (m c : Nat) (a b : Bool) (n : Int) (w : World) (h : Rd w A s) (hm : m = s.size) (hs : s.size ≤ 1000000) (hc : s.size ≤ c) :
    Calls Tryz.prog 76 #[.agg #[.bool a, .bool b, .int .i64 n], .slice A m c, .int .u8 123, .int .u8 125] w (BlkPost a 123 125 s w) := by
  subst hm
  exact blkObj A s c a b n w h hs hc
set_option maxRecDepth 100000 in
set_option maxHeartbeats 4000000 in
theorem typeObj (a b : Bool) (T : Nat → TypeId) (V : Nat → Value) (A : Option Addr) (s : ByteArray) (c i : Nat) (n : Int) (w : World) (h : Rd w A s) (hE : Errs T V w) (hs : s.size ≤ 1000000) (hc : s.size ≤ c) (hi : i < s.size) (hx : bt s i = 123) :
    Calls Tryz.prog 85 #[.agg #[.bool a, .bool b, .int .i64 n], .slice A s.size c, .int .i64 (i : Int)] w (TypePost T V s i (gty a ((tx s).drop i)) w) := by
  have HB := Lib.hid (below_alloc (Below.refl w.heap.size w) (.cells #[.bool a, .bool b, .int .i64 n] 97))
  have HR := Lib.hid (h.below HB.out)
  have HE := Lib.hid (hE.below HB.out)
  have hcf := CfgAt.new w a b n
  obtain ⟨ad, rfl, hcell⟩ := HR.out.at_ hi
  obtain ⟨k, hk1, hk2, hk3⟩ := tx_at s i hi
  rw [hx] at hcell hk2
  have HK1 := Lib.hid hk1
  have HK := Lib.hid ((u8 hk2 123).2 rfl)
  have hg0 := hcf.c0
  have hg1 := hcf.c1
  have hg2 := hcf.c2
  have HT := Lib.hid (rdcut HR.out (i := i) (j := s.size) (Nat.le_refl _) hi)
  have HEX := Lib.hid (tx_ext s i)
  clear h hE hx hk1 hk2 hk3 hcf
  cases a
  all_goals
    go_enter Tryz.func85, Tryz.ntmps85
    go_upto_region 17 with (fail)
    go_region_with (first
      | (go_at_call 76; refine (blkObjW _ (s.extract i s.size) _ _ _ b n _ (HT.out.drew) cut_size (by rw [size_ext]; omega) (by rw [size_ext]; omega)).mono ?_; rintro e w1 ⟨⟨z, rfl, hz⟩, hb1⟩; replace hz := Lib.hid hz; replace hb1 := Lib.hid (below_drew_one hb1)))
    all_goals
      rcases hz.out with ⟨m, hm1, rfl⟩ | ⟨hm1, rfl⟩
      · have hm1' := hm1
        rw [HEX.out] at hm1'
        have hml := (blk_mono _ [] (Nat.le_refl _) hm1').1
        rw [List.length_drop, tx_len] at hml
        rw [HK1.out] at hm1'
        have HN := Lib.hid (gty_obj HK.out hm1')
        have hm0 : ((m : Int) == -1) = false := beq_eq_false_iff_ne.2 (by omega)
        clear hm1 hm1'
        have HF := Lib.hid (rdcut (HR.out.below hb1.out) (i := i) (j := i + m) (by omega) hi)
        go_wp2
        (try simp only [Exit.inBlock, Exit.then])
        refine bodyPost_ret (results_tmp4 rfl _ _ _) rfl ?_
        exact TypePost.ok (k := m) (by rw [HK1.out]; exact HN.out) rfl (by omega) rfl (by omega) (by omega) (by omega) HF.out (below_of HB.out hb1.out)
      · have hm1' := hm1
        rw [HEX.out, HK1.out] at hm1'
        have HN := Lib.hid (gty_objno HK.out hm1')
        have hg := ((HE.out.below hb1.out).e6).2
        clear hm1 hm1'
        go_wp2
        go_quiet (fail)
        go_wp2
        (try simp only [Exit.inBlock, Exit.then])
        refine bodyPost_ret (results_tmp4 rfl _ _ _) rfl ?_
        exact TypePost.no (by rw [HK1.out]; exact HN.out) rfl rfl (below_drewN (below_of HB.out hb1.out) _)
end Go.Proofs.YtkdkdhcjpgmjdaaGreatDoor.Jp
