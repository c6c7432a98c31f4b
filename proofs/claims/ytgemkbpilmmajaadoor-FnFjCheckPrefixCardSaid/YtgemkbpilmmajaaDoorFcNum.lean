/- The walk of validateNumber. Printed by gen_fcnum.py. -/
import Derived.Test.YtgemkbpilmmajaaDoorFcSkip
import Derived.Deep.RegionHeld3
namespace Go.Proofs.YtgemkbpilmmajaaDoor.Fc
open Go.RowKit L
set_option linter.unusedVariables false
set_option linter.unusedSimpArgs false
set_option linter.unusedSectionVars false

/-- What a check answers: what is left, or an error. -/
def Post (o : Option Tx) (w : World) (e : Ending) (w' : World) : Prop :=
  ((∃ s, o = some (tx s) ∧ e = .returned (.tuple #[.string s, .nilIface])) ∨ (o = none ∧ ∃ s t v, e = .returned (.tuple #[.string s, .iface t v]))) ∧ Below w.heap.size w w'
theorem Post.no {o : Option Tx} {w w' : World} {s : ByteArray} {t : TypeId} {v : Value} (h : o = none) (hb : Below w.heap.size w w') : Post o w (.returned (.tuple #[.string s, .iface t v])) w' :=
  ⟨.inr ⟨h, _, _, _, rfl⟩, hb⟩
theorem Post.yes {o : Option Tx} {w : World} {s : ByteArray} (h : o = some (tx s)) : Post o w (.returned (.tuple #[.string s, .nilIface])) w :=
  ⟨.inl ⟨_, h, rfl⟩, Below.refl _ _⟩
theorem dig_yes {c : UInt8} {x : Int} (h : (c.toNat : Int) = x) (h1 : 48 ≤ x) (h2 : x ≤ 57) : dig c = true := by
  unfold dig; simp; omega
theorem dig_no {c : UInt8} {x : Int} (h : (c.toNat : Int) = x) (h1 : x < 48 ∨ 57 < x) : ¬ dig c = true := by
  unfold dig; simp; omega
/-- The digits ahead of i are such. -/
def Dg (t : ByteArray) (i : Nat) : Prop := (tx t).takeWhile dig = (tx t).take i ++ ((tx t).drop i).takeWhile dig ∧ (tx t).dropWhile dig = ((tx t).drop i).dropWhile dig
/-- The digits end at i. -/
def DgE (t : ByteArray) (i : Nat) : Prop := (tx t).takeWhile dig = (tx t).take i ∧ (tx t).dropWhile dig = (tx t).drop i ∧ i ≤ t.size
theorem Dg.start (t : ByteArray) : Dg t 0 := ⟨by simp, by simp⟩
theorem Dg.next {t : ByteArray} {i : Nat} {c : UInt8} (h : Dg t i) (hc : (tx t).drop i = c :: (tx t).drop (i + 1)) (hd : dig c = true) : Dg t (i + 1) := by
  obtain ⟨h1, h2⟩ := h
  rw [hc] at h1 h2
  rw [List.takeWhile_cons_of_pos hd] at h1
  rw [List.dropWhile_cons_of_pos hd] at h2
  refine ⟨?_, h2⟩
  rw [h1, List.take_add_one]
  have : (tx t)[i]? = some c := by
    have := congrArg List.head? hc
    rw [List.head?_drop] at this
    exact this
  rw [this]
  simp
theorem Dg.stop {t : ByteArray} {i : Nat} {c : UInt8} {r : Tx} (h : Dg t i) (hi : i ≤ t.size) (hc : (tx t).drop i = c :: r) (hd : ¬ dig c = true) : DgE t i := by
  obtain ⟨h1, h2⟩ := h
  rw [hc, List.takeWhile_cons_of_neg hd] at h1
  rw [hc, List.dropWhile_cons_of_neg hd] at h2
  exact ⟨by simpa using h1, by rw [h2, hc], hi⟩
theorem Dg.fin {t : ByteArray} (h : Dg t t.size) : DgE t t.size := by
  obtain ⟨h1, h2⟩ := h
  have e : (tx t).drop t.size = [] := List.drop_eq_nil_of_le (by rw [tx_len]; exact Nat.le_refl _)
  rw [e] at h1 h2
  exact ⟨by simpa using h1, by rw [h2, e]; rfl, Nat.le_refl _⟩
theorem DgE.le {t : ByteArray} {i : Nat} (h : DgE t i) : i ≤ t.size := h.2.2
theorem DgE.len {t : ByteArray} {i : Nat} (h : DgE t i) : ((tx t).takeWhile dig).length = i := by
  have := h.le
  rw [h.1, List.length_take, tx_len]; omega
theorem DgE.nil {t : ByteArray} (h : DgE t 0) : (tx t).takeWhile dig = [] := by rw [h.1]; rfl
theorem DgE.ne {t : ByteArray} {i : Nat} (h : DgE t i) (hi : 0 < i) : ¬ (tx t).takeWhile dig = [] := fun e => by
  have := h.len
  rw [e] at this
  simp at this; omega
theorem num_none0 {s t : ByteArray} (hm : tx t = mi (tx s)) (h : DgE t 0) : num (tx s) = none := by
  unfold num
  rw [← hm, if_pos h.nil]
theorem num_none1 {s t : ByteArray} {i : Nat} {c : UInt8} {y : Int} (hm : tx t = mi (tx s)) (h : DgE t i) (hi : 0 < i) (hc : (tx t).drop 0 = c :: (tx t).drop (0 + 1)) (hy : (c.toNat : Int) = y) (h48 : y = 48) (h1 : ¬ i = 1) : num (tx s) = none := by
  unfold num
  rw [← hm, if_neg (h.ne hi), if_pos]
  rw [h.len]
  refine ⟨?_, h1⟩
  rw [List.drop_zero] at hc
  rw [hc, List.head?_cons, (u8 hy 48).2 h48]
theorem num_some {s t : ByteArray} {i : Nat} {c : UInt8} {y : Int} (hm : tx t = mi (tx s)) (h : DgE t i) (hi : 0 < i) (hc : (tx t).drop 0 = c :: (tx t).drop (0 + 1)) (hy : (c.toNat : Int) = y) (h1 : ¬ (y = 48 ∧ ¬ i = 1)) : num (tx s) = frac ((tx t).drop i) := by
  unfold num
  rw [← hm, if_neg (h.ne hi), if_neg, h.2.1]
  rw [h.len]
  rintro ⟨h2, h3⟩
  refine h1 ⟨?_, h3⟩
  rw [List.drop_zero] at hc
  rw [hc, List.head?_cons] at h2
  exact (u8 hy 48).1 (Option.some.inj h2)
theorem dg_none {u : ByteArray} {α : Type} {a : Option α} (h : DgE u 0) : (if (tx u).takeWhile dig = [] then none else a) = none := if_pos h.nil
theorem dg_some {u : ByteArray} {i : Nat} (h : DgE u i) (hi : 0 < i) : (if (tx u).takeWhile dig = [] then none else some ((tx u).dropWhile dig)) = some ((tx u).drop i) := by rw [if_neg (h.ne hi), h.2.1]
theorem dg_exp {u : ByteArray} {i : Nat} (h : DgE u i) (hi : 0 < i) : (if (tx u).takeWhile dig = [] then none else exp ((tx u).dropWhile dig)) = exp ((tx u).drop i) := by rw [if_neg (h.ne hi), h.2.1]
theorem frac_dot {l r : Tx} {c : UInt8} {z : Int} (hc : l = c :: r) (hz : (c.toNat : Int) = z) (h : z = 46) : frac l = if r.takeWhile dig = [] then none else exp (r.dropWhile dig) := by
  rw [hc, frac_cons, if_pos ((u8 hz 46).2 h)]
theorem frac_no {l r : Tx} {c : UInt8} {z : Int} (hc : l = c :: r) (hz : (c.toNat : Int) = z) (h : ¬ z = 46) : frac l = exp l := by
  rw [hc, frac_cons, if_neg fun e => h ((u8 hz 46).1 e)]
theorem exp_yes {l r : Tx} {c : UInt8} {z : Int} (hc : l = c :: r) (hz : (c.toNat : Int) = z) (h : z = 101 ∨ z = 69) : exp l = if (sg r).takeWhile dig = [] then none else some ((sg r).dropWhile dig) := by
  rw [hc, exp_cons, if_pos]
  rcases h with h | h
  · exact .inl ((u8 hz 101).2 h)
  · exact .inr ((u8 hz 69).2 h)
theorem exp_no {l r : Tx} {c : UInt8} {z : Int} (hc : l = c :: r) (hz : (c.toNat : Int) = z) (h1 : ¬ z = 101) (h2 : ¬ z = 69) : exp l = some l := by
  rw [hc, exp_cons, if_neg]
  rintro (e | e)
  · exact h1 ((u8 hz 101).1 e)
  · exact h2 ((u8 hz 69).1 e)
theorem sg_yes {l r : Tx} {c : UInt8} {z : Int} (hc : l = c :: r) (hz : (c.toNat : Int) = z) (h : z = 43 ∨ z = 45) : sg l = r := by
  rw [hc, sg_cons, if_pos]
  rcases h with h | h
  · exact .inl ((u8 hz 43).2 h)
  · exact .inr ((u8 hz 45).2 h)
theorem sg_no {l r : Tx} {c : UInt8} {z : Int} (hc : l = c :: r) (hz : (c.toNat : Int) = z) (h : ¬ (z = 43 ∨ z = 45)) : sg l = l := by
  rw [hc, sg_cons, if_neg]
  rintro (e | e)
  · exact h (.inl ((u8 hz 43).1 e))
  · exact h (.inr ((u8 hz 45).1 e))
theorem mi_yes {l r : Tx} {c : UInt8} {z : Int} (hc : l = c :: r) (hz : (c.toNat : Int) = z) (h : z = 45) : mi l = r := by
  rw [hc, mi_cons, if_pos ((u8 hz 45).2 h)]
theorem mi_no {l r : Tx} {c : UInt8} {z : Int} (hc : l = c :: r) (hz : (c.toNat : Int) = z) (h : ¬ z = 45) : mi l = l := by
  rw [hc, mi_cons, if_neg fun e => h ((u8 hz 45).1 e)]
theorem num_bare {l : Tx} (h : mi l = []) : num l = none := by
  unfold num
  rw [h]; rfl
set_option maxRecDepth 100000 in
set_option maxHeartbeats 4000000 in
theorem numW (s : ByteArray) (w : World) (hs : s.size ≤ 1000000) (h0 : 0 < s.size) : Calls Tryd.prog 70 #[.string s] w (Post (num (tx s)) w) := by
  have hne := sz_ne h0
  have hz_x := bt_at s 0 (by omega)
  have hr_x := bt_range s (0 : Nat)
  obtain ⟨c_x, hc, hcx, -⟩ := tx_at s 0 (by omega)
  obtain ⟨x, hz⟩ : ∃ z, bt s (0 : Nat) = z := ⟨_, rfl⟩
  rw [hz] at hz_x hr_x hcx
  clear hz
  have HC_x := Lib.hid hc
  have HX_x := Lib.hid hcx
  clear hc hcx
  go_enter Tryd.func70, Tryd.ntmps70
  go_upto_if 12 with (fail)
  go_cut [0] (fun v0 wx => ∃ t, v0 = .string t ∧ w = wx ∧ 0 < t.size ∧ t.size ≤ s.size ∧ tx t = mi (tx s))
  case first =>
    by_cases h45 : x = 45
    · have HM := Lib.hid (mi_yes HC_x.out HX_x.out h45)
      rw [List.drop_zero] at HM
      subst h45
      obtain ⟨t, ht⟩ : ∃ t, s.extract 1 s.size = t := ⟨_, rfl⟩
      have HT := Lib.hid (show tx t = mi (tx s) by rw [← ht, tx_ext, HM.out])
      have hts : t.size ≤ s.size := by rw [← ht, ByteArray.size_extract]; omega
      by_cases h1 : 0 < t.size
      · have hne1 := sz_ne h1
        go_wp2
        go_meet
        case rel => exact ⟨t, rfl, rfl, h1, hts, HT.out⟩
      · have hz : t.size = 0 := by omega
        have HN := Lib.hid (show num (tx s) = none from num_bare (by rw [← HT.out, tx_nil hz]))
        clear h1 hts
        go_wp2_with (first
          | (go_at_call 45; go_must (refine (newW _ _).mono ?_); rintro e w' ⟨⟨et, ev, rfl⟩, hb⟩))
        go_ret2
        exact Post.no (HN.out) hb
    · have HM := Lib.hid (mi_no HC_x.out HX_x.out h45)
      rw [List.drop_zero] at HM
      go_wp2
      go_meet
      case rel => exact ⟨s, rfl, rfl, h0, Nat.le_refl _, HM.out.symm⟩
  case rest =>
    obtain ⟨t, rfl, hwx, ht0, hts, htx⟩ := hcut
    subst hwx
    have HT := Lib.hid htx
    clear htx hz_x hr_x hne
    go_upto_block 0 with (fail)
    go_cut [4] (fun v4 wx => ∃ i : Nat, v4 = .int .i64 (i : Int) ∧ w = wx ∧ DgE t i)

    case first =>
      go_wp2_with fail
      go_loopg [4] (t.size) (fun d v4 wx => ∃ i : Nat, v4 = .int .i64 (i : Int) ∧ w = wx ∧ i ≤ t.size ∧ t.size - i ≤ d ∧ Dg t i)
      case atStart => exact ⟨0, rfl, rfl, by omega, by omega, Dg.start _⟩
      case round =>
        obtain ⟨i, rfl, hwx, hi, hd, hg⟩ := hrel
        subst hwx
        have HD := Lib.hid hd
        have HG := Lib.hid hg
        clear hd hg
        by_cases hlt : i < t.size
        · have hz0 := bt_at t i hlt
          have hr := bt_range t i
          obtain ⟨c, hc, hcx, -⟩ := tx_at t i hlt
          obtain ⟨z, hz⟩ : ∃ z, bt t i = z := ⟨_, rfl⟩
          rw [hz] at hz0 hr hcx
          clear hz
          have HC := Lib.hid hc
          have HX := Lib.hid hcx
          clear hc hcx
          by_cases h1 : z < 48
          · go_wp2
            go_meet
            case rel => exact ⟨i, rfl, rfl, HG.out.stop hi HC.out (dig_no HX.out (.inl h1))⟩
          by_cases h2 : 57 < z
          · go_wp2
            go_meet
            case rel => exact ⟨i, rfl, rfl, HG.out.stop hi HC.out (dig_no HX.out (.inr h2))⟩
          · go_wp2
            go_roundg (gk - 1)
            case measure => have := HD.out; omega
            case rel => exact ⟨i + 1, by go_num, rfl, by omega, by have := HD.out; omega, HG.out.next HC.out (dig_yes HX.out (by omega) (by omega))⟩
        · obtain rfl : i = t.size := by omega
          go_wp2
          go_meet
          case rel => exact ⟨_, rfl, rfl, HG.out.fin⟩

    case rest =>
      obtain ⟨i, rfl, hwx, hE⟩ := hcut
      subst hwx
      have hi := hE.le
      have HE := Lib.hid hE
      clear hE
      have hz_y := bt_at t 0 (by omega)
      have hr_y := bt_range t (0 : Nat)
      obtain ⟨c_y, hc, hcx, -⟩ := tx_at t 0 (by omega)
      obtain ⟨y, hz⟩ : ∃ z, bt t (0 : Nat) = z := ⟨_, rfl⟩
      rw [hz] at hz_y hr_y hcx
      clear hz
      have HC_y := Lib.hid hc
      have HX_y := Lib.hid hcx
      clear hc hcx

      by_cases h1 : i = 0
      · subst h1
        have HN := Lib.hid (num_none0 HT.out HE.out)
        go_wp2_with (first
          | (go_at_call 45; go_must (refine (newW _ _).mono ?_); rintro e w' ⟨⟨et, ev, rfl⟩, hb⟩))
        go_ret2
        exact Post.no (HN.out) hb

      have hi0 : 0 < i := by omega
      clear h1
      by_cases h48 : y = 48 ∧ ¬ i = 1
      · obtain ⟨h2, h3⟩ := h48
        have HN := Lib.hid (num_none1 HT.out HE.out hi0 HC_y.out HX_y.out h2 h3)
        subst h2
        have hn1 : ((i : Int) == 1) = false := by rw [beq_eq_false_iff_ne]; omega
        go_wp2_with (first
          | (go_at_call 45; go_must (refine (newW _ _).mono ?_); rintro e w' ⟨⟨et, ev, rfl⟩, hb⟩))
        go_ret2
        exact Post.no (HN.out) hb

      have HN := Lib.hid (num_some HT.out HE.out hi0 HC_y.out HX_y.out h48)
      go_upto_region 13 with (fail)
      go_cut [46] (fun v46 wx => v46 = .bool false ∧ w = wx)
      case first =>
        by_cases h2 : y = 48
        · obtain rfl : i = 1 := by
            by_cases h3 : i = 1
            · exact h3
            · exact absurd ⟨h2, h3⟩ h48
          subst h2
          clear h48
          go_wp2
          go_meet
          case rel => exact ⟨rfl, rfl⟩
        · clear h48
          go_wp2
          go_meet
          case rel => exact ⟨rfl, rfl⟩
      case rest =>
        obtain ⟨rfl, hwx⟩ := hcut
        subst hwx
        clear hz_y hr_y h48
        by_cases hend : i = t.size
        · subst hend
          go_wp2
          go_ret2
          exact Post.yes (by rw [HN.out, List.drop_eq_nil_of_le (by rw [tx_len]; omega)]; rfl)
        have hlt : i < t.size := by omega
        clear hend
        have hz_z := bt_at t i (by omega)
        have hr_z := bt_range t (i : Nat)
        obtain ⟨c_z, hc, hcx, -⟩ := tx_at t i (by omega)
        obtain ⟨z, hz⟩ : ∃ z, bt t (i : Nat) = z := ⟨_, rfl⟩
        rw [hz] at hz_z hr_z hcx
        clear hz
        have HC_z := Lib.hid hc
        have HX_z := Lib.hid hcx
        clear hc hcx

        go_upto_if 56 with (fail)
        go_cut [0, 4] (fun v0 v4 wx => ∃ (t2 : ByteArray) (i2 : Nat), v0 = .string t2 ∧ v4 = .int .i64 (i2 : Int) ∧ w = wx ∧ i2 < t2.size ∧ t2.size ≤ s.size ∧ num (tx s) = exp ((tx t2).drop i2))
        case first =>
          by_cases h46 : z = 46
          · have HNd := Lib.hid (HN.out.trans (frac_dot HC_z.out HX_z.out h46))
            subst h46
            obtain ⟨u, hu⟩ : ∃ u, t.extract (i + 1) t.size = u := ⟨_, rfl⟩
            have HU := Lib.hid (show tx u = (tx t).drop (i + 1) by rw [← hu, tx_ext])
            have hus : u.size ≤ t.size := by rw [← hu, ByteArray.size_extract]; omega
            have HNu := Lib.hid (show num (tx s) = if (tx u).takeWhile dig = [] then none else exp ((tx u).dropWhile dig) by rw [HU.out]; exact HNd.out)
            by_cases hu0 : 0 < u.size
            · have hne1 := sz_ne hu0
              have t1 : decide (t.size ≤ i) = false := by simp; omega
              go_upto_block 2 with (fail)
              simp only [beq_self_eq_true, t1]
              go_cut [4] (fun v4 wx => ∃ i : Nat, v4 = .int .i64 (i : Int) ∧ w = wx ∧ DgE u i)

              case first =>
                go_wp2_with fail
                go_loopg [4] (u.size) (fun d v4 wx => ∃ i : Nat, v4 = .int .i64 (i : Int) ∧ w = wx ∧ i ≤ u.size ∧ u.size - i ≤ d ∧ Dg u i)
                case atStart => exact ⟨0, rfl, rfl, by omega, by omega, Dg.start _⟩
                case round =>
                  obtain ⟨i, rfl, hwx, hi, hd, hg⟩ := hrel
                  subst hwx
                  have HD := Lib.hid hd
                  have HG := Lib.hid hg
                  clear hd hg
                  by_cases hlt : i < u.size
                  · have hz0 := bt_at u i hlt
                    have hr := bt_range u i
                    obtain ⟨c, hc, hcx, -⟩ := tx_at u i hlt
                    obtain ⟨z, hz⟩ : ∃ z, bt u i = z := ⟨_, rfl⟩
                    rw [hz] at hz0 hr hcx
                    clear hz
                    have HC := Lib.hid hc
                    have HX := Lib.hid hcx
                    clear hc hcx
                    by_cases h1 : z < 48
                    · go_wp2
                      go_meet
                      case rel => exact ⟨i, rfl, rfl, HG.out.stop hi HC.out (dig_no HX.out (.inl h1))⟩
                    by_cases h2 : 57 < z
                    · go_wp2
                      go_meet
                      case rel => exact ⟨i, rfl, rfl, HG.out.stop hi HC.out (dig_no HX.out (.inr h2))⟩
                    · go_wp2
                      go_roundg (gk - 1)
                      case measure => have := HD.out; omega
                      case rel => exact ⟨i + 1, by go_num, rfl, by omega, by have := HD.out; omega, HG.out.next HC.out (dig_yes HX.out (by omega) (by omega))⟩
                  · obtain rfl : i = u.size := by omega
                    go_wp2
                    go_meet
                    case rel => exact ⟨_, rfl, rfl, HG.out.fin⟩

              case rest =>
                obtain ⟨i, rfl, hwx, hE⟩ := hcut
                subst hwx
                have hi := hE.le
                have HE := Lib.hid hE
                clear hE
                by_cases h0 : i = 0
                · subst h0
                  have HN := Lib.hid (HNu.out.trans (dg_none HE.out))
                  go_wp2_with (first
                    | (go_at_call 45; go_must (refine (newW _ _).mono ?_); rintro e w' ⟨⟨et, ev, rfl⟩, hb⟩))
                  go_ret2
                  exact Post.no (HN.out) hb

                have hi0 : 0 < i := by omega
                have HN := Lib.hid (HNu.out.trans (dg_exp HE.out hi0))
                by_cases hend : i = u.size
                · subst hend
                  go_wp2
                  go_ret2
                  exact Post.yes (by rw [HN.out, List.drop_eq_nil_of_le (by rw [tx_len]; omega)]; rfl)
                · have hlt : i < u.size := by omega
                  clear h0 hend
                  go_wp2
                  go_meet
                  case rel => exact ⟨u, i, rfl, rfl, rfl, hlt, by omega, HN.out⟩
            · have hz : u.size = 0 := by omega
              have HN := Lib.hid (show num (tx s) = none by rw [HNu.out, tx_nil hz]; rfl)
              clear hu0 hus
              go_wp2_with (first
                | (go_at_call 45; go_must (refine (newW _ _).mono ?_); rintro e w' ⟨⟨et, ev, rfl⟩, hb⟩))
              go_ret2
              exact Post.no (HN.out) hb
          · have HNd := Lib.hid (HN.out.trans (frac_no HC_z.out HX_z.out h46))
            go_wp2
            go_meet
            case rel => exact ⟨t, i, rfl, rfl, rfl, hlt, hts, HNd.out⟩
        case rest =>
          obtain ⟨t2, i2, rfl, rfl, hwx, hi2, ht2, hn2⟩ := hcut
          subst hwx
          have HN2 := Lib.hid hn2
          clear hn2 hz_z hr_z hi0 hlt hi ht0 hts HC_z HX_z HE HN
          have hz_z := bt_at t2 i2 (by omega)
          have hr_z := bt_range t2 (i2 : Nat)
          obtain ⟨c_z, hc, hcx, -⟩ := tx_at t2 i2 (by omega)
          obtain ⟨z, hz⟩ : ∃ z, bt t2 (i2 : Nat) = z := ⟨_, rfl⟩
          rw [hz] at hz_z hr_z hcx
          clear hz
          have HC_z := Lib.hid hc
          have HX_z := Lib.hid hcx
          clear hc hcx

          by_cases he : z = 101 ∨ z = 69
          · have HNe := Lib.hid (HN2.out.trans (exp_yes HC_z.out HX_z.out he))
            obtain ⟨u, hu⟩ : ∃ u, t2.extract (i2 + 1) t2.size = u := ⟨_, rfl⟩
            have HU := Lib.hid (show tx u = (tx t2).drop (i2 + 1) by rw [← hu, tx_ext])
            have hus : u.size ≤ t2.size := by rw [← hu, ByteArray.size_extract]; omega
            rw [← HU.out] at HNe
            go_upto_region 29 with (fail)
            go_cut [99] (fun v99 wx => v99 = .bool true ∧ w = wx)
            case first =>
              rcases he with rfl | rfl
              all_goals
                go_wp2
                go_meet
                case rel => exact ⟨rfl, rfl⟩
            case rest =>
              obtain ⟨rfl, hwx⟩ := hcut
              subst hwx
              clear hz_z hr_z he
              by_cases hu0 : 0 < u.size
              · have hne1 := sz_ne hu0
                have hz_q := bt_at u 0 (by omega)
                have hr_q := bt_range u (0 : Nat)
                obtain ⟨c_q, hc, hcx, -⟩ := tx_at u 0 (by omega)
                obtain ⟨q, hz⟩ : ∃ z, bt u (0 : Nat) = z := ⟨_, rfl⟩
                rw [hz] at hz_q hr_q hcx
                clear hz
                have HC_q := Lib.hid hc
                have HX_q := Lib.hid hcx
                clear hc hcx
                go_upto_region 33 with (fail)
                go_cut [116] (fun v116 wx => ∃ b, v116 = .bool b ∧ w = wx ∧ (b = true ↔ q = 43 ∨ q = 45))
                case first =>
                  by_cases q1 : q = 43
                  · subst q1
                    go_wp2
                    go_meet
                    case rel => exact ⟨_, rfl, rfl, by simp⟩
                  · by_cases q2 : q = 45
                    · subst q2
                      go_wp2
                      go_meet
                      case rel => exact ⟨_, rfl, rfl, by simp⟩
                    · go_wp2
                      go_meet
                      case rel => exact ⟨_, rfl, rfl, by simp [q1, q2]⟩
                case rest =>
                  obtain ⟨b, rfl, hwx, hb⟩ := hcut
                  subst hwx
                  have HB := Lib.hid hb
                  clear hb hz_q hr_q
                  go_upto_if 116 with (fail)
                  go_cut [0] (fun v0 wx => ∃ v : ByteArray, v0 = .string v ∧ w = wx ∧ v.size ≤ s.size ∧ num (tx s) = if (tx v).takeWhile dig = [] then none else some ((tx v).dropWhile dig))
                  case first =>
                    cases b with
                    | true =>
                      have HS := Lib.hid (sg_yes HC_q.out HX_q.out (HB.out.1 rfl))
                      rw [List.drop_zero] at HS
                      obtain ⟨v, hv⟩ : ∃ v, u.extract 1 u.size = v := ⟨_, rfl⟩
                      have HV := Lib.hid (show tx v = sg (tx u) by rw [← hv, tx_ext, HS.out])
                      have hvs : v.size ≤ u.size := by rw [← hv, ByteArray.size_extract]; omega
                      by_cases hv0 : 0 < v.size
                      · have hne2 := sz_ne hv0
                        have HNv := Lib.hid (show num (tx s) = if (tx v).takeWhile dig = [] then none else some ((tx v).dropWhile dig) by rw [HV.out]; exact HNe.out)
                        go_wp2
                        go_meet
                        case rel => exact ⟨v, rfl, rfl, by omega, HNv.out⟩
                      · have hz : v.size = 0 := by omega
                        have HN := Lib.hid (show num (tx s) = none by rw [HNe.out, ← HV.out, tx_nil hz]; rfl)
                        clear hv0 hvs
                        go_wp2_with (first
                          | (go_at_call 45; go_must (refine (newW _ _).mono ?_); rintro e w' ⟨⟨et, ev, rfl⟩, hb⟩))
                        go_ret2
                        exact Post.no (HN.out) hb
                    | false =>
                      have HS := Lib.hid (sg_no HC_q.out HX_q.out (fun h => absurd (HB.out.2 h) (by simp)))
                      rw [List.drop_zero] at HS
                      have HNv := Lib.hid (show num (tx s) = if (tx u).takeWhile dig = [] then none else some ((tx u).dropWhile dig) by rw [HNe.out, HS.out])
                      go_wp2
                      go_meet
                      case rel => exact ⟨u, rfl, rfl, by omega, HNv.out⟩
                  case rest =>
                    obtain ⟨v, rfl, hwx, hvs, hnv⟩ := hcut
                    subst hwx
                    have HNv := Lib.hid hnv
                    clear hnv hne1
                    go_upto_block 4 with (fail)
                    go_cut [4] (fun v4 wx => ∃ i : Nat, v4 = .int .i64 (i : Int) ∧ w = wx ∧ DgE v i)

                    case first =>
                      go_wp2_with fail
                      go_loopg [4] (v.size) (fun d v4 wx => ∃ i : Nat, v4 = .int .i64 (i : Int) ∧ w = wx ∧ i ≤ v.size ∧ v.size - i ≤ d ∧ Dg v i)
                      case atStart => exact ⟨0, rfl, rfl, by omega, by omega, Dg.start _⟩
                      case round =>
                        obtain ⟨i, rfl, hwx, hi, hd, hg⟩ := hrel
                        subst hwx
                        have HD := Lib.hid hd
                        have HG := Lib.hid hg
                        clear hd hg
                        by_cases hlt : i < v.size
                        · have hz0 := bt_at v i hlt
                          have hr := bt_range v i
                          obtain ⟨c, hc, hcx, -⟩ := tx_at v i hlt
                          obtain ⟨z, hz⟩ : ∃ z, bt v i = z := ⟨_, rfl⟩
                          rw [hz] at hz0 hr hcx
                          clear hz
                          have HC := Lib.hid hc
                          have HX := Lib.hid hcx
                          clear hc hcx
                          by_cases h1 : z < 48
                          · go_wp2
                            go_meet
                            case rel => exact ⟨i, rfl, rfl, HG.out.stop hi HC.out (dig_no HX.out (.inl h1))⟩
                          by_cases h2 : 57 < z
                          · go_wp2
                            go_meet
                            case rel => exact ⟨i, rfl, rfl, HG.out.stop hi HC.out (dig_no HX.out (.inr h2))⟩
                          · go_wp2
                            go_roundg (gk - 1)
                            case measure => have := HD.out; omega
                            case rel => exact ⟨i + 1, by go_num, rfl, by omega, by have := HD.out; omega, HG.out.next HC.out (dig_yes HX.out (by omega) (by omega))⟩
                        · obtain rfl : i = v.size := by omega
                          go_wp2
                          go_meet
                          case rel => exact ⟨_, rfl, rfl, HG.out.fin⟩

                    case rest =>
                      obtain ⟨i, rfl, hwx, hE⟩ := hcut
                      subst hwx
                      have hi := hE.le
                      have HE := Lib.hid hE
                      clear hE
                      by_cases h0 : i = 0
                      · subst h0
                        have HN := Lib.hid (HNv.out.trans (dg_none HE.out))
                        go_wp2_with (first
                          | (go_at_call 45; go_must (refine (newW _ _).mono ?_); rintro e w' ⟨⟨et, ev, rfl⟩, hb⟩))
                        go_ret2
                        exact Post.no (HN.out) hb

                      have hi0 : 0 < i := by omega
                      have HN := Lib.hid (HNv.out.trans (dg_some HE.out hi0))
                      by_cases hend : i = v.size
                      · subst hend
                        go_wp2
                        go_ret2
                        exact Post.yes (by rw [HN.out, List.drop_eq_nil_of_le (by rw [tx_len]; omega)]; rfl)
                      · have hlt : i < v.size := by omega
                        clear h0 hend
                        go_wp2
                        go_ret2
                        exact Post.yes (by rw [HN.out, tx_ext])
              · have hz : u.size = 0 := by omega
                have HN := Lib.hid (show num (tx s) = none by rw [HNe.out, tx_nil hz]; rfl)
                clear hu0 hus
                go_wp2_with (first
                  | (go_at_call 45; go_must (refine (newW _ _).mono ?_); rintro e w' ⟨⟨et, ev, rfl⟩, hb⟩))
                go_ret2
                exact Post.no (HN.out) hb

          · have hz1 : ¬ z = 101 := fun h => he (.inl h)
            have hz2 : ¬ z = 69 := fun h => he (.inr h)
            have HNe := Lib.hid (HN2.out.trans (exp_no HC_z.out HX_z.out hz1 hz2))
            clear he
            go_wp2
            go_ret2
            exact Post.yes (by rw [HNe.out, tx_ext])
end Go.Proofs.YtgemkbpilmmajaaDoor.Fc
