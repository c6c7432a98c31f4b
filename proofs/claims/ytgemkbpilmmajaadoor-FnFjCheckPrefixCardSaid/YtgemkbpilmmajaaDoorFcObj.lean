/- The walk of validateObject. -/
import Derived.Test.YtgemkbpilmmajaaDoorFcArr
namespace Go.Proofs.YtgemkbpilmmajaaDoor.Fc
open Go.RowKit L
set_option linter.unusedVariables false
set_option linter.unusedSimpArgs false
set_option linter.unusedSectionVars false

theorem SPost.none_ {l : Tx} {w w' : World} {e : Ending} (h : SPost l w e w') (hn : str l = none) : (∃ s s' t v, e = .returned (.tuple #[.string s, .string s', .iface t v])) ∧ Below w.heap.size w w' := by
  obtain ⟨⟨a, b, h1, -⟩ | ⟨-, h1⟩, hb⟩ := h
  · rw [hn] at h1; exact absurd h1 (by simp)
  · exact ⟨h1, hb⟩
theorem SPost.some_ {l : Tx} {p : Tx × Tx} {w w' : World} {e : Ending} (h : SPost l w e w') (hn : str l = some p) : (∃ a b, str l = some (tx a, tx b) ∧ e = .returned (.tuple #[.string a, .string b, .nilIface])) ∧ Below w.heap.size w w' := by
  obtain ⟨h1 | ⟨h1, -⟩, hb⟩ := h
  · exact ⟨h1, hb⟩
  · rw [hn] at h1; exact absurd h1 (by simp)
theorem str_len {t a b : ByteArray} (h : str (tx t) = some (tx a, tx b)) : b.size < t.size := by
  obtain ⟨⟨p, hp, hl⟩, -⟩ := str_cut h
  have := congrArg List.length hl
  have l3 := List.length_pos_iff.2 hp
  simp only [List.length_append, tx_len] at this
  omega
theorem escs_len : ∀ {k : Nat} {l r : Tx}, escs hex4 k l = some r → r.length ≤ l.length
  | 0, l, r, h => by simp [escs] at h
  | k + 1, l, r, h => by
    have hl := dw_len (· != 92) l
    simp only [escs] at h
    split at h
    · rw [Option.some.inj h]; exact Nat.le_refl _
    · exact absurd h (by simp)
    · rename_i z c t he
      rw [he] at hl
      simp only [List.length_cons] at hl
      split at h
      · have := escs_len h; omega
      · split at h
        · split at h
          · exact absurd h (by simp)
          · split at h
            · have := escs_len h
              rw [List.length_drop] at this
              omega
            · exact absurd h (by simp)
        · exact absurd h (by simp)
theorem str_le {t a b : ByteArray} (h : str (tx t) = some (tx a, tx b)) : a.size ≤ t.size := by
  unfold str at h
  cases hr : rawEnd (tx t) with
  | none => rw [hr] at h; exact absurd h (by simp)
  | some n =>
    rw [hr] at h
    dsimp only at h
    cases hv : strV ((tx t).take n) with
    | none => rw [hv] at h; exact absurd h (by simp)
    | some a' =>
      rw [hv] at h
      dsimp only at h
      have h1 := (Prod.mk.inj (Option.some.inj h)).1
      have h2 := escs_len hv
      rw [h1, tx_len, List.length_take, tx_len] at h2
      omega
/-- No control character ahead of i. -/
def NoCtl (a : ByteArray) (i : Nat) : Prop := ctl ((tx a).take i) = false
theorem NoCtl.start (a : ByteArray) : NoCtl a 0 := rfl
theorem NoCtl.next {a : ByteArray} {i : Nat} {c : UInt8} {x : Int} (h : NoCtl a i) (hc : (tx a)[i]? = some c) (hx : (c.toNat : Int) = x) (h32 : ¬ x < 32) : NoCtl a (i + 1) := by
  unfold NoCtl ctl at *
  rw [List.take_add_one, hc, Option.toList_some, List.any_append, h]
  simp; omega
theorem NoCtl.fin {a : ByteArray} (h : NoCtl a a.size) : ctl (tx a) = false := by
  unfold NoCtl at h
  rwa [List.take_of_length_le (by rw [tx_len]; exact Nat.le_refl _)] at h
theorem ctl_yes {l : Tx} {i : Nat} {c : UInt8} {x : Int} (hc : l[i]? = some c) (hx : (c.toNat : Int) = x) (h32 : x < 32) : ctl l = true := by
  unfold ctl
  rw [List.any_eq_true]
  exact ⟨c, List.mem_of_getElem? hc, by simp; omega⟩
section
variable {P : Tx → Option Tx} {k : Nat} {l t a b u v r : Tx} {c : UInt8}
theorem mems_nn (h : skip l = []) : mems P (k + 1) l = none := by simp only [mems]; rw [h]
theorem mems_n0 (h : skip l = c :: r) (hc : ¬ c = 34) : mems P (k + 1) l = none := by simp only [mems]; rw [h]; dsimp only; rw [if_neg hc]
theorem mems_n1 (h : skip l = 34 :: t) (h1 : str t = none) : mems P (k + 1) l = none := by simp only [mems]; rw [h]; dsimp only; rw [if_pos rfl, h1]
theorem mems_n2 (h : skip l = 34 :: t) (h1 : str t = some (a, b)) (h2 : ctl a = true) : mems P (k + 1) l = none := by
  simp only [mems]; rw [h]; dsimp only; rw [if_pos rfl, h1]; dsimp only; rw [h2, if_pos rfl]
theorem mems_n3 (h : skip l = 34 :: t) (h1 : str t = some (a, b)) (h2 : ctl a = false) (h3 : skip b = []) : mems P (k + 1) l = none := by
  simp only [mems]; rw [h]; dsimp only; rw [if_pos rfl, h1]; dsimp only; rw [h2, if_neg (by simp), h3]
theorem mems_n4 (h : skip l = 34 :: t) (h1 : str t = some (a, b)) (h2 : ctl a = false) (h3 : skip b = c :: r) (hc : ¬ c = 58) : mems P (k + 1) l = none := by
  simp only [mems]; rw [h]; dsimp only; rw [if_pos rfl, h1]; dsimp only; rw [h2, if_neg (by simp), h3]; dsimp only; rw [if_neg hc]
theorem mems_n5 (h : skip l = 34 :: t) (h1 : str t = some (a, b)) (h2 : ctl a = false) (h3 : skip b = 58 :: u) (h4 : P (skip u) = none) : mems P (k + 1) l = none := by
  simp only [mems]; rw [h]; dsimp only; rw [if_pos rfl, h1]; dsimp only; rw [h2, if_neg (by simp), h3]; dsimp only; rw [if_pos rfl, h4]
theorem mems_n6 (h : skip l = 34 :: t) (h1 : str t = some (a, b)) (h2 : ctl a = false) (h3 : skip b = 58 :: u) (h4 : P (skip u) = some v) (h5 : skip v = []) : mems P (k + 1) l = none := by
  simp only [mems]; rw [h]; dsimp only; rw [if_pos rfl, h1]; dsimp only; rw [h2, if_neg (by simp), h3]; dsimp only; rw [if_pos rfl, h4]; dsimp only; rw [h5]
theorem mems_n7 (h : skip l = 34 :: t) (h1 : str t = some (a, b)) (h2 : ctl a = false) (h3 : skip b = 58 :: u) (h4 : P (skip u) = some v) (h5 : skip v = c :: r) : mems P (k + 1) l = if c = 44 then mems P k r else if c = 125 then some r else none := by
  simp only [mems]; rw [h]; dsimp only; rw [if_pos rfl, h1]; dsimp only; rw [h2, if_neg (by simp), h3]; dsimp only; rw [if_pos rfl, h4]; dsimp only; rw [h5]
end
set_option maxRecDepth 100000 in
set_option maxHeartbeats 8000000 in
theorem objW (k : Nat) (IH : ValOk k) (s : ByteArray) (w : World) (hk : s.size < k) (hs : s.size ≤ 1000000) (hw : SynAt w) : Calls Tryd.prog 67 #[.string s] w (Post (obj (val k) k (tx s)) w) := by
  have HSY := Lib.hid hw
  have HIH := Lib.hid IH
  clear hw IH
  go_enter Tryd.func67, Tryd.ntmps67
  go_upto_region 2 with (first
    | (go_at_call 87; go_must (refine (skipB s _ (by omega)).mono ?_); rintro e w' ⟨rfl, s1, rfl, ht⟩; replace ht := Lib.hid ht))
  have hs1 := skip_len ht.out
  by_cases h0 : 0 < s1.size
  · skip
    have hne_x := sz_ne h0
    have hz_x := bt_at s1 0 h0
    have hr_x := bt_range s1 (0 : Nat)
    obtain ⟨x, hz⟩ : ∃ z, bt s1 (0 : Nat) = z := ⟨_, rfl⟩
    obtain ⟨c, hc, hcx⟩ := cons_of h0 hz
    rw [hz] at hz_x hr_x
    clear hz
    have HX_x := Lib.hid hcx
    have HC_x := Lib.hid hc
    clear hcx hc

    by_cases h125 : x = 125
    · have HN := Lib.hid (show obj (val k) k (tx s) = some (tx (s1.extract 1 s1.size)) by
        unfold obj; rw [← ht.out, HC_x.out]; dsimp only; rw [if_pos ((u8 HX_x.out 125).2 h125), tx_ext])
      subst h125
      go_wp2
      go_ret2
      exact Post.yes' HN.out (Below.refl _ _) rfl
    · have HN := Lib.hid (show obj (val k) k (tx s) = mems (val k) k (tx s1) by
        unfold obj; rw [← ht.out, HC_x.out]; dsimp only; rw [if_neg fun e => h125 ((u8 HX_x.out 125).1 e), ← HC_x.out])
      have hn125 : (x == 125) = false := by rw [beq_eq_false_iff_ne]; exact h125
      go_wp2
      go_loopg [0] (s.size + 1) (fun d v0 wx => ∃ (r : ByteArray) (j : Nat), v0 = .string r ∧ mems (val k) j (tx r) = obj (val k) k (tx s) ∧ r.size < j ∧ r.size < d ∧ r.size ≤ s.size ∧ Below w.heap.size w wx ∧ SynAt wx)
      case atStart => exact ⟨s1, k, rfl, HN.out.symm, by omega, by omega, hs1, Below.refl _ _, HSY.out⟩
      case round =>
        obtain ⟨r, j, rfl, hj, hrj, hrd, hrs, hbw, hsy⟩ := hrel
        have HJ := Lib.hid hj
        have HRD := Lib.hid hrd
        have HBW := Lib.hid hbw
        have HSW := Lib.hid hsy
        obtain ⟨j, rfl⟩ : ∃ i, j = i + 1 := ⟨j - 1, by omega⟩
        clear hj hrd hbw hsy
        go_upto_region 8 with (first
          | (go_at_call 87; go_must (refine (skipB r _ (by omega)).mono ?_); rintro e w' ⟨rfl, r1, rfl, ht1⟩; replace ht1 := Lib.hid ht1))
        have hr1 := skip_len ht1.out
        by_cases h0 : 0 < r1.size
        · skip
          have hne_q := sz_ne h0
          have hz_q := bt_at r1 0 h0
          have hr_q := bt_range r1 (0 : Nat)
          obtain ⟨q, hz⟩ : ∃ z, bt r1 (0 : Nat) = z := ⟨_, rfl⟩
          obtain ⟨c1, hc, hcx⟩ := cons_of h0 hz
          rw [hz] at hz_q hr_q
          clear hz
          have HX_q := Lib.hid hcx
          have HC_q := Lib.hid hc
          clear hcx hc

          by_cases h34 : q = 34
          · have HK1 := Lib.hid (show skip (tx r) = 34 :: (tx r1).drop 1 by rw [← ht1.out]; conv => lhs; rw [HC_q.out, (u8 HX_q.out 34).2 h34])
            subst h34
            obtain ⟨t, hu⟩ : ∃ u, r1.extract 1 r1.size = u := ⟨_, rfl⟩
            have HU_t := Lib.hid (show tx t = (tx r1).drop 1 by rw [← hu, tx_ext])
            have hul_t : t.size < r1.size := by rw [← hu, ByteArray.size_extract]; omega

            rw [← HU_t.out] at HK1
            cases hst : str (tx t) with
            | none =>
              have HST := Lib.hid hst
              have HN := Lib.hid (show obj (val k) k (tx s) = none by rw [← HJ.out]; exact mems_n1 HK1.out hst)
              clear hst
              go_wp2_with (first
                | (go_at_call 88; go_must (refine (keyW t _ (by omega) HSW.out).mono ?_); rintro e w1 hp; obtain ⟨⟨e0, e1, e2, e3, rfl⟩, hb1⟩ := hp.none_ HST.out; clear hp)
                | (go_at_call 45; go_must (refine (newW _ _).mono ?_); rintro e w' ⟨⟨et, ev, rfl⟩, hb⟩))
              go_ret2
              exact Post.no' HN.out (below_of (below_of HBW.out hb1) hb) rfl
            | some l =>
              have HST0 := Lib.hid hst
              clear hst
              go_upto_region 12 with (first
                | (go_at_call 88; go_must (refine (keyW t _ (by omega) HSW.out).mono ?_); rintro e w1 hp; obtain ⟨⟨a, b, hla, rfl⟩, hb1⟩ := hp.some_ HST0.out; clear hp; replace hla := Lib.hid hla; replace hb1 := Lib.hid hb1))
              have HST := Lib.hid hla.out
              have hab := str_len HST.out
              have haa := str_le HST.out
              have HBW2 := Lib.hid (below_of HBW.out hb1.out)
              have HSW2 := Lib.hid (HSW.out.below hb1.out)
              go_upto_block 2 with (fail)
              go_cut [44] (fun v44 wx => w1 = wx ∧ ctl (tx a) = false)
              case first =>
                go_wp2_with fail
                go_loopg [44] (a.size) (fun d v44 wx => ∃ i : Nat, v44 = .int .i64 (i : Int) ∧ w1 = wx ∧ i ≤ a.size ∧ a.size - i ≤ d ∧ NoCtl a i)
                case atStart => exact ⟨0, rfl, rfl, by omega, by omega, NoCtl.start a⟩
                case round =>
                  obtain ⟨i, rfl, hwx, hi, hd, hno⟩ := hrel
                  subst hwx
                  have HD := Lib.hid hd
                  have HNO := Lib.hid hno
                  clear hd hno
                  by_cases hlt : i < a.size
                  · have hz_p := bt_at a i hlt
                    have hr_p := bt_range a (i : Nat)
                    obtain ⟨c, -, hcx, hca⟩ := tx_at a i hlt
                    obtain ⟨p, hz⟩ : ∃ z, bt a (i : Nat) = z := ⟨_, rfl⟩
                    rw [hz] at hz_p hr_p hcx
                    clear hz
                    have HX := Lib.hid hcx
                    have HA := Lib.hid hca
                    clear hcx hca
                    by_cases h32 : p < 32
                    · have HN := Lib.hid (show obj (val k) k (tx s) = none by rw [← HJ.out]; exact mems_n2 HK1.out HST.out (ctl_yes HA.out HX.out h32))
                      go_wp2_with (first
                        | (go_at_call 45; go_must (refine (newW _ _).mono ?_); rintro e w' ⟨⟨et, ev, rfl⟩, hb⟩))
                      go_ret2
                      exact Post.no' HN.out (below_of HBW2.out hb) rfl
                    · have HNO2 := Lib.hid (HNO.out.next HA.out HX.out h32)
                      go_wp2
                      go_roundg (gk - 1)
                      case measure => have := HD.out; omega
                      case rel => exact ⟨i + 1, by go_num, rfl, by omega, by have := HD.out; omega, HNO2.out⟩
                  · obtain rfl : i = a.size := by omega
                    go_wp2
                    go_meet
                    case rel => exact ⟨rfl, HNO.out.fin⟩
              case rest =>
                obtain ⟨hwx, hct⟩ := hcut
                subst hwx
                have HCT := Lib.hid hct
                clear hct
                go_upto_region 21 with (first
                  | (go_at_call 87; go_must (refine (skipB b _ (by omega)).mono ?_); rintro e w' ⟨rfl, b1, rfl, ht3⟩; replace ht3 := Lib.hid ht3))
                have hb1s := skip_len ht3.out
                by_cases h0 : 0 < b1.size
                · skip
                  have hne_y := sz_ne h0
                  have hz_y := bt_at b1 0 h0
                  have hr_y := bt_range b1 (0 : Nat)
                  obtain ⟨y, hz⟩ : ∃ z, bt b1 (0 : Nat) = z := ⟨_, rfl⟩
                  obtain ⟨c2, hc, hcx⟩ := cons_of h0 hz
                  rw [hz] at hz_y hr_y
                  clear hz
                  have HX_y := Lib.hid hcx
                  have HC_y := Lib.hid hc
                  clear hcx hc

                  by_cases h58 : y = 58
                  · have HK4 := Lib.hid (show skip (tx b) = 58 :: (tx b1).drop 1 by rw [← ht3.out]; conv => lhs; rw [HC_y.out, (u8 HX_y.out 58).2 h58])
                    subst h58
                    obtain ⟨u, hu⟩ : ∃ u, b1.extract 1 b1.size = u := ⟨_, rfl⟩
                    have HU_u := Lib.hid (show tx u = (tx b1).drop 1 by rw [← hu, tx_ext])
                    have hul_u : u.size < b1.size := by rw [← hu, ByteArray.size_extract]; omega

                    rw [← HU_u.out] at HK4
                    go_upto_region 25 with (first
                      | (go_at_call 87; go_must (refine (skipB u _ (by omega)).mono ?_); rintro e w' ⟨rfl, u1, rfl, ht4⟩; replace ht4 := Lib.hid ht4))
                    have hu1 := skip_len ht4.out
                    cases hv : val k (tx u1) with
                    | none =>
                      have HV := Lib.hid hv
                      have HN := Lib.hid (show obj (val k) k (tx s) = none by rw [← HJ.out]; exact mems_n5 HK1.out HST.out HCT.out HK4.out (by rw [← ht4.out]; exact hv))
                      clear hv
                      go_wp2_with (first
                        | (go_at_call 53; go_must (refine (HIH.out u1 _ (by omega) (by omega) HSW2.out).mono ?_); rintro e w1 hp; rw [HV.out] at hp; obtain ⟨⟨e1, e2, e3, rfl⟩, hb1⟩ := hp.none_; clear hp)
                        | (go_at_call 45; go_must (refine (newW _ _).mono ?_); rintro e w' ⟨⟨et, ev, rfl⟩, hb⟩))
                      go_ret2
                      exact Post.no' HN.out (below_of (below_of HBW2.out hb1) hb) rfl
                    | some l =>
                      have HV := Lib.hid hv
                      clear hv
                      go_upto_region 26 with (first
                        | (go_at_call 53; go_must (refine (HIH.out u1 _ (by omega) (by omega) HSW2.out).mono ?_); rintro e w1 hp; rw [HV.out] at hp; obtain ⟨⟨v, hla, rfl⟩, hb1⟩ := hp.some_; clear hp; replace hla := Lib.hid hla; replace hb1 := Lib.hid hb1))
                      have HV2 := Lib.hid (show val k (tx u1) = some (tx v) by rw [HV.out, hla.out])
                      have HV3 := Lib.hid (show val k (skip (tx u)) = some (tx v) by rw [← ht4.out]; exact HV2.out)
                      have hvl := val_len HV2.out
                      have HBW3 := Lib.hid (below_of HBW2.out hb1.out)
                      have HSW3 := Lib.hid (HSW2.out.below hb1.out)
                      go_upto_region 29 with (first
                        | (go_at_call 87; go_must (refine (skipB v _ (by omega)).mono ?_); rintro e w' ⟨rfl, v1, rfl, ht5⟩; replace ht5 := Lib.hid ht5))
                      have hv1 := skip_len ht5.out
                      by_cases h0 : 0 < v1.size
                      · skip
                        have hne_d := sz_ne h0
                        have hz_d := bt_at v1 0 h0
                        have hr_d := bt_range v1 (0 : Nat)
                        obtain ⟨d, hz⟩ : ∃ z, bt v1 (0 : Nat) = z := ⟨_, rfl⟩
                        obtain ⟨c3, hc, hcx⟩ := cons_of h0 hz
                        rw [hz] at hz_d hr_d
                        clear hz
                        have HX_d := Lib.hid hcx
                        have HC_d := Lib.hid hc
                        clear hcx hc

                        obtain ⟨z, hu⟩ : ∃ u, v1.extract 1 v1.size = u := ⟨_, rfl⟩
                        have HU_z := Lib.hid (show tx z = (tx v1).drop 1 by rw [← hu, tx_ext])
                        have hul_z : z.size < v1.size := by rw [← hu, ByteArray.size_extract]; omega

                        have HI := Lib.hid (show obj (val k) k (tx s) = if c3 = 44 then mems (val k) j (tx z) else if c3 = 125 then some (tx z) else none by
                          rw [← HJ.out, HU_z.out]; exact mems_n7 HK1.out HST.out HCT.out HK4.out HV3.out (by rw [← ht5.out]; exact HC_d.out))
                        by_cases h44 : d = 44
                        · have HI2 := Lib.hid (show mems (val k) j (tx z) = obj (val k) k (tx s) by rw [HI.out, if_pos ((u8 HX_d.out 44).2 h44)])
                          subst h44
                          go_wp2
                          go_roundg (gk - 1)
                          case measure => have := HRD.out; omega
                          case rel => exact ⟨z, j, rfl, HI2.out, by omega, by have := HRD.out; omega, by omega, HBW3.out, HSW3.out⟩
                        by_cases h125 : d = 125
                        · have HN := Lib.hid (show obj (val k) k (tx s) = some (tx z) by rw [HI.out, if_neg (fun e => h44 ((u8 HX_d.out 44).1 e)), if_pos ((u8 HX_d.out 125).2 h125)])
                          subst h125
                          go_wp2
                          go_ret2
                          exact Post.yes' HN.out HBW3.out rfl
                        · have HN := Lib.hid (show obj (val k) k (tx s) = none by rw [HI.out, if_neg (fun e => h44 ((u8 HX_d.out 44).1 e)), if_neg (fun e => h125 ((u8 HX_d.out 125).1 e))])
                          go_wp2_with (first
                            | (go_at_call 45; go_must (refine (newW _ _).mono ?_); rintro e w' ⟨⟨et, ev, rfl⟩, hb⟩))
                          go_ret2
                          exact Post.no' HN.out (below_of HBW3.out hb) rfl
                      · have hz : v1.size = 0 := by omega
                        have HN := Lib.hid (show obj (val k) k (tx s) = none by rw [← HJ.out]; exact mems_n6 HK1.out HST.out HCT.out HK4.out HV3.out (by rw [← ht5.out, tx_nil hz]))
                        clear h0
                        go_wp2_with (first
                          | (go_at_call 45; go_must (refine (newW _ _).mono ?_); rintro e w' ⟨⟨et, ev, rfl⟩, hb⟩))
                        go_ret2
                        exact Post.no' HN.out (below_of HBW3.out hb) rfl

                  · have HN := Lib.hid (show obj (val k) k (tx s) = none by
                      rw [← HJ.out]
                      exact mems_n4 HK1.out HST.out HCT.out (by rw [← ht3.out]; exact HC_y.out) (fun e => h58 ((u8 HX_y.out 58).1 e)))
                    go_wp2_with (first
                      | (go_at_call 45; go_must (refine (newW _ _).mono ?_); rintro e w' ⟨⟨et, ev, rfl⟩, hb⟩))
                    go_ret2
                    exact Post.no' HN.out (below_of HBW2.out hb) rfl
                · have hz : b1.size = 0 := by omega
                  have HN := Lib.hid (show obj (val k) k (tx s) = none by rw [← HJ.out]; exact mems_n3 HK1.out HST.out HCT.out (by rw [← ht3.out, tx_nil hz]))
                  clear h0
                  go_wp2_with (first
                    | (go_at_call 45; go_must (refine (newW _ _).mono ?_); rintro e w' ⟨⟨et, ev, rfl⟩, hb⟩))
                  go_ret2
                  exact Post.no' HN.out (below_of HBW2.out hb) rfl

          · have HN := Lib.hid (show obj (val k) k (tx s) = none by
              rw [← HJ.out]
              exact mems_n0 (by rw [← ht1.out]; exact HC_q.out) (fun e => h34 ((u8 HX_q.out 34).1 e)))
            go_wp2_with (first
              | (go_at_call 45; go_must (refine (newW _ _).mono ?_); rintro e w' ⟨⟨et, ev, rfl⟩, hb⟩))
            go_ret2
            exact Post.no' HN.out (below_of HBW.out hb) rfl
        · have hz : r1.size = 0 := by omega
          have HN := Lib.hid (show obj (val k) k (tx s) = none by rw [← HJ.out]; exact mems_nn (by rw [← ht1.out, tx_nil hz]))
          clear h0
          go_wp2_with (first
            | (go_at_call 45; go_must (refine (newW _ _).mono ?_); rintro e w' ⟨⟨et, ev, rfl⟩, hb⟩))
          go_ret2
          exact Post.no' HN.out (below_of HBW.out hb) rfl
  · have hz : s1.size = 0 := by omega
    have HN := Lib.hid (show obj (val k) k (tx s) = none by unfold obj; rw [← ht.out, tx_nil hz])
    clear h0 hs1
    go_wp2_with (first
      | (go_at_call 45; go_must (refine (newW _ _).mono ?_); rintro e w' ⟨⟨et, ev, rfl⟩, hb⟩))
    go_ret2
    exact Post.no' HN.out hb rfl
end Go.Proofs.YtgemkbpilmmajaaDoor.Fc
