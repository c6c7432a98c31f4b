/- The walk of validateValue. -/
import Derived.Test.YtgemkbpilmmajaaDoorFcObj
namespace Go.Proofs.YtgemkbpilmmajaaDoor.Fc
open Go.RowKit L
set_option linter.unusedVariables false
set_option linter.unusedSimpArgs false
set_option linter.unusedSectionVars false

section
variable {k : Nat} {l t : Tx} {c : UInt8} {x : Int}
theorem val_obj (hc : l = c :: t) (hx : (c.toNat : Int) = x) (h : x = 123) : val (k + 1) l = obj (val k) k t := by rw [hc, val_cons, if_pos ((u8 hx 123).2 h)]
theorem val_arr (hc : l = c :: t) (hx : (c.toNat : Int) = x) (h : x = 91) : val (k + 1) l = arr (val k) k t := by
  rw [hc, val_cons, if_neg fun e => absurd ((u8 hx 123).1 e) (by rw [h]; decide), if_pos ((u8 hx 91).2 h)]
theorem val_quo (hc : l = c :: t) (hx : (c.toNat : Int) = x) (h : x = 34) : val (k + 1) l = quo t := by
  rw [hc, val_cons, if_neg fun e => absurd ((u8 hx 123).1 e) (by rw [h]; decide), if_neg fun e => absurd ((u8 hx 91).1 e) (by rw [h]; decide), if_pos ((u8 hx 34).2 h)]
theorem val_t (hc : l = c :: t) (hx : (c.toNat : Int) = x) (h : x = 116) : val (k + 1) l = word [116, 114, 117, 101] l := by
  rw [hc, val_cons, if_neg fun e => absurd ((u8 hx 123).1 e) (by rw [h]; decide), if_neg fun e => absurd ((u8 hx 91).1 e) (by rw [h]; decide), if_neg fun e => absurd ((u8 hx 34).1 e) (by rw [h]; decide), if_pos ((u8 hx 116).2 h)]
theorem val_f (hc : l = c :: t) (hx : (c.toNat : Int) = x) (h : x = 102) : val (k + 1) l = word [102, 97, 108, 115, 101] l := by
  rw [hc, val_cons, if_neg fun e => absurd ((u8 hx 123).1 e) (by rw [h]; decide), if_neg fun e => absurd ((u8 hx 91).1 e) (by rw [h]; decide), if_neg fun e => absurd ((u8 hx 34).1 e) (by rw [h]; decide),
    if_neg fun e => absurd ((u8 hx 116).1 e) (by rw [h]; decide), if_pos ((u8 hx 102).2 h)]
theorem val_n (hc : l = c :: t) (hx : (c.toNat : Int) = x) (h : x = 110) : val (k + 1) l = word [110, 117, 108, 108] l := by
  rw [hc, val_cons, if_neg fun e => absurd ((u8 hx 123).1 e) (by rw [h]; decide), if_neg fun e => absurd ((u8 hx 91).1 e) (by rw [h]; decide), if_neg fun e => absurd ((u8 hx 34).1 e) (by rw [h]; decide),
    if_neg fun e => absurd ((u8 hx 116).1 e) (by rw [h]; decide), if_neg fun e => absurd ((u8 hx 102).1 e) (by rw [h]; decide), if_pos ((u8 hx 110).2 h)]
theorem val_num (hc : l = c :: t) (hx : (c.toNat : Int) = x) (h1 : ¬ x = 123) (h2 : ¬ x = 91) (h3 : ¬ x = 34) (h4 : ¬ x = 116) (h5 : ¬ x = 102) (h6 : ¬ x = 110) : val (k + 1) l = num l := by
  rw [hc, val_cons, if_neg fun e => h1 ((u8 hx 123).1 e), if_neg fun e => h2 ((u8 hx 91).1 e), if_neg fun e => h3 ((u8 hx 34).1 e), if_neg fun e => h4 ((u8 hx 116).1 e), if_neg fun e => h5 ((u8 hx 102).1 e), if_neg fun e => h6 ((u8 hx 110).1 e)]
theorem word_short {w : Tx} (h : l.length < w.length) : word w l = none := by
  unfold word
  rw [if_neg]
  intro e
  have := congrArg List.length e
  rw [List.length_take] at this
  omega
theorem word_yes {w : Tx} (h : l.take w.length = w) : word w l = some (l.drop w.length) := by unfold word; rw [if_pos h]
theorem word_no {w : Tx} (h : ¬ l.take w.length = w) : word w l = none := by unfold word; rw [if_neg h]
theorem quo_none (h : str t = none) : quo t = none := by unfold quo; rw [h]
theorem quo_ctl {a b : Tx} (h : str t = some (a, b)) (h2 : ctl a = true) : quo t = none := by unfold quo; rw [h]; dsimp only; rw [if_pos h2]
theorem quo_some {a b : Tx} (h : str t = some (a, b)) (h2 : ctl a = false) : quo t = some b := by unfold quo; rw [h]; dsimp only; rw [h2, if_neg (by simp)]
end
set_option maxRecDepth 100000 in
set_option maxHeartbeats 8000000 in
theorem valStep (k : Nat) (IH : ValOk k) (s : ByteArray) (w : World) (hk : s.size < k + 1) (hs : s.size ≤ 1000000) (hw : SynAt w) : Calls Tryd.prog 53 #[.string s] w (Post (val (k + 1) (tx s)) w) := by
  have HSY := Lib.hid hw
  have HIH := Lib.hid IH
  clear hw IH
  by_cases h0 : 0 < s.size
  · have hne := sz_ne h0
    have hz_x := bt_at s 0 h0
    have hr_x := bt_range s (0 : Nat)
    obtain ⟨x, hz⟩ : ∃ z, bt s (0 : Nat) = z := ⟨_, rfl⟩
    obtain ⟨c, hc, hcx⟩ := cons_of h0 hz
    rw [hz] at hz_x hr_x
    clear hz
    have HX := Lib.hid hcx
    have HC := Lib.hid hc
    clear hcx hc
    obtain ⟨t, ht⟩ : ∃ t, s.extract 1 s.size = t := ⟨_, rfl⟩
    have HU := Lib.hid (show tx t = (tx s).drop 1 by rw [← ht, tx_ext])
    have hts : t.size < s.size := by rw [← ht, ByteArray.size_extract]; omega
    go_enter Tryd.func53, Tryd.ntmps53
    by_cases h : x = 123
    · skip
      have HE := Lib.hid (show val (k + 1) (tx s) = obj (val k) k (tx t) by rw [HU.out]; exact val_obj HC.out HX.out h)
      subst h
      cases hv : obj (val k) k (tx t) with
      | none =>
        have HV := Lib.hid hv
        have HN := Lib.hid (HE.out.trans hv)
        clear hv
        go_wp2_with (first
          | (go_at_call 67; go_must (refine (objW k HIH.out t _ (by omega) (by omega) HSY.out).mono ?_); rintro e w1 hp; rw [HV.out] at hp; obtain ⟨⟨e1, e2, e3, rfl⟩, hb1⟩ := hp.none_; clear hp)
          | (go_at_call 45; go_must (refine (newW _ _).mono ?_); rintro e w' ⟨⟨et, ev, rfl⟩, hb⟩))
        go_ret2
        exact Post.no' HN.out (below_of hb1 hb) rfl
      | some l =>
        have HV := Lib.hid hv
        have HN := Lib.hid (HE.out.trans hv)
        clear hv
        go_wp2_with (first
          | (go_at_call 67; go_must (refine (objW k HIH.out t _ (by omega) (by omega) HSY.out).mono ?_); rintro e w1 hp; rw [HV.out] at hp; obtain ⟨⟨a, hla, rfl⟩, hb1⟩ := hp.some_; clear hp; replace hla := Lib.hid hla; replace hb1 := Lib.hid hb1))
        go_ret2
        exact Post.yes' (by rw [HN.out, hla.out]) hb1.out rfl
    have h1 := h
    clear h
    by_cases h : x = 91
    · skip
      have HE := Lib.hid (show val (k + 1) (tx s) = arr (val k) k (tx t) by rw [HU.out]; exact val_arr HC.out HX.out h)
      subst h
      cases hv : arr (val k) k (tx t) with
      | none =>
        have HV := Lib.hid hv
        have HN := Lib.hid (HE.out.trans hv)
        clear hv
        go_wp2_with (first
          | (go_at_call 68; go_must (refine (arrW k HIH.out t _ (by omega) (by omega) HSY.out).mono ?_); rintro e w1 hp; rw [HV.out] at hp; obtain ⟨⟨e1, e2, e3, rfl⟩, hb1⟩ := hp.none_; clear hp)
          | (go_at_call 45; go_must (refine (newW _ _).mono ?_); rintro e w' ⟨⟨et, ev, rfl⟩, hb⟩))
        go_ret2
        exact Post.no' HN.out (below_of hb1 hb) rfl
      | some l =>
        have HV := Lib.hid hv
        have HN := Lib.hid (HE.out.trans hv)
        clear hv
        go_wp2_with (first
          | (go_at_call 68; go_must (refine (arrW k HIH.out t _ (by omega) (by omega) HSY.out).mono ?_); rintro e w1 hp; rw [HV.out] at hp; obtain ⟨⟨a, hla, rfl⟩, hb1⟩ := hp.some_; clear hp; replace hla := Lib.hid hla; replace hb1 := Lib.hid hb1))
        go_ret2
        exact Post.yes' (by rw [HN.out, hla.out]) hb1.out rfl
    have h2 := h
    clear h
    by_cases h : x = 34
    · skip
      have HE := Lib.hid (val_quo (k := k) HC.out HX.out h)
      rw [← HU.out] at HE
      subst h
      cases hst : str (tx t) with
      | none =>
        have HST := Lib.hid hst
        have HN := Lib.hid (HE.out.trans (quo_none hst))
        clear hst
        go_wp2_with (first
          | (go_at_call 69; go_must (refine (strW t _ (by omega) HSY.out).mono ?_); rintro e w1 hp; obtain ⟨⟨e0, e1, e2, e3, rfl⟩, hb1⟩ := hp.none_ HST.out; clear hp)
          | (go_at_call 45; go_must (refine (newW _ _).mono ?_); rintro e w' ⟨⟨et, ev, rfl⟩, hb⟩))
        go_ret2
        exact Post.no' HN.out (below_of hb1 hb) rfl
      | some l =>
        have HST0 := Lib.hid hst
        clear hst
        go_upto_block 0 with (first
          | (go_at_call 69; go_must (refine (strW t _ (by omega) HSY.out).mono ?_); rintro e w1 hp; obtain ⟨⟨a, b, hla, rfl⟩, hb1⟩ := hp.some_ HST0.out; clear hp; replace hla := Lib.hid hla; replace hb1 := Lib.hid hb1))
        have HST := Lib.hid hla.out
        have haa := str_le HST.out
        go_cut [63] (fun v63 wx => w1 = wx ∧ ctl (tx a) = false)
        case first =>
          go_wp2_with fail
          go_loopg [63] (a.size) (fun d v63 wx => ∃ i : Nat, v63 = .int .i64 (i : Int) ∧ w1 = wx ∧ i ≤ a.size ∧ a.size - i ≤ d ∧ NoCtl a i)
          case atStart => exact ⟨0, rfl, rfl, by omega, by omega, NoCtl.start a⟩
          case round =>
            obtain ⟨i, rfl, hwx, hi, hd, hno⟩ := hrel
            subst hwx
            have HD := Lib.hid hd
            have HNO := Lib.hid hno
            clear hd hno
            by_cases hlt : i < a.size
            · have hz_p := bt_at a i hlt
              have hr_p := bt_range a (i : Nat)
              obtain ⟨c, -, hcx, hca⟩ := tx_at a i hlt
              obtain ⟨p, hz⟩ : ∃ z, bt a (i : Nat) = z := ⟨_, rfl⟩
              rw [hz] at hz_p hr_p hcx
              clear hz
              have HX := Lib.hid hcx
              have HA := Lib.hid hca
              clear hcx hca
              by_cases h32 : p < 32
              · have HN := Lib.hid (HE.out.trans (quo_ctl HST.out (ctl_yes HA.out HX.out h32)))
                go_wp2_with (first
                  | (go_at_call 45; go_must (refine (newW _ _).mono ?_); rintro e w' ⟨⟨et, ev, rfl⟩, hb⟩))
                go_ret2
                exact Post.no' HN.out (below_of hb1.out hb) rfl
              · have HNO2 := Lib.hid (HNO.out.next HA.out HX.out h32)
                go_wp2
                go_roundg (gk - 1)
                case measure => have := HD.out; omega
                case rel => exact ⟨i + 1, by go_num, rfl, by omega, by have := HD.out; omega, HNO2.out⟩
            · obtain rfl : i = a.size := by omega
              go_wp2
              go_meet
              case rel => exact ⟨rfl, HNO.out.fin⟩
        case rest =>
          obtain ⟨hwx, hct⟩ := hcut
          subst hwx
          have HN := Lib.hid (HE.out.trans (quo_some HST.out hct))
          clear hct
          go_wp2
          go_ret2
          exact Post.yes' HN.out hb1.out rfl
    have h3 := h
    clear h
    by_cases h : x = 116
    · skip
      have HE := Lib.hid (val_t (k := k) HC.out HX.out h)
      subst h
      by_cases hsz : s.size < 4
      · have HN := Lib.hid (HE.out.trans (word_short (by rw [tx_len]; exact hsz)))
        go_wp2_with (first
          | (go_at_call 45; go_must (refine (newW _ _).mono ?_); rintro e w' ⟨⟨et, ev, rfl⟩, hb⟩))
        go_ret2
        exact Post.no' HN.out hb rfl

      obtain ⟨p, hp⟩ : ∃ p, s.extract 0 4 = p := ⟨_, rfl⟩
      have hpt : p.toList = (tx s).take 4 := by rw [← hp, ByteArray.toList_eq]; exact tx_pre s 4
      by_cases hwd : (tx s).take 4 = [116, 114, 117, 101]
      · have hpe : (p.toList == [116, 114, 117, 101]) = true := by rw [hpt, hwd]; rfl
        have HN := Lib.hid (HE.out.trans (word_yes hwd))
        clear hpt hwd
        go_wp2
        go_ret2
        exact Post.yes' (by rw [HN.out, tx_ext]; rfl) (Below.refl _ _) rfl
      · have hpe : (p.toList == [116, 114, 117, 101]) = false := by rw [hpt]; simpa using hwd
        have HN := Lib.hid (HE.out.trans (word_no hwd))
        clear hpt hwd
        go_wp2_with (first
          | (go_at_call 45; go_must (refine (newW _ _).mono ?_); rintro e w' ⟨⟨et, ev, rfl⟩, hb⟩))
        all_goals go_ret2
        all_goals exact Post.no' HN.out hb rfl
    have h4 := h
    clear h
    by_cases h : x = 102
    · skip
      have HE := Lib.hid (val_f (k := k) HC.out HX.out h)
      subst h
      by_cases hsz : s.size < 5
      · have HN := Lib.hid (HE.out.trans (word_short (by rw [tx_len]; exact hsz)))
        go_wp2_with (first
          | (go_at_call 45; go_must (refine (newW _ _).mono ?_); rintro e w' ⟨⟨et, ev, rfl⟩, hb⟩))
        go_ret2
        exact Post.no' HN.out hb rfl

      obtain ⟨p, hp⟩ : ∃ p, s.extract 0 5 = p := ⟨_, rfl⟩
      have hpt : p.toList = (tx s).take 5 := by rw [← hp, ByteArray.toList_eq]; exact tx_pre s 5
      by_cases hwd : (tx s).take 5 = [102, 97, 108, 115, 101]
      · have hpe : (p.toList == [102, 97, 108, 115, 101]) = true := by rw [hpt, hwd]; rfl
        have HN := Lib.hid (HE.out.trans (word_yes hwd))
        clear hpt hwd
        go_wp2
        go_ret2
        exact Post.yes' (by rw [HN.out, tx_ext]; rfl) (Below.refl _ _) rfl
      · have hpe : (p.toList == [102, 97, 108, 115, 101]) = false := by rw [hpt]; simpa using hwd
        have HN := Lib.hid (HE.out.trans (word_no hwd))
        clear hpt hwd
        go_wp2_with (first
          | (go_at_call 45; go_must (refine (newW _ _).mono ?_); rintro e w' ⟨⟨et, ev, rfl⟩, hb⟩))
        all_goals go_ret2
        all_goals exact Post.no' HN.out hb rfl
    have h5 := h
    clear h
    by_cases h : x = 110
    · skip
      have HE := Lib.hid (val_n (k := k) HC.out HX.out h)
      subst h
      by_cases hsz : s.size < 4
      · have HN := Lib.hid (HE.out.trans (word_short (by rw [tx_len]; exact hsz)))
        go_wp2_with (first
          | (go_at_call 45; go_must (refine (newW _ _).mono ?_); rintro e w' ⟨⟨et, ev, rfl⟩, hb⟩))
        go_ret2
        exact Post.no' HN.out hb rfl

      obtain ⟨p, hp⟩ : ∃ p, s.extract 0 4 = p := ⟨_, rfl⟩
      have hpt : p.toList = (tx s).take 4 := by rw [← hp, ByteArray.toList_eq]; exact tx_pre s 4
      by_cases hwd : (tx s).take 4 = [110, 117, 108, 108]
      · have hpe : (p.toList == [110, 117, 108, 108]) = true := by rw [hpt, hwd]; rfl
        have HN := Lib.hid (HE.out.trans (word_yes hwd))
        clear hpt hwd
        go_wp2
        go_ret2
        exact Post.yes' (by rw [HN.out, tx_ext]; rfl) (Below.refl _ _) rfl
      · have hpe : (p.toList == [110, 117, 108, 108]) = false := by rw [hpt]; simpa using hwd
        have HN := Lib.hid (HE.out.trans (word_no hwd))
        clear hpt hwd
        go_wp2_with (first
          | (go_at_call 45; go_must (refine (newW _ _).mono ?_); rintro e w' ⟨⟨et, ev, rfl⟩, hb⟩))
        all_goals go_ret2
        all_goals exact Post.no' HN.out hb rfl
    have h6 := h
    clear h
    have HE := Lib.hid (val_num (k := k) HC.out HX.out h1 h2 h3 h4 h5 h6)
    cases hv : num (tx s) with
    | none =>
      have HV := Lib.hid hv
      have HN := Lib.hid (HE.out.trans hv)
      clear hv
      go_wp2_with (first
        | (go_at_call 70; go_must (refine (numW s _ hs h0).mono ?_); rintro e w1 hp; rw [HV.out] at hp; obtain ⟨⟨e1, e2, e3, rfl⟩, hb1⟩ := hp.none_; clear hp)
        | (go_at_call 45; go_must (refine (newW _ _).mono ?_); rintro e w' ⟨⟨et, ev, rfl⟩, hb⟩))
      go_ret2
      exact Post.no' HN.out (below_of hb1 hb) rfl
    | some l =>
      have HV := Lib.hid hv
      have HN := Lib.hid (HE.out.trans hv)
      clear hv
      go_wp2_with (first
        | (go_at_call 70; go_must (refine (numW s _ hs h0).mono ?_); rintro e w1 hp; rw [HV.out] at hp; obtain ⟨⟨a, hla, rfl⟩, hb1⟩ := hp.some_; clear hp; replace hla := Lib.hid hla; replace hb1 := Lib.hid hb1))
      go_ret2
      exact Post.yes' (by rw [HN.out, hla.out]) hb1.out rfl
  · have hz : s.size = 0 := by omega
    have HN := Lib.hid (show val (k + 1) (tx s) = none by rw [tx_nil hz]; rfl)
    clear h0 hs hk
    go_enter Tryd.func53, Tryd.ntmps53
    go_wp2_with (first
      | (go_at_call 45; go_must (refine (newW _ _).mono ?_); rintro e w' ⟨⟨et, ev, rfl⟩, hb⟩))
    go_ret2
    exact Post.no' HN.out hb rfl
theorem valW : ∀ k, ValOk k
  | 0 => fun s w h _ _ => absurd h (by omega)
  | k + 1 => fun s w h hs hw => valStep k (valW k) s w h hs hw
end Go.Proofs.YtgemkbpilmmajaaDoor.Fc
