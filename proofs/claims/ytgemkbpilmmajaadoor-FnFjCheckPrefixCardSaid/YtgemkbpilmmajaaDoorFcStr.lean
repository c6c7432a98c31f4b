/- The walks of validateString and validateKey. -/
import Derived.Test.YtgemkbpilmmajaaDoorFcRaw
namespace Go.Proofs.YtgemkbpilmmajaaDoor.Fc
open Go.RowKit L
set_option linter.unusedVariables false
set_option linter.unusedSimpArgs false
set_option linter.unusedSectionVars false

theorem hexAll_tx {s : ByteArray} (h : s.size = 4) : hexAll s = hex4 (tx s) := by
  obtain ⟨c0, h0, x0, -⟩ := tx_at s 0 (by omega)
  obtain ⟨c1, h1, x1, -⟩ := tx_at s 1 (by omega)
  obtain ⟨c2, h2, x2, -⟩ := tx_at s 2 (by omega)
  obtain ⟨c3, h3, x3, -⟩ := tx_at s 3 (by omega)
  have h4 : (tx s).drop 4 = [] := List.drop_eq_nil_of_le (by rw [tx_len]; omega)
  rw [List.drop_zero] at h0
  rw [h0, show 0 + 1 = 1 from rfl, h1, show 1 + 1 = 2 from rfl, h2, show 2 + 1 = 3 from rfl, h3, show 3 + 1 = 4 from rfl, h4]
  unfold hexAll hex4
  simp only [List.all_cons, List.all_nil, Bool.and_true, hexC, x0, x1, x2, x3, Bool.and_assoc]
  rfl
theorem no_bsl {l : Tx} (h : ∀ k : Nat, l[k]? ≠ some 92) : bsl l = 0 := by
  rcases List.eq_nil_or_concat l with rfl | ⟨a, c, rfl⟩
  · rfl
  · rw [List.concat_eq_append] at h ⊢
    rw [bsl_snoc, if_neg]
    rintro rfl
    exact h a.length (by simp)
theorem dw_none : ∀ {l : Tx}, (∀ k : Nat, l[k]? ≠ some 92) → l.dropWhile (· != 92) = []
  | [], _ => rfl
  | a :: l, h => by
    have ha : a ≠ 92 := fun e => h 0 (by rw [e]; rfl)
    rw [List.dropWhile_cons_of_pos (by simpa using ha)]
    exact dw_none fun k => by simpa using h (k + 1)
theorem dw_at : ∀ {l : Tx} {n : Nat}, l[n]? = some 92 → (∀ k : Nat, k < n → l[k]? ≠ some 92) → l.dropWhile (· != 92) = l.drop n
  | [], n, h, _ => by simp at h
  | a :: l, 0, h, _ => by
    simp only [List.getElem?_cons_zero, Option.some.injEq] at h
    subst h
    rfl
  | a :: l, n + 1, h, hf => by
    have ha : a ≠ 92 := fun e => hf 0 (by omega) (by rw [e]; rfl)
    rw [List.dropWhile_cons_of_pos (by simpa using ha), List.drop_succ_cons]
    exact dw_at (by simpa using h) fun k hk => by simpa using hf (k + 1) (by omega)
theorem strV_plain {l : Tx} (h : ∀ k : Nat, l[k]? ≠ some 92) : strV l = some l := by
  unfold strV
  simp only [escs]
  rw [dw_none h]
theorem escs_done {k : Nat} {l : Tx} (h : ∀ k : Nat, l[k]? ≠ some 92) : escs hex4 (k + 1) l = some l := by
  simp only [escs]
  rw [dw_none h]
theorem escs_one {k n : Nat} {l : Tx} (h : l[n]? = some 92) (hf : ∀ k : Nat, k < n → l[k]? ≠ some 92) (hn : l.length = n + 1) : escs hex4 (k + 1) l = none := by
  have hl : n < l.length := by omega
  simp only [escs]
  rw [dw_at h hf, List.drop_eq_getElem_cons hl, List.drop_eq_nil_of_le (by omega)]
theorem escs_at {k n : Nat} {l r : Tx} {c : UInt8} (h : l[n]? = some 92) (hf : ∀ k : Nat, k < n → l[k]? ≠ some 92) (hn : l.drop (n + 1) = c :: r) :
    escs hex4 (k + 1) l = if simple c then escs hex4 k r else if c = 117 then (if r.length < 4 then none else if hex4 (r.take 4) then escs hex4 k (r.drop 4) else none) else none := by
  have hl : n < l.length := by
    rw [List.getElem?_eq_some_iff] at h
    exact h.1
  simp only [escs]
  rw [dw_at h hf, List.drop_eq_getElem_cons hl, hn]
theorem simple_iff {c : UInt8} {x : Int} (h : (c.toNat : Int) = x) : simple c = true ↔ x = 34 ∨ x = 92 ∨ x = 47 ∨ x = 98 ∨ x = 102 ∨ x = 110 ∨ x = 114 ∨ x = 116 := by
  unfold simple
  simp only [Bool.or_eq_true, beq_iff_eq, u8 h, or_assoc]
  rfl
theorem str_none {l : Tx} (h : rawEnd l = none) : str l = none := by unfold str; rw [h]
theorem str_bad {l : Tx} {n : Nat} (h : rawEnd l = some n) (h2 : strV (l.take n) = none) : str l = none := by unfold str; rw [h]; dsimp only; rw [h2]
theorem str_some {l a : Tx} {n : Nat} (h : rawEnd l = some n) (h2 : strV (l.take n) = some a) : str l = some (a, l.drop (n + 1)) := by unfold str; rw [h]; dsimp only; rw [h2]
/-- What validateString answers. -/
def SPost (l : Tx) (w : World) (e : Ending) (w' : World) : Prop :=
  ((∃ a b, str l = some (tx a, tx b) ∧ e = .returned (.tuple #[.string a, .string b, .nilIface])) ∨
    (str l = none ∧ ∃ a b t v, e = .returned (.tuple #[.string a, .string b, .iface t v]))) ∧ Below w.heap.size w w'
theorem SPost.no {l : Tx} {w w' : World} {e : Ending} {a b : ByteArray} {t : TypeId} {v : Value} (h : str l = none) (hb : Below w.heap.size w w') (he : e = .returned (.tuple #[.string a, .string b, .iface t v])) : SPost l w e w' :=
  ⟨.inr ⟨h, _, _, _, _, he⟩, hb⟩
theorem SPost.yes {l : Tx} {w w' : World} {e : Ending} {a b : ByteArray} (h : str l = some (tx a, tx b)) (hw : Below w.heap.size w w') (he : e = .returned (.tuple #[.string a, .string b, .nilIface])) : SPost l w e w' :=
  ⟨.inl ⟨a, b, h, he⟩, hw⟩
set_option maxRecDepth 100000 in
set_option maxHeartbeats 8000000 in
theorem strW (s : ByteArray) (w : World) (hs : s.size ≤ 1000000) (hw : SynAt w) : Calls Tryd.prog 69 #[.string s] w (SPost (tx s) w) := by
  have HSY := Lib.hid hw
  clear hw
  -- the fast way
  by_cases hfast : ∃ n : Nat, FQ s n ∧ ∀ k : Nat, ((tx s).take n)[k]? ≠ some 92
  · obtain ⟨n, hF, hno⟩ := hfast
    have hnl := hF.lt
    have HI := Lib.hid (show Lib.indexByte (tx s) (34 : Int).toNat.toUInt8 = (n : Int) by
      rcases idx_cases (tx s) 34 with ⟨-, hn⟩ | ⟨m, h, hq, hf⟩
      · exact absurd hF.1 (hn n)
      · have : m = n := by
          rcases Nat.lt_trichotomy m n with h1 | h1 | h1
          · exact absurd hq (hF.2 m h1)
          · exact h1
          · exact absurd hF.1 (hf n h1)
        rw [← this]; exact h)
    obtain ⟨q, hq⟩ : ∃ q, s.extract 0 n = q := ⟨_, rfl⟩
    have hqt : tx q = (tx s).take n := by rw [← hq, tx_pre]
    have HI2 := Lib.hid (show Lib.indexByte (tx q) (92 : Int).toNat.toUInt8 = -1 by
      rcases idx_cases (tx q) 92 with ⟨h, -⟩ | ⟨m, -, h, -⟩
      · exact h
      · rw [hqt] at h; exact absurd h (hno m))
    have HN := Lib.hid (show str (tx s) = some (tx q, tx (s.extract (n + 1) s.size)) by
      rw [tx_ext, hqt]
      have := rs_end (RS.start s) hF (by rw [no_bsl hno])
      rw [Nat.zero_add] at this
      exact str_some this (strV_plain hno))
    clear hF hno hqt
    go_enter Tryd.func69, Tryd.ntmps69
    go_wp2_with (first
      | (go_at_call 63; (refine (idxW s 34 (n : Int) _ HI.out).mono ?_); rintro e w' ⟨rfl, rfl⟩)
      | (go_at_call 63; (refine (idxW q 92 (-1) _ HI2.out).mono ?_); rintro e w' ⟨rfl, rfl⟩))
    go_quiet (fail)
    go_wp2
    go_ret3
    exact SPost.yes HN.out ⟨rfl, rfl, rfl, Nat.le_refl _, fun _ _ => rfl⟩ rfl
  · obtain ⟨z, hz⟩ : ∃ z, Lib.indexByte (tx s) (34 : Int).toNat.toUInt8 = z := ⟨_, rfl⟩
    have HI := Lib.hid hz
    go_enter Tryd.func69, Tryd.ntmps69
    go_upto_region 2 with (first
      | (go_at_call 63; go_must (refine (idxW s 34 z _ HI.out).mono ?_); rintro e w' ⟨rfl, rfl⟩))
    go_cut [24] (fun v24 wx => v24 = .bool false ∧ w = wx)
    case first =>
      rcases idx_cases (tx s) 34 with ⟨h, hn⟩ | ⟨n, h, hq, hf⟩
      · obtain rfl : z = -1 := hz.symm.trans h
        clear h hn hfast hz
        go_wp2
        go_meet
        case rel => exact ⟨rfl, rfl⟩
      · obtain rfl : z = (n : Int) := hz.symm.trans h
        have hF : FQ s n := ⟨hq, hf⟩
        have hnl := hF.lt
        obtain ⟨q, hq⟩ : ∃ q, s.extract 0 n = q := ⟨_, rfl⟩
        have hqt : tx q = (tx s).take n := by rw [← hq, tx_pre]
        rcases idx_cases (tx q) 92 with ⟨h2, hn2⟩ | ⟨m, h2, hq2, hf2⟩
        · exact absurd ⟨n, hF, fun k => by rw [← hqt]; exact hn2 k⟩ hfast
        · have HI2 := Lib.hid h2
          clear h h2 hq2 hf2 hF hf hfast hqt hz
          go_wp2_with (first
            | (go_at_call 63; (refine (idxW q 92 (m : Int) _ HI2.out).mono ?_); rintro e w' ⟨rfl, rfl⟩))
          go_meet
          case rel => exact ⟨rfl, rfl⟩
    case rest =>
      obtain ⟨rfl, hwx⟩ := hcut
      subst hwx
      clear hz
      clear hfast
      cases hre : rawEnd (tx s) with
      | none =>
        have HRE := Lib.hid hre
        have HN := Lib.hid (str_none hre)
        clear hre
        go_wp2_with (first
          | (go_at_call 89; go_must (refine (rawW s _ hs).mono ?_); rintro e w' ⟨⟨n, a, b, hn, -⟩ | ⟨-, a, b, t, v, rfl⟩, hb⟩; case inl => exact absurd (HRE.out.symm.trans hn) (by simp)))
        go_ret3
        exact SPost.no HN.out hb rfl
      | some n =>
        have HRE := Lib.hid hre
        have hnl := rawEnd_lt hre
        rw [tx_len] at hnl
        clear hre
        go_wp2_with (first
          | (go_at_call 89; go_must (refine (rawW s _ hs).mono ?_); rintro e w' ⟨⟨n', a, b, hn, rfl, ha, hb2⟩ | ⟨hn, -⟩, hb⟩; (case inr => exact absurd (HRE.out.symm.trans hn) (by simp)); obtain rfl := Option.some.inj (HRE.out.symm.trans hn); replace ha := Lib.hid ha; replace hb2 := Lib.hid hb2; replace hb := Lib.hid hb; clear hn))
        have has : a.size ≤ s.size := by
          have := congrArg List.length ha.out
          rw [tx_len, List.length_take, tx_len] at this
          omega
        have HB2 := Lib.hid (show tx b = (tx s).drop (n + 1) from hb2.out)
        have HRA := Lib.hid (show strV (tx a) = strV ((tx s).take n) by rw [ha.out])
        go_loopg [6] (s.size + 1) (fun d v6 wx => ∃ (r : ByteArray) (k : Nat), v6 = .string r ∧ escs hex4 k (tx r) = strV ((tx s).take n) ∧ r.size < k ∧ r.size < d ∧ r.size ≤ s.size ∧ Below w.heap.size w wx ∧ SynAt wx)
        case atStart => exact ⟨a, a.size + 1, rfl, by rw [← HRA.out]; unfold strV; rw [tx_len], by omega, by omega, has, hb.out, HSY.out.below hb.out⟩
        case round =>
          obtain ⟨r, k, rfl, hk, hrk, hrd, hrs, hbw, hsy⟩ := hrel
          have HK := Lib.hid hk
          have HRD := Lib.hid hrd
          have HBW := Lib.hid hbw
          have HSW := Lib.hid hsy
          obtain ⟨k, rfl⟩ : ∃ j, k = j + 1 := ⟨k - 1, by omega⟩
          clear hk hrd hbw hsy
          rcases idx_cases (tx r) 92 with ⟨h, hn⟩ | ⟨m, h, hq, hf⟩
          · have HI := Lib.hid h
            have HN := Lib.hid (show str (tx s) = some (tx r, tx b) by rw [HB2.out]; exact str_some HRE.out (by rw [← HK.out, escs_done hn]))
            clear h hn
            go_wp2_with (first
              | (go_at_call 63; go_must (refine (idxW r 92 (-1) _ HI.out).mono ?_); rintro e w' ⟨rfl, rfl⟩))
            go_ret3
            exact SPost.yes HN.out HBW.out rfl
          · have HI := Lib.hid h
            have HQ := Lib.hid hq
            have HF := Lib.hid hf
            have hml : m < r.size := by
              rw [List.getElem?_eq_some_iff] at hq
              obtain ⟨h1, -⟩ := hq
              rwa [tx_len] at h1
            clear h hq hf
            by_cases hend : m + 1 = r.size
            · have hge : decide ((r.size : Int) ≤ (m : Int) + 1) = true := by simp; omega
              have HN := Lib.hid (str_bad HRE.out (by rw [← HK.out, escs_one HQ.out HF.out (by rw [tx_len]; omega)]))
              clear hend
              go_wp2_with (first
                | (go_at_call 63; go_must (refine (idxW r 92 (m : Int) _ HI.out).mono ?_); rintro e w' ⟨rfl, rfl⟩)
                | (go_at_call 45; go_must (refine (newW _ _).mono ?_); rintro e w' ⟨⟨et, ev, rfl⟩, hb⟩))
              go_ret3
              exact SPost.no HN.out (below_of HBW.out hb) rfl
            · have hlt : m + 1 < r.size := by omega
              have hz_x := bt_at r (m + 1) (by omega)
              have hr_x := bt_range r ((m + 1 : Nat) : Int)
              obtain ⟨c, hc, hcx, -⟩ := tx_at r (m + 1) (by omega)
              obtain ⟨x, hz⟩ : ∃ z, bt r ((m + 1 : Nat) : Int) = z := ⟨_, rfl⟩
              rw [hz] at hz_x hr_x hcx
              clear hz hend
              have HX := Lib.hid hcx
              have HE := Lib.hid (escs_at (k := k) HQ.out HF.out hc)
              clear hcx hc
              obtain ⟨u, hu⟩ : ∃ u, r.extract (m + 1 + 1) r.size = u := ⟨_, rfl⟩
              have HU := Lib.hid (show tx u = (tx r).drop (m + 1 + 1) by rw [← hu, tx_ext])
              have hus : u.size < r.size := by rw [← hu, ByteArray.size_extract]; omega
              go_upto_block 2 with (first
                | (go_at_call 63; go_must (refine (idxW r 92 (m : Int) _ HI.out).mono ?_); rintro e w' ⟨rfl, rfl⟩))
              simp only [hu]
              by_cases hsi : x = 34 ∨ x = 92 ∨ x = 47 ∨ x = 98 ∨ x = 102 ∨ x = 110 ∨ x = 114 ∨ x = 116
              · have HE2 := Lib.hid (show escs hex4 k (tx u) = strV ((tx s).take n) by rw [← HK.out, HE.out, if_pos ((simple_iff HX.out).2 hsi), HU.out])
                rcases hsi with rfl | rfl | rfl | rfl | rfl | rfl | rfl | rfl
                all_goals
                  go_wp2
                  go_roundg (gk - 1)
                  case measure => have := HRD.out; omega
                  case rel => exact ⟨u, k, rfl, HE2.out, by omega, by have := HRD.out; omega, by omega, HBW.out, HSW.out⟩
              · have HSI := Lib.hid (show ¬ simple c = true from fun e => hsi ((simple_iff HX.out).1 e))
                by_cases h117 : x = 117
                · have HE2 := Lib.hid (HE.out.trans ((if_neg HSI.out).trans (if_pos ((u8 HX.out 117).2 h117))))
                  subst h117
                  clear hsi
                  by_cases h4 : u.size < 4
                  · have HN := Lib.hid (str_bad HRE.out (by rw [← HK.out, HE2.out, if_pos (by rw [← HU.out, tx_len]; exact h4)]))
                    go_wp2_with (first
                      | (go_at_call 45; go_must (refine (newW _ _).mono ?_); rintro e w' ⟨⟨et, ev, rfl⟩, hb⟩))
                    go_ret3
                    exact SPost.no HN.out (below_of HBW.out hb) rfl
                  · obtain ⟨xs, hxs⟩ : ∃ xs, u.extract 0 4 = xs := ⟨_, rfl⟩
                    obtain ⟨y, hy⟩ : ∃ y, u.extract 4 u.size = y := ⟨_, rfl⟩
                    have HXS := Lib.hid (show tx xs = (tx u).take 4 by rw [← hxs, tx_pre])
                    have HY := Lib.hid (show tx y = (tx u).drop 4 by rw [← hy, tx_ext])
                    have HXZ := Lib.hid (show xs.size = 4 by rw [← hxs, ByteArray.size_extract]; omega)
                    have hyz : y.size < u.size := by rw [← hy, ByteArray.size_extract]; omega
                    have HE3 := Lib.hid (show escs hex4 (k + 1) (tx r) = if hexAll xs = true then escs hex4 k (tx y) else none by
                      rw [HE2.out, if_neg (by rw [← HU.out, tx_len]; exact h4), ← HU.out, ← HXS.out, ← HY.out, hexAll_tx HXZ.out])
                    cases hx : hexAll xs with
                    | true =>
                      have HXA := Lib.hid hx
                      have HE4 := Lib.hid (show escs hex4 k (tx y) = strV ((tx s).take n) by rw [← HK.out, HE3.out, if_pos hx])
                      clear hx
                      go_wp2_with (first
                        | (go_at_call 47; go_must (refine (parse16 xs _ HXZ.out (fun _ => HSW.out)).mono ?_); rintro e w' ⟨⟨-, rfl⟩ | ⟨hno, -⟩, hb⟩; (case inr => exact absurd HXA.out (by rw [hno]; simp)); replace hb := Lib.hid hb))
                      go_roundg (gk - 1)
                      case measure => have := HRD.out; omega
                      case rel => exact ⟨y, k, rfl, HE4.out, by omega, by have := HRD.out; omega, by omega, below_of HBW.out hb.out, HSW.out.below hb.out⟩
                    | false =>
                      have HXA := Lib.hid hx
                      have HN := Lib.hid (str_bad HRE.out (by rw [← HK.out, HE3.out, if_neg (by rw [hx]; simp)]))
                      clear hx
                      go_wp2_with (first
                        | (go_at_call 47; go_must (refine (parse16 xs _ HXZ.out (fun _ => HSW.out)).mono ?_); rintro e w' ⟨⟨hno, -⟩ | ⟨-, pt, pv, rfl⟩, hb⟩; (case inl => exact absurd hno (by rw [HXA.out]; simp)); replace hb := Lib.hid hb)
                        | (go_at_call 45; go_must (refine (newW _ _).mono ?_); rintro e w'' ⟨⟨et, ev, rfl⟩, hb9⟩))
                      go_ret3
                      exact SPost.no HN.out (below_of (below_of HBW.out hb.out) hb9) rfl
                · have HN := Lib.hid (str_bad HRE.out (by rw [← HK.out, HE.out, if_neg HSI.out, if_neg fun e => h117 ((u8 HX.out 117).1 e)]))
                  obtain ⟨s1, s2, s3, s4, s5, s6, s7, s8⟩ : ¬ x = 34 ∧ ¬ x = 92 ∧ ¬ x = 47 ∧ ¬ x = 98 ∧ ¬ x = 102 ∧ ¬ x = 110 ∧ ¬ x = 114 ∧ ¬ x = 116 := by omega
                  clear hsi
                  go_wp2_with (first
                    | (go_at_call 45; go_must (refine (newW _ _).mono ?_); rintro e w' ⟨⟨et, ev, rfl⟩, hb⟩))
                  go_ret3
                  exact SPost.no HN.out (below_of HBW.out hb) rfl
end Go.Proofs.YtgemkbpilmmajaaDoor.Fc
