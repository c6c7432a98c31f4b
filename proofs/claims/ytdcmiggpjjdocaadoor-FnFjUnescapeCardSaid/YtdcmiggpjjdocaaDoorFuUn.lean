/- The walk of fastjson's unescapeStringBestEffort over a string's inside. -/
import Derived.Test.YtdcmiggpjjdocaaDoorFuS
import Derived.Test.YtdcmiggpjjdocaaDoorFuN
import Derived.Deep.CutBlock
import Derived.Deep.DeepCutAuto
namespace Go.Proofs.YtdcmiggpjjdocaaDoor.L
open Go.RowKit
set_option linter.unusedVariables false
set_option linter.unusedSimpArgs false

/-- Where the unescaping stands: written so far, and still to come. -/
structure FuAt (t tot : ByteArray) (base : Nat) (w0 : World) (i : Nat) (v : Value) (wr : World) : Prop where
  ex : ∃ x, OwnF wr base v x ∧ x ++ strOfNums (unq t i) = tot ∧ x.size ≤ i
  ok : EscOk t i
  pr : PairOk t i
  bel : Below base w0 wr
  sz : base ≤ wr.heap.size
theorem FuAt.app {t tot : ByteArray} {base i j : Nat} {w0 wr w' : World} {v v' : Value} {x : ByteArray} {l : List Int} (hO : OwnF wr base v x) (ht : x ++ strOfNums (unq t i) = tot) (hx : x.size ≤ i)
    (hu : unq t i = l ++ unq t j) (hl : x.size + l.length ≤ j) (hO' : OwnF w' base v' (x ++ strOfNums l)) (hB : Below base w0 w') (hb : base ≤ w'.heap.size) (hok : EscOk t j) (hpr : PairOk t j) : FuAt t tot base w0 j v' w' :=
  ⟨⟨x ++ strOfNums l, hO', by rw [ByteArray.append_assoc, ← sON_append, ← hu]; exact ht, by rw [ByteArray.size_append, strOfNums_size]; exact hl⟩, hok, hpr, hB, hb⟩
theorem ext_ext (t : ByteArray) (p a : Nat) (b : Nat) (h : p ≤ t.size) (hb : p + b ≤ t.size) : (t.extract p t.size).extract a b = t.extract (p + a) (p + b) := by
  refine eq_of_bt (by rw [size_ext, size_ext, size_ext]; omega) fun k hk => ?_
  rw [size_ext, size_ext] at hk
  rw [bt_ext _ _ _ _ (by omega) (by rw [size_ext, size_ext]; omega), bt_ext _ _ _ _ (by omega) (by rw [size_ext]; omega), bt_ext _ _ _ _ (by omega) (by rw [size_ext]; omega)]
  congr 1
  omega
theorem bt_tail (t : ByteArray) (p k : Nat) (h : p + k < t.size) : bt (t.extract p t.size) (k : Nat) = bt t (p + k : Nat) := by
  rw [bt_ext _ _ _ _ (by omega) (by rw [size_ext]; omega)]
  congr 1
theorem tail_none {t r : ByteArray} {j : Nat} (hr : t.extract j t.size = r) (hj : j ≤ t.size) (h : ∀ k : Nat, bt r (k : Nat) ≠ 92) : strOfNums (unq t j) = r := by
  rw [unq_run (s := t) (i := j) (j := t.size) rfl hj (Nat.le_refl _) (fun k h1 h2 e => h (k - j) (by
    rw [← hr, bt_tail t j (k - j) (by omega), show j + (k - j) = k by omega]; exact e)), unq_out (Nat.le_refl _), hr]
  have : strOfNums [] = ByteArray.empty := rfl
  rw [this, ByteArray.append_empty]
theorem tail_at {t r : ByteArray} {j n : Nat} (hr : t.extract j t.size = r) (hj : j ≤ t.size) (hn : n < r.size) (h92 : bt r (n : Nat) = 92) (hf : ∀ k : Nat, k < n → bt r (k : Nat) ≠ 92) :
    strOfNums (unq t j) = r.extract 0 n ++ strOfNums (unq t (j + n)) ∧ bt t ((j + n : Nat) : Int) = 92 ∧ (EscOk t j → EscOk t (j + n)) ∧ (PairOk t j → PairOk t (j + n)) ∧ r.extract (n + 1) r.size = t.extract (j + n + 1) t.size ∧ j + n < t.size := by
  have hz : r.size = t.size - j := by rw [← hr, size_ext]; omega
  have hall : ∀ k : Nat, j ≤ k → k < j + n → bt t (k : Nat) ≠ 92 := fun k h1 h2 e => hf (k - j) (by omega) (by
    rw [← hr, bt_tail t j (k - j) (by omega), show j + (k - j) = k by omega]; exact e)
  refine ⟨?_, ?_, EscOk.run rfl (by omega) (by omega) hall, PairOk.run rfl (by omega) (by omega) hall, ?_, by omega⟩
  · rw [unq_run (s := t) (i := j) (j := j + n) rfl (by omega) (by omega) hall, ← hr, ext_ext t j 0 n hj (by omega), Nat.add_zero]
  · rw [← bt_tail t j n (by omega), hr]; exact h92
  · rw [hz, ← hr, ext_ext t j (n + 1) (t.size - j) hj (by omega), show j + (n + 1) = j + n + 1 by omega, show j + (t.size - j) = t.size by omega]
theorem EscOk.letter {s : ByteArray} {i : Nat} (h : EscOk s i) (hi : i < s.size) (h92 : bt s (i : Nat) = 92) (hu : unitB s i = none) :
    bt s ((i + 1 : Nat) : Int) = 34 ∨ bt s ((i + 1 : Nat) : Int) = 92 ∨ bt s ((i + 1 : Nat) : Int) = 47 ∨ bt s ((i + 1 : Nat) : Int) = 98 ∨ bt s ((i + 1 : Nat) : Int) = 102 ∨ bt s ((i + 1 : Nat) : Int) = 110 ∨ bt s ((i + 1 : Nat) : Int) = 114 ∨ bt s ((i + 1 : Nat) : Int) = 116 := by
  cases h with
  | done => omega
  | plain _ hc => exact absurd h92 hc
  | esc _ _ he hn =>
    unfold escAt at he
    split at he
    · rename_i h; exact h
    · split at he
      · rename_i h117
        split at he
        · rename_i hh
          exfalso
          unfold unitB at hu
          rw [if_pos ⟨h92, h117, by unfold hex4; rw [hh.1, hh.2.1, hh.2.2.1, hh.2.2.2]; rfl⟩] at hu
          cases hu
        · cases he
      · cases he

set_option maxRecDepth 100000 in
set_option maxHeartbeats 16000000 in
theorem fuW (t : ByteArray) (w : World) (hs : t.size ≤ 1000000) (ho : EscOk t 0) (hp : PairOk t 0) :
    Calls Tryd.prog 29 #[.string t] w fun e w' => e = .returned (.string (strOfNums (unq t 0))) ∧ Below w.heap.size w w' := by
  obtain ⟨tot, htot⟩ : ∃ tot, strOfNums (unq t 0) = tot := ⟨_, rfl⟩
  rw [htot]
  rcases idx92 t with ⟨hi, hno⟩ | ⟨n, hi, hnl, hn92, hf⟩
  · have HI := Lib.hid hi
    have HT := Lib.hid (show t = tot by
      rw [← htot, unq_run (s := t) (i := 0) (j := t.size) rfl (by omega) (Nat.le_refl _) (fun k _ _ => hno k), unq_out (Nat.le_refl _)]
      have : strOfNums [] = ByteArray.empty := rfl
      rw [this, ByteArray.append_empty]
      exact (ext_all t).symm)
    clear hi hno htot ho hp
    go_enter Tryd.func29, Tryd.ntmps29
    go_wp2_with (first
      | (go_at_call 33; go_must (refine (idxF t (-1) _ HI.out).mono ?_); rintro e w' ⟨rfl, rfl⟩))
    go_ret
    exact ⟨by rw [← HT.out]; rfl, Below.refl _ _⟩
  · have HI := Lib.hid hi
    have hcap := grownCap_ge w t.size 0 5
    have hb0 := bytesWorld_below w 5 t
    have HO0 := Lib.hid (ownF_bytes w t n (by omega) (by omega))
    have HT0 := Lib.hid (show t.extract 0 n ++ strOfNums (unq t n) = tot by rw [← htot]; exact (unq_run (s := t) (i := 0) (j := n) rfl (by omega) (by omega) (fun k _ h => hf k h)).symm)
    have HK0 := Lib.hid (EscOk.run (s := t) (i := 0) (j := n) rfl (by omega) (by omega) (fun k _ h => hf k h) ho)
    have HP0 := Lib.hid (PairOk.run (s := t) (i := 0) (j := n) rfl (by omega) (by omega) (fun k _ h => hf k h) hp)
    have HB0 := Lib.hid hb0
    have HN92 := Lib.hid hn92
    obtain ⟨cap, hc⟩ : ∃ cap, grownCap w t.size 0 5 = cap := ⟨_, rfl⟩
    obtain ⟨wb, hwb⟩ : ∃ wb, Lib.bytesWorld w 5 t = wb := ⟨_, rfl⟩
    have HCW := Lib.hid (show ∀ w', w' = Lib.bytesWorld w 5 t → w' = wb from fun w' h => h.trans hwb)
    rw [hc] at hcap HO0
    rw [hwb] at HO0 HB0
    have HC := Lib.hid hc
    clear hi hf htot ho hp hb0 hn92 hc hwb
    go_enter Tryd.func29, Tryd.ntmps29
    go_wp2_with (first
      | (go_at_call 33; go_must (refine (idxF t (n : Int) _ HI.out).mono ?_); rintro e w' ⟨rfl, rfl⟩)
      | (go_at_call 34; go_must (refine (s2bW t _).mono ?_); rw [HC.out]; rintro e w' ⟨rfl, hw⟩; obtain rfl := HCW.out _ hw; clear hw))
    go_loopg [0, 4] t.size (fun d v0 v4 wr => ∃ p : Nat, v0 = .string (t.extract (p + 1) t.size) ∧ p < t.size ∧ bt t (p : Nat) = 92 ∧ t.size - p ≤ d ∧ FuAt t tot w.heap.size w p v4 wr)
    case atStart => exact ⟨n, by go_num, hnl, HN92.out, by omega, ⟨_, HO0.out, HT0.out, by rw [size_ext]; omega⟩, HK0.out, HP0.out, HB0.out, HB0.out.size⟩
    case round =>
      obtain ⟨p, rfl, hpl, h92, hd, hF⟩ := hrel
      have HD := Lib.hid hd
      obtain ⟨⟨x, hO, ht, hxp⟩, hok, hpr, hB, hsz⟩ := hF
      have HO := Lib.hid hO
      have HT := Lib.hid ht
      have HOK := Lib.hid hok
      have HPR := Lib.hid hpr
      have HB := Lib.hid hB
      have H92 := Lib.hid h92
      obtain ⟨u, hu⟩ : ∃ u, t.extract (p + 1) t.size = u := ⟨_, rfl⟩
      have huz : u.size = t.size - (p + 1) := by rw [← hu, size_ext]; omega
      have HU := Lib.hid hu
      rw [hu]
      have hp1 : p + 1 < t.size := by
        cases hok with
        | done => omega
        | plain _ h => exact absurd h92 h
        | esc _ _ he => have := escAt_step he; omega
      have HUZ := Lib.hid huz
      have hu0 : 0 < u.size := by omega
      have hum : u.size ≤ 1000000 := by omega
      have x0 : ∀ h : 0 < u.size, ((u[0]'h).toNat : Int) = bt u (0 : Nat) := bt_at u 0
      have hb0 := bt_tail t (p + 1) 0 (by omega)
      have hr := bt_range u ((0 : Nat) : Int)
      rw [hu] at hb0
      clear hd hO ht hok hpr hB h92 hu huz
      have hu1z : t.size - (p + 2) < 1000000 := by omega
      obtain ⟨u1, e1⟩ : ∃ u1, u.extract 1 u.size = u1 := ⟨_, rfl⟩
      have H1 := Lib.hid (show u1 = t.extract (p + 2) t.size by rw [← e1, HUZ.out, ← HU.out, ext_ext t (p + 1) 1 _ (by omega) (by omega), show p + 1 + (t.size - (p + 1)) = t.size by omega])
      have H1Z := Lib.hid (show u1.size = t.size - (p + 2) by rw [H1.out, size_ext]; omega)
      obtain ⟨c, hc⟩ : ∃ c, bt t ((p + 1 : Nat) : Int) = c := ⟨_, rfl⟩
      rw [hb0, Nat.add_zero, hc] at x0
      rw [hb0, Nat.add_zero, hc] at hr
      have HC1 := Lib.hid hc
      clear hb0 hc
      obtain ⟨hr0, hr1⟩ := hr
      go_upto_block 2 with (fail)
      clear e1
      go_cut [0, 4] (fun v0 v4 wx => ∃ j : Nat, v0 = .string (t.extract j t.size) ∧ p < j ∧ FuAt t tot w.heap.size w j v4 wx)
      case first =>
        clear x0
        cases hun : unitB t p with
        | none =>
          have hl := HOK.out.letter hpl H92.out hun
          have HQ := Lib.hid (unq_short hpl H92.out hun)
          have HK2 := Lib.hid (HOK.out.two hpl H92.out hun).1
          have HP2 := Lib.hid (HPR.out.two hpl H92.out hun)
          rw [HC1.out] at hl
          clear hun

          rcases hl with rfl | rfl | rfl | rfl | rfl | rfl | rfl | rfl
          · have HQ2 := Lib.hid (show unq t p = [34] ++ unq t (p + 2) by rw [HQ.out, HC1.out]; rfl)
            go_wp2_with (first
              | (at_builtin; go_must (refine app_rdF _ rfl (.tmp 39) (.tmp 40) rfl w.heap.size _ x (strOfNums [34]) _ 1 1 rfl rfl (by rw [strOfNums_size]; rfl) (HO.out.alloc _) (rd_lit _ 5 [34] (by simp)) (by rw [strOfNums_size]; simp; omega) (by simp; omega) ?_); intro v' w' hO' hg'))
            go_meet
            case rel => exact ⟨p + 2, by rw [H1.out], by omega, FuAt.app HO.out HT.out hxp HQ2.out (by simp; omega) hO' ((HB.out.alloc hsz _).grown hg' (by simp; omega) (fun j hj => (HO.out.block j hj).1)) (by have := hg'.size; simp at this; omega) HK2.out HP2.out⟩
          · have HQ2 := Lib.hid (show unq t p = [92] ++ unq t (p + 2) by rw [HQ.out, HC1.out]; rfl)
            go_wp2_with (first
              | (at_builtin; go_must (refine app_rdF _ rfl (.tmp 44) (.tmp 45) rfl w.heap.size _ x (strOfNums [92]) _ 1 1 rfl rfl (by rw [strOfNums_size]; rfl) (HO.out.alloc _) (rd_lit _ 5 [92] (by simp)) (by rw [strOfNums_size]; simp; omega) (by simp; omega) ?_); intro v' w' hO' hg'))
            go_meet
            case rel => exact ⟨p + 2, by rw [H1.out], by omega, FuAt.app HO.out HT.out hxp HQ2.out (by simp; omega) hO' ((HB.out.alloc hsz _).grown hg' (by simp; omega) (fun j hj => (HO.out.block j hj).1)) (by have := hg'.size; simp at this; omega) HK2.out HP2.out⟩
          · have HQ2 := Lib.hid (show unq t p = [47] ++ unq t (p + 2) by rw [HQ.out, HC1.out]; rfl)
            go_wp2_with (first
              | (at_builtin; go_must (refine app_rdF _ rfl (.tmp 49) (.tmp 50) rfl w.heap.size _ x (strOfNums [47]) _ 1 1 rfl rfl (by rw [strOfNums_size]; rfl) (HO.out.alloc _) (rd_lit _ 5 [47] (by simp)) (by rw [strOfNums_size]; simp; omega) (by simp; omega) ?_); intro v' w' hO' hg'))
            go_meet
            case rel => exact ⟨p + 2, by rw [H1.out], by omega, FuAt.app HO.out HT.out hxp HQ2.out (by simp; omega) hO' ((HB.out.alloc hsz _).grown hg' (by simp; omega) (fun j hj => (HO.out.block j hj).1)) (by have := hg'.size; simp at this; omega) HK2.out HP2.out⟩
          · have HQ2 := Lib.hid (show unq t p = [8] ++ unq t (p + 2) by rw [HQ.out, HC1.out]; rfl)
            go_wp2_with (first
              | (at_builtin; go_must (refine app_rdF _ rfl (.tmp 54) (.tmp 55) rfl w.heap.size _ x (strOfNums [8]) _ 1 1 rfl rfl (by rw [strOfNums_size]; rfl) (HO.out.alloc _) (rd_lit _ 5 [8] (by simp)) (by rw [strOfNums_size]; simp; omega) (by simp; omega) ?_); intro v' w' hO' hg'))
            go_meet
            case rel => exact ⟨p + 2, by rw [H1.out], by omega, FuAt.app HO.out HT.out hxp HQ2.out (by simp; omega) hO' ((HB.out.alloc hsz _).grown hg' (by simp; omega) (fun j hj => (HO.out.block j hj).1)) (by have := hg'.size; simp at this; omega) HK2.out HP2.out⟩
          · have HQ2 := Lib.hid (show unq t p = [12] ++ unq t (p + 2) by rw [HQ.out, HC1.out]; rfl)
            go_wp2_with (first
              | (at_builtin; go_must (refine app_rdF _ rfl (.tmp 59) (.tmp 60) rfl w.heap.size _ x (strOfNums [12]) _ 1 1 rfl rfl (by rw [strOfNums_size]; rfl) (HO.out.alloc _) (rd_lit _ 5 [12] (by simp)) (by rw [strOfNums_size]; simp; omega) (by simp; omega) ?_); intro v' w' hO' hg'))
            go_meet
            case rel => exact ⟨p + 2, by rw [H1.out], by omega, FuAt.app HO.out HT.out hxp HQ2.out (by simp; omega) hO' ((HB.out.alloc hsz _).grown hg' (by simp; omega) (fun j hj => (HO.out.block j hj).1)) (by have := hg'.size; simp at this; omega) HK2.out HP2.out⟩
          · have HQ2 := Lib.hid (show unq t p = [10] ++ unq t (p + 2) by rw [HQ.out, HC1.out]; rfl)
            go_wp2_with (first
              | (at_builtin; go_must (refine app_rdF _ rfl (.tmp 64) (.tmp 65) rfl w.heap.size _ x (strOfNums [10]) _ 1 1 rfl rfl (by rw [strOfNums_size]; rfl) (HO.out.alloc _) (rd_lit _ 5 [10] (by simp)) (by rw [strOfNums_size]; simp; omega) (by simp; omega) ?_); intro v' w' hO' hg'))
            go_meet
            case rel => exact ⟨p + 2, by rw [H1.out], by omega, FuAt.app HO.out HT.out hxp HQ2.out (by simp; omega) hO' ((HB.out.alloc hsz _).grown hg' (by simp; omega) (fun j hj => (HO.out.block j hj).1)) (by have := hg'.size; simp at this; omega) HK2.out HP2.out⟩
          · have HQ2 := Lib.hid (show unq t p = [13] ++ unq t (p + 2) by rw [HQ.out, HC1.out]; rfl)
            go_wp2_with (first
              | (at_builtin; go_must (refine app_rdF _ rfl (.tmp 69) (.tmp 70) rfl w.heap.size _ x (strOfNums [13]) _ 1 1 rfl rfl (by rw [strOfNums_size]; rfl) (HO.out.alloc _) (rd_lit _ 5 [13] (by simp)) (by rw [strOfNums_size]; simp; omega) (by simp; omega) ?_); intro v' w' hO' hg'))
            go_meet
            case rel => exact ⟨p + 2, by rw [H1.out], by omega, FuAt.app HO.out HT.out hxp HQ2.out (by simp; omega) hO' ((HB.out.alloc hsz _).grown hg' (by simp; omega) (fun j hj => (HO.out.block j hj).1)) (by have := hg'.size; simp at this; omega) HK2.out HP2.out⟩
          · have HQ2 := Lib.hid (show unq t p = [9] ++ unq t (p + 2) by rw [HQ.out, HC1.out]; rfl)
            go_wp2_with (first
              | (at_builtin; go_must (refine app_rdF _ rfl (.tmp 74) (.tmp 75) rfl w.heap.size _ x (strOfNums [9]) _ 1 1 rfl rfl (by rw [strOfNums_size]; rfl) (HO.out.alloc _) (rd_lit _ 5 [9] (by simp)) (by rw [strOfNums_size]; simp; omega) (by simp; omega) ?_); intro v' w' hO' hg'))
            go_meet
            case rel => exact ⟨p + 2, by rw [H1.out], by omega, FuAt.app HO.out HT.out hxp HQ2.out (by simp; omega) hO' ((HB.out.alloc hsz _).grown hg' (by simp; omega) (fun j hj => (HO.out.block j hj).1)) (by have := hg'.size; simp at this; omega) HK2.out HP2.out⟩
        | some n =>
          obtain ⟨-, h117, hh4, hnq, n0, n1, h6⟩ := unit_some hun
          obtain rfl : 117 = c := h117.symm.trans HC1.out
          obtain ⟨xs, ex⟩ : ∃ xs, u1.extract 0 4 = xs := ⟨_, rfl⟩
          have hxt : xs = t.extract (p + 2) (p + 2 + 4) := by rw [← ex, H1.out, ext_ext t (p + 2) 0 4 (by omega) (by omega), Nat.add_zero]
          obtain ⟨hx1, hx2⟩ := hex_tie hh4 (by omega)
          rw [← hxt] at hx1 hx2
          have HXZ := Lib.hid (show xs.size = 4 by rw [hxt, size_ext]; omega)
          have HX1 := Lib.hid hx1
          have HX2 := Lib.hid (hx2.trans hnq.symm)
          obtain ⟨u2, e2⟩ : ∃ u2, u1.extract 4 u1.size = u2 := ⟨_, rfl⟩
          have H2 := Lib.hid (show u2 = t.extract (p + 6) t.size by rw [← e2, H1Z.out, H1.out, ext_ext t (p + 2) 4 _ (by omega) (by omega), show p + 2 + (t.size - (p + 2)) = t.size by omega])
          have hu1l : 4 ≤ u1.size := by rw [H1Z.out]; omega
          have hu1m : u1.size ≤ 1000000 := by rw [H1Z.out]; omega
          have HUN := Lib.hid hun
          clear h117 hh4 hnq hxt hx1 hx2
          rcases HPR.out.unit hun with ⟨hhi, hlo, hpr6⟩ | ⟨hhi, m, hum2, hlo, hpr12⟩
          · have HQ := Lib.hid (unq_one hpl hun (fun m hm => by rw [hhi]; rfl))
            have HK6 := Lib.hid (HOK.out.six hun)
            have HP6 := Lib.hid hpr6
            have HHI := Lib.hid hhi
            have HLO := Lib.hid hlo
            have HE := Lib.hid (enc_utf n0 (by omega) hhi hlo)
            have HUL := Lib.hid (utfB_len n)
            clear hun hhi hlo hpr6
            go_wp2_with (first
              | (go_at_call 35; (with_reducible refine (parseQ xs n _ HXZ.out HX1.out HX2.out).mono ?_); rintro e w1 ⟨rfl, hb1⟩; replace hb1 := Lib.hid hb1)
              | (go_at_call 36; go_must (refine (surrNo n HHI.out HLO.out _).mono ?_); rintro e w2 ⟨rfl, rfl⟩)
              | (at_builtin; go_must (refine app_strF _ rfl (.tmp 101) (.tmp 104) rfl w.heap.size _ x (strOfNums (utfB n)) rfl (by rw [← HE.out]; rfl) (HO.out.below hb1.out) (by rw [strOfNums_size]; have := HUL.out; omega) (by have := hb1.out.size; omega) ?_); intro v' w' hO' hg'))
            go_meet
            case rel => exact ⟨p + 6, by rw [H2.out], by omega, FuAt.app HO.out HT.out hxp HQ.out (by have := HUL.out; omega) hO' ((below_step HB.out hb1.out).grown hg' (by have := hb1.out.size; omega) (fun j hj => ((HO.out.below hb1.out).block j hj).1)) (by have := hg'.size; have := hb1.out.size; omega) HK6.out HP6.out⟩
          · obtain ⟨k92, k117, kh4, kq, m0, m1, k12⟩ := unit_some hum2
            have HQ := Lib.hid (unq_pair hpl hun hum2 hhi hlo)
            have HK12 := Lib.hid ((HOK.out.six hun).six hum2)
            have HP12 := Lib.hid hpr12
            have HHI := Lib.hid hhi
            have HLO := Lib.hid hlo
            obtain ⟨ys, ey⟩ : ∃ ys, u2.extract 2 6 = ys := ⟨_, rfl⟩
            have hyt : ys = t.extract (p + 6 + 2) (p + 6 + 2 + 4) := by rw [← ey, H2.out, ext_ext t (p + 6) 2 6 (by omega) (by omega)]
            obtain ⟨hy1, hy2⟩ := hex_tie kh4 (by omega)
            rw [← hyt] at hy1 hy2
            have HYZ := Lib.hid (show ys.size = 4 by rw [hyt, size_ext]; omega)
            have HY1 := Lib.hid hy1
            have HY2 := Lib.hid (hy2.trans kq.symm)
            have H2Z := Lib.hid (show u2.size = t.size - (p + 6) by rw [H2.out, size_ext]; omega)
            obtain ⟨u3, e3⟩ : ∃ u3, u2.extract 6 u2.size = u3 := ⟨_, rfl⟩
            have H3 := Lib.hid (show u3 = t.extract (p + 12) t.size by rw [← e3, H2Z.out, H2.out, ext_ext t (p + 6) 6 _ (by omega) (by omega), show p + 6 + (t.size - (p + 6)) = t.size by omega])
            have hu2l : 6 ≤ u2.size := by rw [H2Z.out]; omega
            have hu2m : u2.size ≤ 1000000 := by rw [H2Z.out]; omega
            have y0 : ∀ h : 0 < u2.size, ((u2[0]'h).toNat : Int) = 92 := fun h => by
              rw [bt_at u2 0 h, H2.out]
              exact (bt_tail t (p + 6) 0 (by omega)).trans k92
            have y1 : ∀ h : 1 < u2.size, ((u2[1]'h).toNat : Int) = 117 := fun h => by
              rw [bt_at u2 1 h, H2.out]
              exact (bt_tail t (p + 6) 1 (by omega)).trans k117
            have hnn : 55296 ≤ n ∧ n ≤ 56319 := by unfold highI at hhi; simpa using hhi
            have hmm : 56320 ≤ m ∧ m ≤ 57343 := by unfold lowI at hlo; simpa using hlo
            obtain ⟨na, nb⟩ := hnn
            obtain ⟨ma, mb⟩ := hmm
            obtain ⟨z, hz⟩ : ∃ z, z = 65536 + (n - 55296) * 1024 + (m - 56320) := ⟨_, rfl⟩
            have hz0 : 65536 ≤ z := by omega
            have hz1 : z ≤ 1114111 := by omega
            have HZ := Lib.hid hz
            have HQ2 := Lib.hid (show unq t p = utfB z ++ unq t (p + 12) by rw [HQ.out, hz])
            have HE := Lib.hid (enc_utf (r := z) (by omega) hz1 (by unfold highI; simp; omega) (by unfold lowI; simp; omega))
            have HUL := Lib.hid (utfB_len z)
            clear hun hum2 hhi hlo hpr12 k92 k117 kh4 kq hyt hy1 hy2 hz
            go_wp2_with (first
              | (go_at_call 35; (with_reducible refine (parseQ xs n _ HXZ.out HX1.out HX2.out).mono ?_); rintro e w1 ⟨rfl, hb1⟩; replace hb1 := Lib.hid hb1)
              | (go_at_call 36; go_must (refine (surrYes n na (by omega) _).mono ?_); rintro e w2 ⟨rfl, rfl⟩)
              | (go_at_call 35; (with_reducible refine (parseQ ys m _ HYZ.out HY1.out HY2.out).mono ?_); rintro e w3 ⟨rfl, hb3⟩; replace hb3 := Lib.hid hb3)
              | (go_at_call 37; go_must (refine (decW n m z HHI.out HLO.out HZ.out _).mono ?_); rintro e w4 ⟨rfl, rfl⟩)
              | (at_builtin; go_must (refine app_strF _ rfl (.tmp 142) (.tmp 144) rfl w.heap.size _ x (strOfNums (utfB z)) rfl (by rw [← HE.out]; rfl) ((HO.out.below hb1.out).below hb3.out) (by rw [strOfNums_size]; have := HUL.out; omega) (by have := hb1.out.size; have := hb3.out.size; omega) ?_); intro v' w' hO' hg'))
            go_meet
            case rel => exact ⟨p + 12, by rw [H3.out], by omega, FuAt.app HO.out HT.out hxp HQ2.out (by have := HUL.out; omega) hO' ((below_step (below_step HB.out hb1.out) hb3.out).grown hg' (by have := hb1.out.size; have := hb3.out.size; omega) (fun j hj => (((HO.out.below hb1.out).below hb3.out).block j hj).1)) (by have := hg'.size; have := hb1.out.size; have := hb3.out.size; omega) HK12.out HP12.out⟩
      case rest =>
        obtain ⟨j, rfl, hpj, hF⟩ := hcut
        obtain ⟨⟨y, hO2, ht2, hyj⟩, hok2, hpr2, hB2, hsz2⟩ := hF
        have hjl := hok2.le
        have HO2 := Lib.hid hO2
        have HT2 := Lib.hid ht2
        have HB2 := Lib.hid hB2
        obtain ⟨r, hr⟩ : ∃ r, t.extract j t.size = r := ⟨_, rfl⟩
        have hrz : r.size ≤ 1000000 := by rw [← hr, size_ext]; omega
        rw [hr]
        clear x0 hO2 ht2 hB2 H1 HO HT HB
        rcases idx92 r with ⟨hi, hno⟩ | ⟨k, hi, hkl, hk92, hf⟩
        · have HI2 := Lib.hid hi
          have HF := Lib.hid (show y ++ r = tot by rw [← HT2.out, tail_none hr hjl hno])
          have HRZ := Lib.hid (show r.size ≤ 1000000 from hrz)
          clear hi hno hr hok2 hpr2
          go_wp2_with (first
            | (go_at_call 33; go_must (refine (idxF r (-1) _ HI2.out).mono ?_); rintro e w' ⟨rfl, rfl⟩)
            | (at_builtin; go_must (refine app_strF _ rfl (.tmp 152) (.tmp 153) rfl w.heap.size _ y r rfl rfl HO2.out (by omega) hsz2 ?_); intro v' w' hO' hg'; rw [HF.out] at hO'; replace hO' := Lib.hid hO')
            | (go_at_call 21; go_must (refine (b2sW w.heap.size _ tot _ hO'.out).mono ?_); rintro e w5 ⟨rfl, rfl⟩))
          go_ret
          exact ⟨rfl, HB2.out.grown hg' hsz2 (fun j hj => (HO2.out.block j hj).1)⟩
        · obtain ⟨q1, q2, q3, q4, q5, q6⟩ := tail_at hr hjl hkl hk92 hf
          have HI2 := Lib.hid hi
          have HF := Lib.hid (show (y ++ r.extract 0 k) ++ strOfNums (unq t (j + k)) = tot by rw [← HT2.out, q1, ByteArray.append_assoc])
          have HQ2 := Lib.hid q2
          have HQ3 := Lib.hid (q3 hok2)
          have HQ4 := Lib.hid (q4 hpr2)
          have HQ5 := Lib.hid q5
          have hkz : (r.extract 0 k).size ≤ k := by rw [size_ext]; omega
          clear hi hf hk92 hr hok2 hpr2 q1 q2 q3 q4 q5
          go_wp2_with (first
            | (go_at_call 33; go_must (refine (idxF r (k : Int) _ HI2.out).mono ?_); rintro e w' ⟨rfl, rfl⟩)
            | (at_builtin; go_must (refine app_strF _ rfl (.tmp 155) (.tmp 158) rfl w.heap.size _ y (r.extract 0 k) rfl rfl HO2.out (by omega) hsz2 ?_); intro v' w' hO' hg'; replace hO' := Lib.hid hO'))
          go_roundg (gk - 1)
          case measure => have := HD.out; omega
          case rel => exact ⟨j + k, by rw [HQ5.out], q6, HQ2.out, by have := HD.out; omega, ⟨_, hO'.out, HF.out, by rw [ByteArray.size_append]; omega⟩, HQ3.out, HQ4.out, HB2.out.grown hg' hsz2 (fun j hj => (HO2.out.block j hj).1), by have := hg'.size; omega⟩

end Go.Proofs.YtdcmiggpjjdocaaDoor.L
