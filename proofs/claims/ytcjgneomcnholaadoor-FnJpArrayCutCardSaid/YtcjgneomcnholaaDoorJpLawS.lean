/- FnJpGetStream: the walk of the law. -/
import Derived.Test.YtcjgneomcnholaaDoorJpTold
namespace Go.Proofs.YtcjgneomcnholaaDoor.Jp
open Go.RowKit L
set_option linter.unusedVariables false
set_option linter.unusedSimpArgs false

theorem F4.set3 {w : World} {g : Nat} {v0 v1 v2 v3 : Value} (h : F4 w g v0 v1 v2 v3) (u : Value) : F4 (w.setCell ⟨g, 3, none⟩ u) g v0 v1 v2 u := by
  unfold F4 at h ⊢
  simp [World.setCell, Array.getElem?_modify, h]
theorem jpGetAt (T : Nat → TypeId) (V : Nat → Value) (s r : ByteArray) (x y : Int) (w : World) (hW : Wd T V w) (hs : s.size ≤ 1000000) {d dt k : Nat} (hg : getT false (tx s) = some (d, .ok dt k)) (hr : rawOf s dt d k = r) (hx : (dt : Int) = x) (hy : ((d + k : Nat) : Int) = y) :
    Calls Tryd.prog 18 #[.string s, .slice none 0 0] w fun e w' => e = .returned (.tuple #[.agg #[.string ⟨#[]⟩, .string r, .int .i64 x, .int .i64 y], .bool true]) ∧ Below w.heap.size w w' := by
  subst hr hx hy
  exact jpGetYes T V s w hW hs hg
theorem raw_cut (s : ByteArray) {a b e kd : Nat} (h1 : a ≤ b) (h2 : b < e) (h3 : e ≤ s.size) (hk : kd ≤ 6) (h4 : kd = 4 → b + 2 ≤ e) : rawOf (s.extract a s.size) (jk kd) (b - a) (e - b) = rawAt s kd b e := by
  rw [← rawAt_of s hk (by omega)]
  unfold rawOf
  split
  · rw [ByteArray.extract_extract]
    congr 1 <;> omega
  · rw [ByteArray.extract_extract]
    congr 1 <;> omega
set_option maxRecDepth 100000 in
set_option maxHeartbeats 4000000 in
theorem lawStream (T : Nat → TypeId) (V : Nat → Value) (s : ByteArray) (w : World) (hs0 : s.size ≤ 140737488351232) (hW : Wd T V w) :
    Calls Tryd.prog 5 #[.string s] w fun e w' => e = .returned (.bool true) ∧ Below w.heap.size w w' := by
  have HW := Lib.hid hW
  clear hW
  by_cases hbig : 65536 < s.size
  · go_enter Tryd.func5, Tryd.ntmps5
    go_wp2
    all_goals go_ret
    all_goals exact ⟨rfl, Below.refl _ _⟩
  have hs : s.size ≤ 65536 := by omega
  have hd1 : decide (2147483647 < (s.size : Int)) = false := by simp; omega
  have hd2 : decide (65536 < (s.size : Int)) = false := by simp; omega
  clear hbig hs0
  cases hst : stream s with
  | none =>
    have HST := Lib.hid hst
    clear hst
    go_enter Tryd.func5, Tryd.ntmps5
    go_wp2_with (first
      | (go_at_call 17; refine (streamW s _ (by omega)).mono ?_; rintro e w1 ⟨hb1, ⟨ps, hp, _⟩ | ⟨_, rfl⟩⟩; case inl => exact absurd (HST.out.symm.trans hp) (by simp)); replace hb1 := Lib.hid hb1)
    go_ret
    exact ⟨rfl, hb1.out⟩
  | some ps =>
    have HST := Lib.hid hst
    obtain ⟨qs, hq, hch⟩ := chain_of (by omega) hst
    rw [List.nil_append] at hq
    subst hq
    have HCH := Lib.hid hch
    clear hst hch
    go_enter Tryd.func5, Tryd.ntmps5
    go_upto_block 0 with (first
      | (go_at_call 17; refine (streamW s _ (by omega)).mono ?_; rintro e w1 ⟨hb1, ⟨ps', hp, A, n, c, xs, rfl, hn, hR, hP⟩ | ⟨hp, _⟩⟩; case inr => exact absurd (HST.out.symm.trans hp) (by simp)); obtain rfl : ps = ps' := Option.some.inj (HST.out.symm.trans hp); clear hp; replace hb1 := Lib.hid hb1; replace hn := Lib.hid hn; replace hR := Lib.hid hR; replace hP := Lib.hid hP)
    have HNM := Lib.hid (show n ≤ 9223372036854775807 by have := hR.out.2.1; have := hR.out.2.2.1; simp only [maxLen] at this; omega)
    go_cut [27] (fun v27 wx => Apart ps ∧ Below w1.heap.size w1 wx)
    case first =>
      go_wp2_with (fail)
      go_loopg [27] (n) (fun d v27 wx => ∃ k : Nat, v27 = .int .i64 (k : Int) ∧ k ≤ n ∧ n - k ≤ d ∧ (Apart (ps.drop k) → Apart ps) ∧ Below w1.heap.size w1 wx)
      case atStart => exact ⟨0, rfl, by omega, by omega, id, Below.refl _ _⟩
      case round =>
        obtain ⟨k, rfl, hk, hd, hap, hb⟩ := hrel
        have HAP := Lib.hid hap
        have HD := Lib.hid hd
        have HB := Lib.hid hb
        clear hap hd hb
        have hnm : n ≤ 9223372036854775807 := HNM.out
        by_cases hlt : k < n
        · have hkp : k < ps.length := by rw [← hn.out]; exact hlt
          obtain ⟨p, hp⟩ : ∃ p, ps[k]? = some p := ⟨_, List.getElem?_eq_getElem hkp⟩
          have hRk := hR.out.keep (Keeps.of_below HB.out)
          have hPk := hP.out.keep (Keeps.of_below HB.out)
          obtain ⟨ad, An, cn, Ak, ck, ys, rfl, hlb, -, d0, d1, d2, d3, d4, -, -, -⟩ := rowAt hRk hPk hn.out hp
          obtain ⟨wp, hwp⟩ : ∃ wp, wr.alloc (.cells #[.int .i64 (p.kind : Int), .int .i64 (p.b : Int), .int .i64 (p.e : Int), .slice An p.names.length cn, .slice Ak p.kids.length ck] 27) = wp := ⟨_, rfl⟩
          have hbp : Below wr.heap.size wr wp := by rw [← hwp]; exact below_alloc (Below.refl _ _) _
          have hp5 : B5 wp wr.heap.size (.int .i64 (p.kind : Int)) (.int .i64 (p.b : Int)) (.int .i64 (p.e : Int)) (.slice An p.names.length cn) (.slice Ak p.kids.length ck) := by rw [← hwp]; exact B5.new _ _ _ _ _ _
          have HBP := Lib.hid (below_of HB.out hbp)
          have q0 := hp5.c0
          have q2 := hp5.c2
          clear hp5
          have hdk : ps.drop k = p :: ps.drop (k + 1) := by
            rw [List.drop_eq_getElem_cons hkp]
            rw [List.getElem?_eq_getElem hkp] at hp
            rw [Option.some.inj hp]
          have HDK := Lib.hid hdk
          by_cases hlt2 : k + 1 < n
          · have hkp2 : k + 1 < ps.length := by rw [← hn.out]; exact hlt2
            obtain ⟨q, hq⟩ : ∃ q, ps[k + 1]? = some q := ⟨_, List.getElem?_eq_getElem hkp2⟩
            have hRk2 := hRk.keep (Keeps.of_below hbp)
            have hPk2 := hPk.keep (Keeps.of_below hbp)
            obtain ⟨ad', An', cn', Ak', ck', ys', had, -, -, -, f1, -, -, -, -, -, -⟩ := rowAt hRk2 hPk2 hn.out hq
            injection had with had
            subst had
            have hdk2 : ps.drop (k + 1) = q :: ps.drop (k + 1 + 1) := by
              rw [List.drop_eq_getElem_cons hkp2]
              rw [List.getElem?_eq_getElem hkp2] at hq
              rw [Option.some.inj hq]
            have HDK2 := Lib.hid hdk2
            clear hRk2 hPk2 hRk hPk hdk hdk2 hp hq hbp
            have t1 : decide ((k : Int) + 1 < (n : Int)) = true := by simp; omega
            by_cases hk3 : p.kind ≤ 3
            · have t2 : decide ((p.kind : Int) ≤ 3) = true := by simp; omega
              by_cases heq : q.b = p.e
              · have t3 : ((q.b : Int) == (p.e : Int)) = true := by rw [beq_iff_eq]; omega
                go_wp2
                have e2 : (0 : Int) ≤ (k : Int) + 1 := by omega
                have e3 : (k : Int) + 1 < (n : Int) := by omega
                have e4 : ((k : Int) + 1).toNat = k + 1 := by omega
                have e1 : IntKind.i64.wrap ((k : Int) + 1) = (k : Int) + 1 := IntWalk.i64_in _ (by omega)
                go_quiet (fail)
                clear e1 e2 e3 e4
                go_wp2
                go_ret
                exact ⟨rfl, below_of hb1.out (below_drewN HBP.out _)⟩
              · have t3 : ((q.b : Int) == (p.e : Int)) = false := beq_eq_false_iff_ne.2 (by omega)
                go_wp2
                have e2 : (0 : Int) ≤ (k : Int) + 1 := by omega
                have e3 : (k : Int) + 1 < (n : Int) := by omega
                have e4 : ((k : Int) + 1).toNat = k + 1 := by omega
                have e1 : IntKind.i64.wrap ((k : Int) + 1) = (k : Int) + 1 := IntWalk.i64_in _ (by omega)
                go_quiet (fail)
                clear e1 e2 e3 e4
                go_wp2
                go_roundg (n - (k + 1))
                case measure => have := HD.out; omega
                case rel => exact ⟨k + 1, by go_num, by omega, by omega, fun h => HAP.out (by rw [HDK.out, HDK2.out]; rw [HDK2.out] at h; exact ⟨fun e => heq e.2, h⟩), below_drewN HBP.out _⟩
            · have t2 : decide ((p.kind : Int) ≤ 3) = false := by simp; omega
              go_wp2
              have e1 : IntKind.i64.wrap ((k : Int) + 1) = (k : Int) + 1 := IntWalk.i64_in _ (by omega)
              go_quiet (fail)
              clear e1
              go_wp2
              go_roundg (n - (k + 1))
              case measure => have := HD.out; omega
              case rel => exact ⟨k + 1, by go_num, by omega, by omega, fun h => HAP.out (by rw [HDK.out, HDK2.out]; rw [HDK2.out] at h; exact ⟨fun e => hk3 e.1, h⟩), below_drewN HBP.out _⟩
          · have t1 : decide ((k : Int) + 1 < (n : Int)) = false := by simp; omega
            have HNL := Lib.hid (show ps.drop (k + 1) = [] from List.drop_eq_nil_of_le (by rw [← hn.out]; omega))
            clear hRk hPk hdk hp hbp
            go_wp2
            have e1 : IntKind.i64.wrap ((k : Int) + 1) = (k : Int) + 1 := IntWalk.i64_in _ (by omega)
            go_quiet (fail)
            clear e1
            go_wp2
            go_roundg (n - (k + 1))
            case measure => have := HD.out; omega
            case rel => exact ⟨k + 1, by go_num, by omega, by omega, fun h => HAP.out (by rw [HDK.out, HNL.out]; trivial), below_drewN HBP.out _⟩
        · have HNL := Lib.hid (show ps.drop k = [] from List.drop_eq_nil_of_le (by rw [← hn.out]; omega))
          go_wp2
          go_meet
          case rel => exact ⟨HAP.out (by rw [HNL.out]; trivial), HB.out⟩
    case rest =>
      obtain ⟨hap, hbc⟩ := hcut
      have HAP := Lib.hid hap
      have HBC := Lib.hid hbc
      clear hap hbc
      go_wp2_with (fail)
      go_loopg [7, 56] (n) (fun d v7 v56 wx => ∃ k a : Nat, v7 = .int .i64 (a : Int) ∧ v56 = .int .i64 (k : Int) ∧ k ≤ n ∧ n - k ≤ d ∧ a ≤ s.size ∧ Chain s a (ps.drop k) ∧ Apart (ps.drop k) ∧ Below w1.heap.size w1 wx)
      case atStart => exact ⟨0, 0, rfl, rfl, by omega, by omega, by omega, HCH.out, HAP.out, HBC.out⟩
      case round =>
        obtain ⟨k, a, rfl, rfl, hk, hd, has, hch, hap, hb⟩ := hrel
        have HCK := Lib.hid hch
        have HAK := Lib.hid hap
        have HD := Lib.hid hd
        have HB := Lib.hid hb
        clear hap hd hb hch
        have hnm : n ≤ 9223372036854775807 := HNM.out
        by_cases hlt : k < n
        · have hkp : k < ps.length := by rw [← hn.out]; exact hlt
          obtain ⟨p, hp⟩ : ∃ p, ps[k]? = some p := ⟨_, List.getElem?_eq_getElem hkp⟩
          have hRk := hR.out.keep (Keeps.of_below HB.out)
          have hPk := hP.out.keep (Keeps.of_below HB.out)
          obtain ⟨ad, An, cn, Ak, ck, ys, rfl, hlb, -, d0, d1, d2, d3, d4, -, -, -⟩ := rowAt hRk hPk hn.out hp
          have hdk : ps.drop k = p :: ps.drop (k + 1) := by
            rw [List.drop_eq_getElem_cons hkp]
            rw [List.getElem?_eq_getElem hkp] at hp
            rw [Option.some.inj hp]
          have hch := HCK.out
          have hap := HAK.out
          rw [hdk] at hch hap
          obtain ⟨hg, hab, hbe⟩ := getT_chain false has hch hap
          have hap2 : Apart (ps.drop (k + 1)) := by
            cases hr : ps.drop (k + 1) with
            | nil => trivial
            | cons q qs => rw [hr] at hap; exact hap.2
          obtain ⟨-, hv, -, hes, hch2⟩ := hch
          have hvo := vok _ _ _ _ (skip_top isBlank s has) hv
          have hk6 : p.kind ≤ 6 := hvo.2.2.2.2.2.2.2.2.2
          have h4 : p.kind = 4 → p.b + 2 ≤ p.e := fun h => by
            have h1 := (hvo.2.2.2.2.2.2.2.1 h).2.1
            have h2 := hvo.2.2.2.1
            omega
          have HG := Lib.hid (show getT false (tx (s.extract a s.size)) = some (p.b - a, .ok (jk p.kind) (p.e - p.b)) by rw [tx_ext]; exact hg)
          obtain ⟨r, hr⟩ : ∃ r, rawAt s p.kind p.b p.e = r := ⟨_, rfl⟩
          have HRC := Lib.hid ((raw_cut s hab hbe hes hk6 h4).trans hr)
          have HR := Lib.hid hr
          obtain ⟨x, hx⟩ : ∃ x, ((jk p.kind : Nat) : Int) = x := ⟨_, rfl⟩
          have HX := Lib.hid hx
          have HC2 := Lib.hid hch2
          have HA2 := Lib.hid hap2
          have HES := Lib.hid hes
          have HW1 := Lib.hid (HW.out.below (below_of hb1.out HB.out))
          obtain ⟨wp, hwp⟩ : ∃ wp, wr.alloc (.cells #[.int .i64 (p.kind : Int), .int .i64 (p.b : Int), .int .i64 (p.e : Int), .slice An p.names.length cn, .slice Ak p.kids.length ck] 27) = wp := ⟨_, rfl⟩
          have HBP := Lib.hid (show Below wr.heap.size wr wp by rw [← hwp]; exact below_alloc (Below.refl _ _) _)
          have HP5 := Lib.hid (show B5 wp wr.heap.size (.int .i64 (p.kind : Int)) (.int .i64 (p.b : Int)) (.int .i64 (p.e : Int)) (.slice An p.names.length cn) (.slice Ak p.kids.length ck) by rw [← hwp]; exact B5.new _ _ _ _ _ _)
          clear hRk hPk hp hdk hch2 hap hap2 hg hv hvo hr hx
          go_upto_region 19 with (first
            | (go_at_call 18; refine (jpGetAt T V _ r x ((p.e : Int) - (a : Int)) _ (HW1.out.below HBP.out) (by rw [size_ext]; omega) HG.out HRC.out HX.out (by omega)).mono ?_; rintro e w3 ⟨rfl, hb3⟩; replace hb3 := Lib.hid hb3))
          obtain ⟨wf, hwf⟩ : ∃ wf, w3.alloc (.cells #[.string ⟨#[]⟩, .string r, .int .i64 x, .int .i64 ((p.e : Int) - (a : Int))] 41) = wf := ⟨_, rfl⟩
          rw [hwf]
          have hf4 : F4 wf w3.heap.size (.string ⟨#[]⟩) (.string r) (.int .i64 x) (.int .i64 ((p.e : Int) - (a : Int))) := by rw [← hwf]; exact F4.new _ _ _ _ _
          have HBF := Lib.hid (show Below w3.heap.size w3 wf by rw [← hwf]; exact below_alloc (Below.refl _ _) _)
          have HF4 := Lib.hid hf4
          have q3 := hf4.c3
          have r3 := hf4.f 3
          clear hf4 hwf
          obtain ⟨ws, hws⟩ : ∃ ws, wf.setCell ⟨w3.heap.size, 3, none⟩ (.int .i64 (p.e : Int)) = ws := ⟨_, rfl⟩
          have hfs : F4 ws w3.heap.size (.string ⟨#[]⟩) (.string r) (.int .i64 x) (.int .i64 (p.e : Int)) := by rw [← hws]; exact HF4.out.set3 _
          have hlt3 : wr.heap.size < w3.heap.size := Nat.lt_of_lt_of_le HP5.out.lt hb3.out.size
          have hps : B5 ws wr.heap.size (.int .i64 (p.kind : Int)) (.int .i64 (p.b : Int)) (.int .i64 (p.e : Int)) (.slice An p.names.length cn) (.slice Ak p.kids.length ck) := by
            rw [← hws]
            exact B5.far ((((HBF.out.block _ hlt3).trans (hb3.out.block _ HP5.out.lt)).trans HP5.out : _)) (by show wr.heap.size ≠ w3.heap.size; omega) _
          have HBS := Lib.hid (show Below w3.heap.size w3 ws by rw [← hws]; exact below_set HBF.out (Nat.le_refl _) _)
          have g0 := hfs.c0
          have g1 := hfs.c1
          have g2 := hfs.c2
          have g3 := hfs.c3
          have k0 := hps.c0
          have k1 := hps.c1
          have k2 := hps.c2
          have k3 := hps.c3
          have k4 := hps.c4
          have HFS := Lib.hid hfs
          clear hfs hps
          go_wp2_with (first
            | (go_at_call 19; refine (toldYes s r p.kind p.b p.e x _ _ _ _ (by omega) hbe HES.out h4 hk6 HR.out HX.out.symm).mono ?_; rintro e w5 ⟨rfl, hb5⟩; have g35 := (HFS.out.below hb5).c3; replace hb5 := Lib.hid hb5))
          go_roundg (n - (k + 1))
          case measure => have := HD.out; omega
          case rel => exact ⟨k + 1, p.e, rfl, by go_num, by omega, by omega, HES.out, HC2.out, HA2.out, below_of (below_of (below_of (below_of HB.out HBP.out) hb3.out) HBS.out) hb5.out⟩
        · go_wp2
          go_ret
          exact ⟨rfl, below_of hb1.out HB.out⟩
end Go.Proofs.YtcjgneomcnholaaDoor.Jp
