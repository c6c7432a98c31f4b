/- FnMtSplit: the walk of the law. -/
import Derived.Test.YtmpjkhcddfdboaaDoorMtSplit
namespace Go.Proofs.YtmpjkhcddfdboaaDoor.M
open Go.Lib Go.RowKit
set_option linter.unusedVariables false
set_option linter.unusedSimpArgs false

theorem whole_byte {s : ByteArray} {ks : List (List UInt8)} (h : Txt s ks) {k : Nat} (hk : k < s.size) : (s[k]'hk) = ks.flatten.getD k 0 := by
  rw [← getD_at s k hk, h.2]
theorem ext_whole (s : ByteArray) : s.extract 0 s.size = s := by
  apply ByteArray.ext
  apply Array.ext'
  rw [data_ext, List.drop_zero]
  exact List.take_of_length_le (by simp)
theorem ext_none (s : ByteArray) : s.extract s.size s.size = ⟨#[]⟩ := by
  apply ByteArray.ext
  apply Array.ext'
  rw [data_ext]
  simp
set_option maxRecDepth 100000 in
set_option maxHeartbeats 4000000 in
theorem splitGood (s p q : ByteArray) (ks jp jq : List (List UInt8)) (tp tq : List Gl) (w : World) (hT : Lib.Utf8Tabs 0 1 w) (hs : s.size ≤ 4096) (hp : p.size ≤ 4096) (hq : q.size ≤ 4096) (h1 : Good s p ks jp tp) (h2 : Good s q ks jq tq)
    (ht1 : ∀ w, Calls Tryd.prog 7 #[.string s, .string p] w fun e w' => ∃ f : Bool, e = .returned (.tuple #[.bool f, .bool true]) ∧ Below w.heap.size w w')
    (ht2 : ∀ w, Calls Tryd.prog 7 #[.string s, .string q] w fun e w' => ∃ f : Bool, e = .returned (.tuple #[.bool f, .bool true]) ∧ Below w.heap.size w w') :
    Calls Tryd.prog 4 #[.string s, .string p, .string q] w fun e w' => e = .returned (.bool true) ∧ Below w.heap.size w w' := by
  have hz := h1.1.size
  have HT := Lib.hid hT
  have H1 := Lib.hid h1
  have H2 := Lib.hid h2
  have HT1 := Lib.hid ht1
  have HT2 := Lib.hid ht2
  have HZ := Lib.hid hz
  have HALL := Lib.hid (cutB_all ks tp tq)
  have HM := Lib.hid (show Good s (p ++ q) ks (jp ++ jq) (tp ++ tq) from ⟨h1.1, h1.2.1.app h2.2.1, by rw [parse_app _ jp jq tp (Nat.le_refl _) h1.2.2, h2.2.2]; rfl⟩)
  have hpq : (p ++ q).size = p.size + q.size := ByteArray.size_append
  have HPQ := Lib.hid hpq
  clear hT h1 h2 ht1 ht2 hz hpq
  go_enter Tryd.func4, Tryd.ntmps4
  go_wp2_with fail
  refine (HT1.out w).mono ?_
  rintro e w1 ⟨f1, rfl, hb1⟩
  have HB1 := Lib.hid hb1
  clear hb1
  go_wp2_with fail
  refine (HT2.out w1).mono ?_
  rintro e w2 ⟨f2, rfl, hb2⟩
  have HB2 := Lib.hid (below_of HB1.out hb2)
  clear hb2
  go_wp2_with fail
  go_loopg [11, 12] (s.size + 1) (fun d v11 v12 wr => ∃ k : Nat, v11 = .bool (cutB ks tp tq k) ∧ v12 = .int .i64 (k : Int) ∧ k ≤ s.size + 1 ∧ s.size + 1 - k ≤ d ∧ Below w.heap.size w wr)
  case atStart => exact ⟨0, by rw [cutB_zero], rfl, by omega, by omega, HB2.out⟩
  case round =>
    clear HB1 HB2
    obtain ⟨k, rfl, rfl, hk, hd, hB⟩ := hrel
    have HD := Lib.hid hd
    have HB := Lib.hid hB
    clear hd hB
    by_cases hkl : k ≤ s.size
    · rcases place_of H1.out.1.1 k (by have := HZ.out; omega) with ⟨a, b, hab, hal⟩ | ⟨hlt, hcont⟩
      · have hstep := cutB_step (tp := tp) (tq := tq) H1.out.1.1 hab hal
        obtain ⟨c, hc⟩ : ∃ c, cutB ks tp tq k = c := ⟨_, rfl⟩
        obtain ⟨x, hx⟩ : ∃ x, mtB a tp = x := ⟨_, rfl⟩
        obtain ⟨y, hy⟩ : ∃ y, mtB b tq = y := ⟨_, rfl⟩
        rw [hc, hx, hy] at hstep
        rw [hc]
        have HST := Lib.hid hstep
        have HX := Lib.hid hx
        have HY := Lib.hid hy
        have HL := Lib.hid (show Txt (s.extract 0 k) a by rw [← hal]; exact (show Txt s (a ++ b) by rw [← hab]; exact H1.out.1).left)
        have HR := Lib.hid (show Txt (s.extract k s.size) b by rw [← hal]; exact (show Txt s (a ++ b) by rw [← hab]; exact H1.out.1).right)
        have hsl : (s.extract 0 k).size ≤ 4096 := by rw [ByteArray.size_extract]; omega
        have hsr : (s.extract k s.size).size ≤ 4096 := by rw [ByteArray.size_extract]; omega
        have hbyte : ∀ (h : k < s.size), ((s[k]'h).toNat < 128 ∨ 191 < (s[k]'h).toNat) := fun h => by
          have hn := place_not (a := a) (b := b) (by rw [← hab]; exact H1.out.1.1) (by rw [hal, ← hab]; have := HZ.out; omega)
          rw [hal, ← hab, ← whole_byte H1.out.1 h] at hn
          omega
        have HBY := Lib.hid hbyte
        clear hstep hx hy hc hbyte hab hal
        have test : (k = s.size ∧ ((k : Int) == (s.size : Int)) = true) ∨ ∃ h : k < s.size, ((k : Int) == (s.size : Int)) = false ∧ ((decide (((s[k]'h).toNat : Int) < 128) = true) ∨ (decide (((s[k]'h).toNat : Int) < 128) = false ∧ decide ((191 : Int) < ((s[k]'h).toNat : Int)) = true)) := by
          by_cases he : k = s.size
          · exact .inl ⟨he, beq_yes he⟩
          · right
            have h : k < s.size := by omega
            refine ⟨h, beq_no he, ?_⟩
            rcases HBY.out h with h1 | h1
            · exact .inl (by simp; omega)
            · by_cases h2 : (s[k]'h).toNat < 128
              · exact .inl (by simp; omega)
              · exact .inr ⟨by simp; omega, by simp; omega⟩
        cases c with
        | true =>
          rw [Bool.true_or] at HST
          rcases test with ⟨he, t1⟩ | ⟨hklt, t1, t2 | ⟨t2, t3⟩⟩
          all_goals
            go_wp2_with fail
            go_roundg (gk - 1)
            case measure => have := HD.out; omega
            case rel => exact ⟨k + 1, by rw [HST.out], by go_num, by omega, by have := HD.out; omega, HB.out⟩
        | false =>
          rw [Bool.false_or] at HST
          rcases test with ⟨he, t1⟩ | ⟨hklt, t1, t2 | ⟨t2, t3⟩⟩
          · subst he
            have HL2 := Lib.hid (show Txt s a by have := HL.out; rwa [ext_whole] at this)
            have HR2 := Lib.hid (show Txt (⟨#[]⟩ : ByteArray) b by have := HR.out; rwa [ext_none] at this)
            have hse : (⟨#[]⟩ : ByteArray).size ≤ 4096 := by decide
            go_wp2_with fail
            refine (mtMatch s p a jp tp _ (by omega) (by omega) (tabs_below HT.out HB.out) HL2.out H1.out.2.1 H1.out.2.2).mono ?_
            rw [HX.out]
            rintro e w3 ⟨rfl, hb3⟩
            have HB3 := Lib.hid (below_of HB.out hb3)
            clear hb3
            cases x with
            | false =>
              rw [Bool.false_and] at HST
              go_wp2_with fail
              go_roundg (gk - 1)
              case measure => have := HD.out; omega
              case rel => exact ⟨s.size + 1, by rw [HST.out], by go_num, by omega, by have := HD.out; omega, HB3.out⟩
            | true =>
              rw [Bool.true_and] at HST
              go_wp2_with fail
              refine (mtMatch (⟨#[]⟩ : ByteArray) q b jq tq _ (by omega) (by omega) (tabs_below HT.out HB3.out) HR2.out H2.out.2.1 H2.out.2.2).mono ?_
              rw [HY.out]
              rintro e w4 ⟨rfl, hb4⟩
              have HB4 := Lib.hid (below_of HB3.out hb4)
              clear hb4
              go_wp2_with fail
              go_roundg (gk - 1)
              case measure => have := HD.out; omega
              case rel => exact ⟨s.size + 1, by rw [HST.out], by go_num, by omega, by have := HD.out; omega, HB4.out⟩
          all_goals
            go_wp2_with fail
            refine (mtMatch (s.extract 0 k) p a jp tp _ (by omega) (by omega) (tabs_below HT.out HB.out) HL.out H1.out.2.1 H1.out.2.2).mono ?_
            rw [HX.out]
            rintro e w3 ⟨rfl, hb3⟩
            have HB3 := Lib.hid (below_of HB.out hb3)
            clear hb3
            cases x with
            | false =>
              rw [Bool.false_and] at HST
              go_wp2_with fail
              go_roundg (gk - 1)
              case measure => have := HD.out; omega
              case rel => exact ⟨k + 1, by rw [HST.out], by go_num, by omega, by have := HD.out; omega, HB3.out⟩
            | true =>
              rw [Bool.true_and] at HST
              go_wp2_with fail
              refine (mtMatch (s.extract k s.size) q b jq tq _ (by omega) (by omega) (tabs_below HT.out HB3.out) HR.out H2.out.2.1 H2.out.2.2).mono ?_
              rw [HY.out]
              rintro e w4 ⟨rfl, hb4⟩
              have HB4 := Lib.hid (below_of HB3.out hb4)
              clear hb4
              go_wp2_with fail
              go_roundg (gk - 1)
              case measure => have := HD.out; omega
              case rel => exact ⟨k + 1, by rw [HST.out], by go_num, by omega, by have := HD.out; omega, HB4.out⟩
      · have hklt : k < s.size := by have := HZ.out; omega
        rw [← whole_byte H1.out.1 hklt] at hcont
        have hsk := cutB_skip (tp := tp) (tq := tq) (k := k) (ks := ks) (by
          rintro ⟨a, b, hab, hal⟩
          have hn := place_not (a := a) (b := b) (by rw [← hab]; exact H1.out.1.1) (by rw [hal, ← hab]; exact hlt)
          rw [hal, ← hab, ← whole_byte H1.out.1 hklt] at hn
          exact hn hcont)
        have HSK := Lib.hid hsk
        have t1 : ((k : Int) == (s.size : Int)) = false := beq_no (by omega)
        have t2 : decide (((s[k]'hklt).toNat : Int) < 128) = false := by simp; omega
        have t3 : decide ((191 : Int) < ((s[k]'hklt).toNat : Int)) = false := by simp; omega
        clear hsk hlt hcont
        go_wp2_with fail
        go_roundg (gk - 1)
        case measure => have := HD.out; omega
        case rel => exact ⟨k + 1, by rw [HSK.out], by go_num, by omega, by have := HD.out; omega, HB.out⟩
    · obtain rfl : k = s.size + 1 := by omega
      have hce : cutB ks tp tq (s.size + 1) = mtB ks (tp ++ tq) := by rw [HZ.out]; exact HALL.out
      rw [hce]
      clear hce
      go_wp2_with fail
      refine (matchesW s (p ++ q) ks (jp ++ jq) (tp ++ tq) _ (by omega) (by rw [HPQ.out]; omega) HM.out).mono ?_
      rintro e w3 ⟨rfl, hb3⟩
      have HB3 := Lib.hid (below_of HB.out hb3)
      clear hb3
      obtain ⟨r, hr⟩ : ∃ r, mtB ks (tp ++ tq) = r := ⟨_, rfl⟩
      rw [hr]
      clear hr
      cases r
      all_goals
        go_wp2_with fail
        go_ret
        exact ⟨rfl, HB3.out⟩
set_option maxHeartbeats 1000000 in
theorem lawS (s p q : ByteArray) (w : World) (hs : s.size ≤ 140737488351232) (hp : p.size ≤ 140737488351232) (hq : q.size ≤ 140737488351232) (hT : Lib.Utf8Tabs 0 1 w) :
    Calls Tryd.prog 4 #[.string s, .string p, .string q] w fun e w' => e = .returned (.bool true) ∧ Below w.heap.size w w' := by
  by_cases hbig : 2147483647 < s.size
  · clear hT
    go_enter Tryd.func4, Tryd.ntmps4
    go_wp2
    go_ret
    exact ⟨rfl, Below.refl _ _⟩
  by_cases hbig2 : 2147483647 < p.size
  · clear hT
    go_enter Tryd.func4, Tryd.ntmps4
    go_wp2
    go_ret
    exact ⟨rfl, Below.refl _ _⟩
  by_cases hbig3 : 2147483647 < q.size
  · clear hT
    go_enter Tryd.func4, Tryd.ntmps4
    go_wp2
    go_ret
    exact ⟨rfl, Below.refl _ _⟩
  by_cases hg : (s.size ≤ 4096 ∧ p.size ≤ 4096 ∧ ∃ ks js ts, Good s p ks js ts) ∧ (s.size ≤ 4096 ∧ q.size ≤ 4096 ∧ ∃ ks js ts, Good s q ks js ts)
  · obtain ⟨⟨hs4, hp4, ks, jp, tp, h1⟩, _, hq4, ks2, jq, tq, h2⟩ := hg
    have := h1.1.uniq h2.1
    subst this
    exact splitGood s p q ks jp jq tp tq w hT hs4 hp4 hq4 h1 h2 (fun w => told_yes s p ks jp tp w hs4 hp4 h1) (fun w => told_yes s q ks jq tq w hs4 hq4 h2)
  · have HG := Lib.hid hg
    clear hT hg
    go_enter Tryd.func4, Tryd.ntmps4
    go_wp2_with fail
    refine (toldW s p w).mono ?_
    rintro e w1 ⟨⟨f1, g1, rfl, hg1⟩, hb1⟩
    have HB1 := Lib.hid hb1
    have HG1 := Lib.hid hg1
    clear hb1 hg1
    go_wp2_with fail
    refine (toldW s q w1).mono ?_
    rintro e w2 ⟨⟨f2, g2, rfl, hg2⟩, hb2⟩
    have HB2 := Lib.hid (below_of HB1.out hb2)
    have HG2 := Lib.hid hg2
    clear hb2 hg2
    cases g1 with
    | false =>
      go_wp2_with fail
      go_ret
      exact ⟨rfl, HB2.out⟩
    | true =>
      cases g2 with
      | false =>
        go_wp2_with fail
        go_ret
        exact ⟨rfl, HB2.out⟩
      | true => exact absurd ⟨HG1.out rfl, HG2.out rfl⟩ HG.out
end Go.Proofs.YtmpjkhcddfdboaaDoor.M
