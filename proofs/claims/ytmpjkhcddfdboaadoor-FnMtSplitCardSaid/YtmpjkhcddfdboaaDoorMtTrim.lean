/- The walk of matchTrimSuffix. -/
import Derived.Test.YtmpjkhcddfdboaaDoorMtTrimP
import Derived.Test.YtmpjkhcddfdboaaDoorShelf
import Derived.WalkKit
import Derived.Below
import Derived.Lib.Hide
import Derived.Outline
import Derived.Laws.BitsLemmas
import Derived.BigQuiet
import Derived.Deep.QuietTactic
import Derived.Deep.LoopGhost
import Derived.Deep.DeepMust
import Derived.Deep.DeepCutAuto
import Derived.Deep.CutBlock
namespace Go.Proofs.YtmpjkhcddfdboaaDoor.M
open Go.Lib Go.RowKit
set_option linter.unusedVariables false
set_option linter.unusedSimpArgs false

theorem below_of {w w1 w2 : World} (h : Below w.heap.size w w1) (k : Below w1.heap.size w1 w2) : Below w.heap.size w w2 :=
  h.trans ⟨k.os, k.tape, k.output, k.size, fun i hi => k.block i (Nat.lt_of_lt_of_le hi h.size)⟩
theorem and1 (i : Nat) (h : i < 2147483648) : bits .and .i64 (i : Int) 1 = ((i % 2 : Nat) : Int) := by
  have := bits_mask .i64 31 (by decide) (fun n h0 h1 => by rw [IntKind.wrap_i64]; omega) 1 (by decide) (i : Int) (by omega) (by omega)
  rw [show ((2 : Int) ^ 1 - 1) = 1 from rfl, show ((2 : Int) ^ 1) = 2 from rfl] at this
  rw [this]; omega
theorem beq_yes {a b : Nat} (h : a = b) : ((a : Int) == (b : Int)) = true := by simp [h]
theorem beq_no {a b : Nat} (h : ¬ a = b) : ((a : Int) == (b : Int)) = false := by simp; omega
theorem bne_yes {a b : Nat} (h : ¬ a = b) : ((a : Int) != (b : Int)) = true := by simp; omega
theorem bne_no {a b : Nat} (h : a = b) : ((a : Int) != (b : Int)) = false := by simp [h]
theorem getD_at (s : ByteArray) (m : Nat) (h : m < s.size) : s.data.toList.getD m 0 = s[m] := by
  rw [List.getD_eq_getElem?_getD, List.getElem?_eq_getElem (by simpa using h)]; rfl

/-- What matchTrimSuffix answers. -/
def TrimPost (ks : List (List UInt8)) (T : List Gl) (S P : Nat) (w : World) (e : Ending) (w' : World) : Prop :=
  Below w.heap.size w w' ∧ ∃ (s' p' : ByteArray) (b : Bool), e = .returned (.tuple #[.string s', .string p', .bool b]) ∧ (b = true → TrimI ks T P s' p' ∧ s'.size ≤ S) ∧ (b = false → ¬ Fit (ks.map ch) (.star :: T))
theorem TrimPost.yes {ks : List (List UInt8)} {T : List Gl} {S P : Nat} {w : World} {e : Ending} {w' : World} {s' p' : ByteArray} (hb : Below w.heap.size w w') (he : e = .returned (.tuple #[.string s', .string p', .bool true])) (hI : TrimI ks T P s' p') (hs : s'.size ≤ S) : TrimPost ks T S P w e w' :=
  ⟨hb, s', p', true, he, fun _ => ⟨hI, hs⟩, fun h => (by cases h)⟩
theorem TrimPost.no {ks : List (List UInt8)} {T : List Gl} {S P : Nat} {w : World} {e : Ending} {w' : World} {s' p' : ByteArray} (hb : Below w.heap.size w w') (he : e = .returned (.tuple #[.string s', .string p', .bool false])) (hn : ¬ Fit (ks.map ch) (.star :: T)) : TrimPost ks T S P w e w' :=
  ⟨hb, s', p', false, he, fun h => (by cases h), fun _ => hn⟩

set_option maxRecDepth 100000 in
set_option maxHeartbeats 4000000 in
theorem trimW (s p : ByteArray) (ks : List (List UInt8)) (T : List Gl) (w : World) (hs : s.size ≤ 2147483648) (hp : p.size ≤ 2147483648) (hT : Lib.Utf8Tabs 0 1 w) (hI : TrimI ks T p.size s p) :
    Calls Tryd.prog 19 #[.string s, .string p, .bool false] w (TrimPost ks T s.size p.size w) := by
  have HT := Lib.hid hT
  have HI := Lib.hid hI
  clear hT hI
  go_enter Tryd.func19, Tryd.ntmps19
  go_wp2
  go_loopg [0, 1, 9] s.size (fun d v0 v1 v9 wr => ∃ s' p' : ByteArray, v0 = .string s' ∧ v1 = .string p' ∧ v9 = .bool true ∧ d = s'.size ∧ s'.size ≤ s.size ∧ TrimI ks T p.size s' p' ∧ Below w.heap.size w wr)
  case atStart => exact ⟨s, p, rfl, rfl, rfl, rfl, Nat.le_refl _, HI.out, Below.refl _ _⟩
  case round =>
    obtain ⟨s', p', rfl, rfl, rfl, hd, hle, hI, hB⟩ := hrel
    have HD := Lib.hid hd
    have HI2 := Lib.hid hI
    have HB := Lib.hid hB
    clear hd hI hB
    have hps := HI2.out.star
    by_cases hs0 : 0 < s'.size
    · by_cases hp1 : 1 < p'.size
      · obtain ⟨K0, c, R0, z, T', q, V⟩ := HI2.out.view hs0 hp1
        have hle2 := V.le
        have hcp := V.cutP.2
        have hzp := V.hp.init.2.1.pos
        have hz4 := V.hp.init.2.1.len4
        have hcs := V.cutS.2.1
        have hcpos := V.cutS.2.2
        have hsz : (s'.extract 0 (s'.size - c.length)).size = s'.size - c.length := by rw [ByteArray.size_extract]; omega
        have HSZ := Lib.hid hsz
        have HV := Lib.hid V
        clear V hsz
        go_wp2_with (first
          | (go_at_call 22; go_must (refine (Tryd.utf8_DecodeLastRuneInString p' _ (by omega) (tabs_below HT.out HB.out)).mono ?_); rw [HV.out.hp.last]; rintro e w1 ⟨rfl, hb1⟩; have HB1 := Lib.hid (below_of HB.out hb1); clear hb1))
        go_loopg [11, 12, 13] (p'.size) (fun d v11 v12 v13 wr' => ∃ i : Nat, v11 = .int .i64 (z.length : Int) ∧ v12 = .bool false ∧ v13 = .int .i64 (i : Int) ∧ wr' = w1 ∧ d + i = p'.size ∧ ∃ Q, [42] :: R0 = Q ++ List.replicate i [92] ∧ Q ≠ [])
        case atStart => exact ⟨0, rfl, rfl, rfl, rfl, by omega, [42] :: R0, by simp, by simp⟩
        case round =>
          obtain ⟨i, rfl, rfl, rfl, hwr, hdi, Q, hQ, hQn⟩ := hrel
          subst hwr
          obtain ⟨hidx, A, y, rfl, hy, hbyte⟩ := HV.out.byte hQ hQn
          obtain ⟨m, hm⟩ : ∃ m, p'.size = z.length + i + 1 + m := ⟨p'.size - (z.length + i + 1), by omega⟩
          have e1 : (p'.size : Int) - (z.length : Int) - (i : Int) - 1 = (m : Int) := by omega
          have hmlt : m < p'.size := by omega
          have e2 : p'.size - (z.length + i + 1) = m := by omega
          rw [e2, getD_at _ _ hmlt] at hbyte
          have hi31 : i < 2147483648 := by omega
          have HM := Lib.hid hm
          have HDI := Lib.hid hdi
          have HQ := Lib.hid hQ
          have HBY := Lib.hid hbyte
          clear hm hdi hQ hQn hbyte e2
          by_cases hb : (y.getD (y.length - 1) 0).toNat = 92
          · have t1 : ((p'[m].toNat : Int) != 92) = false := bne_no (by rw [HBY.out]; exact hb)
            obtain ⟨hQ2, hA⟩ := HV.out.more hy hb HQ.out
            have HQ2 := Lib.hid hQ2
            have HA := Lib.hid hA
            clear hQ2 hA hb
            go_wp2
            go_roundg (gk - 1)
            case measure => have := HDI.out; have := HM.out; omega
            case rel => exact ⟨i + 1, rfl, rfl, by go_num, rfl, by have := HDI.out; have := HM.out; omega, A, HQ2.out, HA.out⟩
          · have t1 : ((p'[m].toNat : Int) != 92) = true := bne_yes (by rw [HBY.out]; exact hb)
            have HX := Lib.hid (HV.out.less hb)
            clear hb
            by_cases hpar : i % 2 = 0
            · have hbits : bits .and .i64 (i : Int) 1 = 0 := by rw [and1 i hi31, hpar]; rfl
              obtain ⟨hz92, T0, hT0, hTT⟩ := HV.out.even HQ.out HX.out hpar
              have HT0 := Lib.hid hT0
              have HTT := Lib.hid hTT
              have HZ := Lib.hid hz92
              have hze := HV.out.hp.init.2.1
              have hce := HV.out.hs.init.2.1
              clear hT0 hTT hz92 hpar
              by_cases z42 : z = [42]
              · have t2 : ((ch z : Int) == 42) = true := beq_yes (b := 42) (by rw [z42]; rfl)
                clear z42
                go_wp2
                go_ret3
                exact TrimPost.yes HB1.out rfl HI2.out hle
              · have t2 : ((ch z : Int) == 42) = false := beq_no (b := 42) (fun e => z42 ((hze.ascii (a := 42) (by decide)).1 e))
                by_cases z63 : z = [63]
                · have t3 : ((ch z : Int) == 63) = true := beq_yes (b := 63) (by rw [z63]; rfl)
                  have hg : glOf z = .one := by unfold glOf; rw [if_neg z42, if_pos z63]
                  have HI3 := Lib.hid (HV.out.one HT0.out (by rw [HTT.out, hg]))
                  clear z42 z63 hg
                  go_wp2_with (first
                    | (go_at_call 22; go_must (refine (Tryd.utf8_DecodeLastRuneInString s' _ (by omega) (tabs_below HT.out HB1.out)).mono ?_); rw [HV.out.hs.last]; rintro e w2 ⟨rfl, hb2⟩; have HB2 := Lib.hid (below_of HB1.out hb2); clear hb2))
                  all_goals
                    go_roundg (s'.size - c.length)
                    case measure => have := HD.out; omega
                    case rel => exact ⟨_, _, rfl, rfl, rfl, HSZ.out.symm, by rw [HSZ.out]; omega, HI3.out, HB2.out⟩
                · have t3 : ((ch z : Int) == 63) = false := beq_no (b := 63) (fun e => z63 ((hze.ascii (a := 63) (by decide)).1 e))
                  have hg : glOf z = .chr (ch z) := by unfold glOf; rw [if_neg z42, if_neg z63]
                  have HTC := Lib.hid (HTT.out.trans (by rw [hg]))
                  clear z42 z63 hg
                  by_cases hcc : ch z = ch c
                  · have t4 : ((ch z : Int) == (ch c : Int)) = true := beq_yes hcc
                    have HI3 := Lib.hid (HV.out.chr HT0.out HTC.out hcc)
                    clear hcc
                    go_wp2_with (first
                      | (go_at_call 22; go_must (refine (Tryd.utf8_DecodeLastRuneInString s' _ (by omega) (tabs_below HT.out HB1.out)).mono ?_); rw [HV.out.hs.last]; rintro e w2 ⟨rfl, hb2⟩; have HB2 := Lib.hid (below_of HB1.out hb2); clear hb2))
                    all_goals
                      go_roundg (s'.size - c.length)
                      case measure => have := HD.out; omega
                      case rel => exact ⟨_, _, rfl, rfl, rfl, HSZ.out.symm, by rw [HSZ.out]; omega, HI3.out, HB2.out⟩
                  · have t4 : ((ch z : Int) == (ch c : Int)) = false := beq_no hcc
                    have HNO := Lib.hid (HV.out.no HTC.out hcc)
                    clear hcc
                    go_wp2_with (first
                      | (go_at_call 22; go_must (refine (Tryd.utf8_DecodeLastRuneInString s' _ (by omega) (tabs_below HT.out HB1.out)).mono ?_); rw [HV.out.hs.last]; rintro e w2 ⟨rfl, hb2⟩; have HB2 := Lib.hid (below_of HB1.out hb2); clear hb2))
                    go_ret3
                    exact TrimPost.no HB2.out rfl HNO.out
            · have hbits : bits .and .i64 (i : Int) 1 = 1 := by rw [and1 i hi31, show i % 2 = 1 by omega]; rfl
              obtain ⟨R1, T0, hR1, hT0, hTT⟩ := HV.out.odd HQ.out HX.out (by omega)
              have HR1 := Lib.hid hR1
              have HT0 := Lib.hid hT0
              have HTT := Lib.hid hTT
              clear hT0 hTT hR1 hpar
              obtain ⟨b2, t2⟩ : ∃ b, ((ch z : Int) == 42) = b := ⟨_, rfl⟩
              obtain ⟨b3, t3⟩ : ∃ b, ((ch z : Int) == 63) = b := ⟨_, rfl⟩
              cases b2 <;> cases b3
              all_goals
                by_cases hcc : ch z = ch c
                · have t4 : ((ch z : Int) == (ch c : Int)) = true := beq_yes hcc
                  have HI3 := Lib.hid (HV.out.esc HR1.out HT0.out HTT.out hcc)
                  clear hcc
                  go_wp2_with (first
                    | (go_at_call 22; go_must (refine (Tryd.utf8_DecodeLastRuneInString s' _ (by omega) (tabs_below HT.out HB1.out)).mono ?_); rw [HV.out.hs.last]; rintro e w2 ⟨rfl, hb2⟩; have HB2 := Lib.hid (below_of HB1.out hb2); clear hb2))
                  all_goals
                    go_roundg (s'.size - c.length)
                    case measure => have := HD.out; omega
                    case rel => exact ⟨_, _, rfl, rfl, rfl, HSZ.out.symm, by rw [HSZ.out]; omega, HI3.out, HB2.out⟩
                · have t4 : ((ch z : Int) == (ch c : Int)) = false := beq_no hcc
                  have HNO := Lib.hid (HV.out.no HTT.out hcc)
                  clear hcc
                  go_wp2_with (first
                    | (go_at_call 22; go_must (refine (Tryd.utf8_DecodeLastRuneInString s' _ (by omega) (tabs_below HT.out HB1.out)).mono ?_); rw [HV.out.hs.last]; rintro e w2 ⟨rfl, hb2⟩; have HB2 := Lib.hid (below_of HB1.out hb2); clear hb2))
                  all_goals
                    go_ret3
                    exact TrimPost.no HB2.out rfl HNO.out
      · go_wp2
        go_ret3
        exact TrimPost.yes HB.out rfl HI2.out hle
    · go_wp2
      go_ret3
      exact TrimPost.yes HB.out rfl HI2.out hle
end Go.Proofs.YtmpjkhcddfdboaaDoor.M
