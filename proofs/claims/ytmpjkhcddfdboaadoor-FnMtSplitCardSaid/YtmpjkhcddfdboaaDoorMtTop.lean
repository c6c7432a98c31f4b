/- The walks of match0, Match, MtMatch and spec.UTF8. -/
import Derived.Test.YtmpjkhcddfdboaaDoorMtMatch
import Derived.Test.YtmpjkhcddfdboaaDoorMtSpec2
namespace Go.Proofs.YtmpjkhcddfdboaaDoor.M
open Go.Lib Go.RowKit
set_option linter.unusedVariables false
set_option linter.unusedSimpArgs false

/-- What Match answers of a text and a pattern in UTF-8. -/
noncomputable def mtB (ks : List (List UInt8)) (ts : List Gl) : Bool := fitB (ks.map ch) ts
theorem star_list {p : ByteArray} (h : p ≠ ⟨#[42]⟩) : (p.toList == [42]) = false := by
  rw [Bool.eq_false_iff]
  intro e
  have e : p.toList = [42] := by simpa using e
  rw [ByteArray.toList_eq] at e
  exact h (ByteArray.ext (Array.ext' e))

theorem match0W (s p : ByteArray) (ks js : List (List UInt8)) (ts : List Gl) (w : World) (hs : s.size ≤ 2147483648) (hp : p.size ≤ 2147483648) (hT : Lib.Utf8Tabs 0 1 w) (h1 : Txt s ks) (h2 : Txt p js) (h3 : parse js = some ts) :
    Calls Tryd.prog 16 #[.string s, .string p, .bool false] w fun e w' => e = .returned (.bool (mtB ks ts)) ∧ Below w.heap.size w w' := by
  by_cases hst : p = ⟨#[42]⟩
  · subst hst
    have hj : js = [[42]] := h2.uniq ⟨fun k hk => by rw [List.mem_singleton.1 hk]; exact Enc.one (by decide), rfl⟩
    subst hj
    have ht : ts = [.star] := by
      rw [parse_star, parse_nil] at h3
      injection h3 with h3
      exact h3.symm
    subst ht
    have hm : mtB ks [.star] = true := fitB_iff.2 (fit_star_last _)
    rw [hm]
    clear h1 h2 h3 hm
    go_enter Tryd.func16, Tryd.ntmps16
    go_wp2
    go_ret
    exact ⟨rfl, Below.refl _ _⟩
  · have hsl := star_list hst
    have hM := matchAll (p.size + 1) s p ks js ts
    have HM := Lib.hid hM
    have HT := Lib.hid hT
    have H1 := Lib.hid h1
    have H2 := Lib.hid h2
    have H3 := Lib.hid h3
    clear hM hT h1 h2 h3
    cases hb : mtB ks ts with
    | false =>
      have HB := Lib.hid (show fitB (ks.map ch) ts = false from hb)
      clear hb
      go_enter Tryd.func16, Tryd.ntmps16
      go_wp2_with fail
      refine (HM.out w hs hp (by omega) HT.out H1.out H2.out H3.out).mono ?_
      rintro e w1 ⟨he, hb1⟩
      rw [if_neg (by rw [HB.out]; decide)] at he
      subst he
      go_wp2
      go_ret
      exact ⟨rfl, hb1⟩
    | true =>
      have HB := Lib.hid (show fitB (ks.map ch) ts = true from hb)
      clear hb
      go_enter Tryd.func16, Tryd.ntmps16
      go_wp2_with fail
      refine (HM.out w hs hp (by omega) HT.out H1.out H2.out H3.out).mono ?_
      rintro e w1 ⟨he, hb1⟩
      rw [if_pos HB.out] at he
      subst he
      go_wp2
      go_ret
      exact ⟨rfl, hb1⟩
theorem MatchW (s p : ByteArray) (ks js : List (List UInt8)) (ts : List Gl) (w : World) (hs : s.size ≤ 2147483648) (hp : p.size ≤ 2147483648) (hT : Lib.Utf8Tabs 0 1 w) (h1 : Txt s ks) (h2 : Txt p js) (h3 : parse js = some ts) :
    Calls Tryd.prog 10 #[.string s, .string p] w fun e w' => e = .returned (.bool (mtB ks ts)) ∧ Below w.heap.size w w' := by
  have HC := Lib.hid (match0W s p ks js ts w hs hp hT h1 h2 h3)
  clear hT h1 h2 h3
  go_enter Tryd.func10, Tryd.ntmps10
  go_wp2_with fail
  refine HC.out.mono ?_
  rintro e w1 ⟨rfl, hb⟩
  go_wp2
  go_ret
  exact ⟨rfl, hb⟩
theorem mtMatch (s p : ByteArray) (ks js : List (List UInt8)) (ts : List Gl) (w : World) (hs : s.size ≤ 2147483648) (hp : p.size ≤ 2147483648) (hT : Lib.Utf8Tabs 0 1 w) (h1 : Txt s ks) (h2 : Txt p js) (h3 : parse js = some ts) :
    Calls Tryd.prog 6 #[.string s, .string p] w fun e w' => e = .returned (.bool (mtB ks ts)) ∧ Below w.heap.size w w' := by
  have HC := Lib.hid (MatchW s p ks js ts w hs hp hT h1 h2 h3)
  clear hT h1 h2 h3
  go_enter Tryd.func6, Tryd.ntmps6
  go_wp2_with fail
  refine HC.out.mono ?_
  rintro e w1 ⟨rfl, hb⟩
  go_wp2
  go_ret
  exact ⟨rfl, hb⟩

open Classical in
/-- Whether a text is UTF-8. -/
noncomputable def utfB (s : ByteArray) : Bool := decide (∃ ks, Txt s ks)
theorem utfB_yes {s : ByteArray} (h : ∃ ks, Cut (bts s 0) ks) : utfB s = true := by unfold utfB; simpa using (show ∃ ks, Txt s ks from h)
theorem utfB_no {s : ByteArray} (h : ¬ ∃ ks, Cut (bts s 0) ks) : utfB s = false := by unfold utfB; simpa using (show ¬ ∃ ks, Txt s ks from h)
theorem utfB_txt {s : ByteArray} (h : utfB s = true) : ∃ ks, Txt s ks := by unfold utfB at h; simpa using h
theorem below_drawn {w w1 : World} (h : Go.Proofs.YtmpjkhcddfdboaaDoorW.PrintWords.Drawn0 w w1) : Below w.heap.size w w1 := h.below
set_option maxHeartbeats 1000000 in
theorem utf8W (s : ByteArray) (w : World) (hs : s.size ≤ 2147483648) :
    Calls Tryd.prog 5 #[.string s] w fun e w' => e = .returned (.bool (utfB s)) ∧ Below w.heap.size w w' := by
  go_enter Tryd.func5, Tryd.ntmps5
  go_wp2
  go_loopg [3] (s.size) (fun d v2 wr => ∃ i : Nat, v2 = .int .i64 (i : Int) ∧ i ≤ s.size ∧ s.size - i ≤ d ∧ ((∃ ks, Cut (bts s i) ks) ↔ ∃ ks, Cut (bts s 0) ks) ∧ Below w.heap.size w wr)
  case atStart => exact ⟨0, rfl, by omega, by omega, Iff.rfl, Below.refl _ _⟩
  case round =>
    obtain ⟨i, rfl, hi, hd, hk, hB⟩ := hrel
    have HD := Lib.hid hd
    have HK := Lib.hid hk
    have HB := Lib.hid hB
    clear hd hk hB
    by_cases hlt : i < s.size
    · by_cases hok : okD (bts s i)
      · obtain ⟨K, hK, hw, hc, hl, hle⟩ := piece_at hok
        have hf := char_f (s := s) (i := i) 0 (by omega) hlt
        rw [if_pos hok, ← hw, ← hc] at hf
        have HF := Lib.hid hf
        have hKp := hK.pos
        have HK2 := Lib.hid (show (∃ ks, Cut (bts s (i + K.length)) ks) ↔ ∃ ks, Cut (bts s 0) ks by
          rw [← HK.out]
          constructor
          · rintro ⟨ks, h⟩; exact ⟨_, cut_mk hK hl h⟩
          · rintro ⟨ks, h⟩
            obtain ⟨ks', _, h'⟩ := cut_step hK hl h
            exact ⟨ks', h'⟩)
        clear hf hok hw hc hl
        go_wp2_with fail
        refine (Go.Proofs.YtmpjkhcddfdboaaDoor.PFnMtSplit.spec_Character.calls 9 s i _ _ _ _ HF.out).mono ?_
        rintro e w1 ⟨rfl, hdr⟩
        have HB1 := Lib.hid (below_of HB.out hdr.below)
        clear hdr
        go_wp2
        go_roundg (gk - 1)
        case measure => have := HD.out; omega
        case rel => exact ⟨i + K.length, by go_num, hle, by have := HD.out; omega, HK2.out, HB1.out⟩
      · have hf := char_f (s := s) (i := i) 0 (by omega) hlt
        rw [if_neg hok] at hf
        have HF := Lib.hid hf
        have HN := Lib.hid (utfB_no (s := s) (by
          rw [← HK.out]
          rintro ⟨ks, h⟩
          have hne : bts s i ≠ [] := by intro h; have := bts_len s i; rw [h] at this; simp at this; omega
          exact no_cut hne hok h))
        clear hf hok
        go_wp2_with fail
        refine (Go.Proofs.YtmpjkhcddfdboaaDoor.PFnMtSplit.spec_Character.calls 9 s i _ _ _ _ HF.out).mono ?_
        rintro e w1 ⟨rfl, hdr⟩
        have HB1 := Lib.hid (below_of HB.out hdr.below)
        clear hdr
        go_wp2
        go_ret
        rw [HN.out]
        exact ⟨rfl, HB1.out⟩
    · have HY := Lib.hid (utfB_yes (s := s) (by
        rw [← HK.out]
        obtain rfl : i = s.size := by omega
        rw [bts_end]; exact ⟨[], Cut.nil⟩))
      go_wp2
      go_ret
      rw [HY.out]
      exact ⟨rfl, HB.out⟩
end Go.Proofs.YtmpjkhcddfdboaaDoor.M
