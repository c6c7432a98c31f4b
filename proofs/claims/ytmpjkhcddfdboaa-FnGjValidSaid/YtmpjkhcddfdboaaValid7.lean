/- The walks of gjson's Valid, seventh part: validpayload, Valid, impl.GjValid. -/
import Derived.Test.YtmpjkhcddfdboaaValid6
namespace Go.Proofs.Ytmpjkhcddfdboaa.L
open Go.RowKit
set_option linter.unusedVariables false
set_option linter.unusedSimpArgs false

/-- What Valid answers. -/
def isText (s : ByteArray) : Bool := (places s).isSome
def PPost (s : ByteArray) (w : World) (e : Ending) (w' : World) : Prop :=
  w' = w ∧ ∃ j : Int, e = .returned (.tuple #[.int .i64 j, .bool (isText s)])
theorem PPost.of {s : ByteArray} {w w' : World} {e : Ending} {j : Int} {b : Bool} (hw : w' = w) (h : isText s = b) (he : e = .returned (.tuple #[.int .i64 j, .bool b])) : PPost s w e w' := ⟨hw, j, by rw [he, h]⟩
theorem text_no {s : ByteArray} {i : Nat} (hk : skip isBlank s i = skip isBlank s 0) (h : (valN s (s.size + 1) (skip isBlank s i)).map (·.1) = none) : isText s = false := by
  unfold isText places valAt
  rw [← hk]
  cases hv : valN s (s.size + 1) (skip isBlank s i) with
  | none => rfl
  | some r => rw [hv] at h; cases h
theorem text_some {s : ByteArray} {i j : Nat} {p : Pl} (hk : skip isBlank s i = skip isBlank s 0) (h : valN s (s.size + 1) (skip isBlank s i) = some (j, p)) : isText s = decide (skip isBlank s j = s.size) := by
  unfold isText places valAt
  rw [← hk, h]
  simp only
  by_cases he : skip isBlank s j = s.size
  · rw [if_pos he]; simp [he]
  · rw [if_neg he]; simp [he]

set_option maxRecDepth 100000 in
set_option maxHeartbeats 4000000 in
theorem payloadW (A : Option Addr) (s : ByteArray) (c : Nat) (w : World) (h : Sl w A s c) :
    Calls Try.prog 17 #[.slice A s.size c, .int .i64 0] w (PPost s w) := by
  have hs := h.sz
  have HV := Lib.hid (anyAll s (s.size + 1))
  have HSL := Lib.hid h
  clear h
  go_enter Try.func17, Try.ntmps17
  go_wp2
  go_loopg [1] (s.size - 0) (fun d v1 wr => ∃ i : Nat, v1 = .int .i64 (i : Int) ∧ wr = w ∧ d = s.size - i ∧ i ≤ s.size ∧ skip isBlank s i = skip isBlank s 0)
  case atStart => exact ⟨0, rfl, rfl, rfl, by omega, rfl⟩
  case round =>
    obtain ⟨i, rfl, hwr, hd, hil, hk⟩ := hrel
    subst hwr
    have HD := Lib.hid hd
    have HK := Lib.hid hk
    clear hd hk
    by_cases hlt : i < s.size
    · obtain ⟨ad, rfl, hcell⟩ := HSL.out.rd.at_ hlt
      have hr := bt_range s i
      obtain ⟨x, hx⟩ : ∃ x, bt s i = x := ⟨_, rfl⟩
      rw [hx] at hcell hr
      have HX := Lib.hid hx
      clear hx
      by_cases hb : isBlank x = true
      · have HS := Lib.hid (skip_yes (p := isBlank) hlt (by rw [HX.out]; exact hb))
        rcases blank_cases hb with rfl | rfl | rfl | rfl
        all_goals
          go_wp2
          go_roundg (s.size - (i + 1))
          case measure => have := HD.out; omega
          case rel => exact ⟨i + 1, by go_num, rfl, rfl, by omega, HS.out.symm.trans HK.out⟩
      · obtain ⟨b1, b2, b3, b4⟩ := blank_not hb
        clear hb
        cases hval : valN s (s.size + 1) (skip isBlank s i) with
        | none =>
          have HVAL := Lib.hid hval
          have HE := Lib.hid (text_no HK.out (by rw [hval]; rfl))
          clear hval
          go_wp2_with (first
            | (go_at_call 22; go_must (refine (HV.out.no _ c i _ HSL.out hil (by omega) HVAL.out).mono ?_); rintro e w' ⟨j, rfl, rfl⟩))
          go_ret2
          exact PPost.of rfl HE.out rfl
        | some lp =>
          obtain ⟨l, p⟩ := lp
          have HVAL := Lib.hid hval
          have hl := (valN_fwd s (s.size + 1) _ _ _ (skip_top isBlank s hil) hval).2
          have HE := Lib.hid (text_some HK.out hval)
          clear hval
          go_wp2_with (first
            | (go_at_call 22; go_must (refine (HV.out.yes _ c i _ HSL.out hil (by omega) HVAL.out).mono ?_); rintro e w' ⟨rfl, rfl⟩))
          clear hcell HX b1 b2 b3 b4 hr
          go_loopg [1] (s.size - l) (fun d v1 wr' => ∃ k : Nat, v1 = .int .i64 (k : Int) ∧ wr' = w' ∧ d = s.size - k ∧ k ≤ s.size ∧ skip isBlank s k = skip isBlank s l)
          case atStart => exact ⟨l, rfl, rfl, rfl, hl, rfl⟩
          case round =>
            obtain ⟨k, rfl, hwr, hd, hkl, hk⟩ := hrel
            subst hwr
            have HD2 := Lib.hid hd
            have HK2 := Lib.hid hk
            clear hd hk
            by_cases hkk : k < s.size
            · obtain ⟨ad', had, hcell⟩ := HSL.out.rd.at_ hkk
              injection had with had
              subst had
              have hr := bt_range s k
              obtain ⟨x, hx⟩ : ∃ x, bt s k = x := ⟨_, rfl⟩
              rw [hx] at hcell hr
              have HX := Lib.hid hx
              clear hx
              by_cases hb : isBlank x = true
              · have HS := Lib.hid (skip_yes (p := isBlank) hkk (by rw [HX.out]; exact hb))
                rcases blank_cases hb with rfl | rfl | rfl | rfl
                all_goals
                  go_wp2
                  go_roundg (s.size - (k + 1))
                  case measure => have := HD2.out; omega
                  case rel => exact ⟨k + 1, by go_num, rfl, rfl, by omega, HS.out.symm.trans HK2.out⟩
              · have HS := Lib.hid (skip_no (p := isBlank) (s := s) (i := k) (by rw [HX.out]; exact fun h => hb h.2))
                obtain ⟨b1, b2, b3, b4⟩ := blank_not hb
                clear hb
                have HR := Lib.hid (show isText s = false by rw [HE.out, ← HK2.out, HS.out]; simp; omega)
                go_wp2
                go_ret2
                exact PPost.of rfl HR.out rfl
            · have HR := Lib.hid (show isText s = true by
                obtain rfl : k = s.size := by omega
                rw [HE.out, ← HK2.out, skip_end]; simp)
              go_wp2
              go_ret2
              exact PPost.of rfl HR.out rfl
    · have HE := Lib.hid (text_no HK.out (by
        obtain rfl : i = s.size := by omega
        rw [skip_end, val_end]; rfl))
      go_wp2
      go_ret2
      exact PPost.of rfl HE.out rfl

theorem bytesSl (w : World) (e : TypeId) (s : ByteArray) (hs : s.size ≤ 140737488351232) : Sl (Lib.bytesWorld w e s) (some ⟨w.heap.size, 0, none⟩) s (grownCap w s.size 0 e) := ⟨bytesWorld_rd w e s, hs⟩
theorem strBytes (s : ByteArray) (w : World) (hs : s.size ≤ 140737488351232) : Calls Try.prog 18 #[.string s] w fun e w' => (∃ A c, e = .returned (.slice A s.size c) ∧ Sl w' A s c) ∧ Below w.heap.size w w' := by
  have hcv : (convert 9 43 (.string s)).run Try.prog w = .ok (.slice (some ⟨w.heap.size, 0, none⟩) s.size (grownCap w s.size 0 5)) (Lib.bytesWorld w 5 s) := Lib.run_convert_string_bytes w 9 43 5 s Try.underlying9 Try.underlying43 Try.underlying5
  have hb := bytesWorld_below w 5 s
  have HSL := Lib.hid (bytesSl w 5 s hs)
  have HB := Lib.hid hb
  clear hb
  go_enter Try.func18, Try.ntmps18
  go_wp2
  go_ret
  exact ⟨⟨_, _, rfl, HSL.out⟩, HB.out⟩
theorem validW (s : ByteArray) (w : World) (hs : s.size ≤ 140737488351232) : Calls Try.prog 9 #[.string s] w fun e w' => e = .returned (.bool (isText s)) ∧ Below w.heap.size w w' := by
  go_enter Try.func9, Try.ntmps9
  go_wp2_with fail
  refine (strBytes s w hs).mono ?_
  rintro e w1 ⟨⟨A, c, rfl, hsl⟩, hb⟩
  have HB := Lib.hid hb
  clear hb
  go_wp2_with fail
  refine (payloadW A s c w1 hsl).mono ?_
  rintro e w2 ⟨rfl, j, rfl⟩
  go_wp2
  go_ret
  exact ⟨rfl, HB.out⟩
theorem gjValid (s : ByteArray) (w : World) (hs : s.size ≤ 140737488351232) : Calls Try.prog 6 #[.string s] w fun e w' => e = .returned (.bool (isText s)) ∧ Below w.heap.size w w' := by
  go_enter Try.func6, Try.ntmps6
  go_wp2_with fail
  refine (validW s w hs).mono ?_
  rintro e w2 ⟨rfl, hb⟩
  go_wp2
  go_ret
  exact ⟨rfl, hb⟩
end Go.Proofs.Ytmpjkhcddfdboaa.L
