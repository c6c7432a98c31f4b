/- FnMtPlain: the plain law and the walk. -/
import Derived.Test.YtmpjkhcddfdboaaDoorMtTop
namespace Go.Proofs.YtmpjkhcddfdboaaDoor.M
open Go.Lib Go.RowKit
set_option linter.unusedVariables false
set_option linter.unusedSimpArgs false

/-! ### the plain law -/
theorem plain_parse : ∀ {js : List (List UInt8)}, (∀ k ∈ js, k ≠ [42] ∧ k ≠ [63] ∧ k ≠ [92]) → parse js = some (js.map fun k => .chr (ch k))
  | [], _ => parse_nil
  | k :: js, h => by
    obtain ⟨h1, h2, h3⟩ := h k (by simp)
    rw [parse_cons h3, plain_parse (fun x hx => h x (by simp [hx]))]
    simp only [Option.map_some, List.map_cons]
    unfold glOf
    rw [if_neg h1, if_neg h2]
theorem plain_fit : ∀ {ns cs : List Nat}, Fit cs (ns.map Gl.chr) ↔ cs = ns
  | [], cs => by simp [Fit]
  | n :: ns, cs => by
    simp only [List.map_cons, Fit]
    constructor
    · rintro ⟨b, rfl, h⟩; rw [plain_fit.1 h]
    · rintro rfl; exact ⟨ns, rfl, plain_fit.2 rfl⟩
theorem chs_inj : ∀ {ks js : List (List UInt8)}, (∀ k ∈ ks, Enc k) → (∀ k ∈ js, Enc k) → ks.map ch = js.map ch → ks = js
  | [], [], _, _, _ => rfl
  | [], _ :: _, _, _, h => by simp at h
  | _ :: _, [], _, _, h => by simp at h
  | k :: ks, j :: js, hk, hj, h => by
    simp only [List.map_cons, List.cons.injEq] at h
    rw [(hk k (by simp)).inj (hj j (by simp)) h.1, chs_inj (fun x hx => hk x (by simp [hx])) (fun x hx => hj x (by simp [hx])) h.2]
/-- No byte of the pattern is a star, a question mark or a backslash. -/
def noMark (p : ByteArray) : Prop := ∀ j, j < p.size → ¬ (p.data.toList.getD j 0).toNat = 42 ∧ ¬ (p.data.toList.getD j 0).toNat = 63 ∧ ¬ (p.data.toList.getD j 0).toNat = 92
theorem noMark_piece {p : ByteArray} {js : List (List UInt8)} (h : Txt p js) (hn : noMark p) {k : List UInt8} (hk : k ∈ js) : k ≠ [42] ∧ k ≠ [63] ∧ k ≠ [92] := by
  obtain ⟨A, B, rfl⟩ := List.append_of_mem hk
  have hsz := h.size
  simp only [List.flatten_append, List.flatten_cons, List.length_append] at hsz
  have hkp := (h.1 k hk).pos
  have hb : p.data.toList.getD A.flatten.length 0 = k.getD 0 0 := by
    rw [h.2, List.flatten_append, List.flatten_cons, List.getD_eq_getElem?_getD, List.getD_eq_getElem?_getD, List.getElem?_append_right (Nat.le_refl _), Nat.sub_self, List.getElem?_append_left hkp]
  have := hn A.flatten.length (by omega)
  rw [hb] at this
  refine ⟨?_, ?_, ?_⟩
  · rintro rfl; exact this.1 rfl
  · rintro rfl; exact this.2.1 rfl
  · rintro rfl; exact this.2.2 rfl
theorem plain_law {s p : ByteArray} {ks js : List (List UInt8)} (hs : Txt s ks) (hp : Txt p js) (hn : noMark p) : parse js = some (js.map fun k => .chr (ch k)) ∧ (mtB ks (js.map fun k => .chr (ch k)) = true ↔ s = p) := by
  refine ⟨plain_parse fun k hk => noMark_piece hp hn hk, ?_⟩
  unfold mtB
  rw [fitB_iff]
  have e : (js.map fun k => Gl.chr (ch k)) = (js.map ch).map Gl.chr := by simp
  rw [e, plain_fit]
  constructor
  · intro h
    have := chs_inj hs.1 hp.1 h
    subst this
    have h2 : s.data.toList = p.data.toList := hs.2.trans hp.2.symm
    exact ByteArray.ext (Array.ext' h2)
  · rintro rfl
    rw [hs.uniq hp]
theorem list_beq (s p : ByteArray) : (s.toList == p.toList) = true ↔ s = p := by
  rw [beq_iff_eq, ByteArray.toList_eq, ByteArray.toList_eq]
  constructor
  · intro h; exact ByteArray.ext (Array.ext' h)
  · rintro rfl; rfl

/-! ### the walk -/
set_option maxHeartbeats 1000000 in
theorem lawP (s p : ByteArray) (w : World) (hs : s.size ≤ 140737488351232) (hp : p.size ≤ 140737488351232) (hT : Lib.Utf8Tabs 0 1 w) : Calls Tryd.prog 3 #[.string s, .string p] w fun e w' => e = .returned (.bool true) ∧ Below w.heap.size w w' := by
  by_cases hbig : 2147483647 < s.size
  · clear hT
    go_enter Tryd.func3, Tryd.ntmps3
    go_wp2
    go_ret
    exact ⟨rfl, Below.refl _ _⟩
  by_cases hbig2 : 2147483647 < p.size
  · clear hT
    go_enter Tryd.func3, Tryd.ntmps3
    go_wp2
    go_ret
    exact ⟨rfl, Below.refl _ _⟩
  have HT := Lib.hid hT
  clear hT
  go_enter Tryd.func3, Tryd.ntmps3
  go_wp2
  go_loopg [5] (p.size) (fun d v5 wr => ∃ i : Nat, v5 = .int .i64 (i : Int) ∧ i ≤ p.size ∧ p.size - i ≤ d ∧ wr = w ∧ ∀ j, j < i → ¬ (p.data.toList.getD j 0).toNat = 42 ∧ ¬ (p.data.toList.getD j 0).toNat = 63 ∧ ¬ (p.data.toList.getD j 0).toNat = 92)
  case atStart => exact ⟨0, rfl, by omega, by omega, rfl, fun j hj => absurd hj (by omega)⟩
  case round =>
    obtain ⟨i, rfl, hi, hd, rfl, hk⟩ := hrel
    have HD := Lib.hid hd
    have HK := Lib.hid hk
    clear hd hk
    by_cases hlt : i < p.size
    · have hx := getD_at p i hlt
      obtain ⟨x, hxx⟩ : ∃ x, (p[i]'hlt).toNat = x := ⟨_, rfl⟩
      have HX := Lib.hid (show (p.data.toList.getD i 0).toNat = x by rw [hx, hxx])
      clear hx
      by_cases h42 : x = 42
      · subst h42
        go_wp2
        go_ret
        exact ⟨rfl, Below.refl _ _⟩
      by_cases h63 : x = 63
      · subst h63
        go_wp2
        go_ret
        exact ⟨rfl, Below.refl _ _⟩
      by_cases h92 : x = 92
      · subst h92
        go_wp2
        go_ret
        exact ⟨rfl, Below.refl _ _⟩
      have t1 : ((x : Int) == 42) = false := beq_no (b := 42) h42
      have t2 : ((x : Int) == 63) = false := beq_no (b := 63) h63
      have t3 : ((x : Int) == 92) = false := beq_no (b := 92) h92
      have HN := Lib.hid (And.intro h42 (And.intro h63 h92))
      clear h42 h63 h92
      go_wp2
      go_roundg (gk - 1)
      case measure => have := HD.out; omega
      case rel => exact ⟨i + 1, by go_num, by omega, by have := HD.out; omega, rfl, fun j hj => by
        by_cases hji : j = i
        · rw [hji, HX.out]; exact HN.out
        · exact HK.out j (by omega)⟩
    · have HNM := Lib.hid (show noMark p from fun j hj => HK.out j (by omega))
      clear HK
      cases hu : utfB s with
      | false =>
        have HU := Lib.hid hu
        clear hu
        go_wp2_with fail
        refine (utf8W s _ (by omega)).mono ?_
        rw [HU.out]
        rintro e w1 ⟨rfl, hb1⟩
        have HB1 := Lib.hid hb1
        clear hb1
        go_wp2
        go_ret
        exact ⟨rfl, HB1.out⟩
      | true =>
        have HU := Lib.hid hu
        clear hu
        go_wp2_with fail
        refine (utf8W s _ (by omega)).mono ?_
        rw [HU.out]
        rintro e w1 ⟨rfl, hb1⟩
        have HB1 := Lib.hid hb1
        clear hb1
        cases hv : utfB p with
        | false =>
          have HV := Lib.hid hv
          clear hv
          go_wp2_with fail
          refine (utf8W p _ (by omega)).mono ?_
          rw [HV.out]
          rintro e w2 ⟨rfl, hb2⟩
          have HB2 := Lib.hid (below_of HB1.out hb2)
          clear hb2
          go_wp2
          go_ret
          exact ⟨rfl, HB2.out⟩
        | true =>
          have HV := Lib.hid hv
          clear hv
          obtain ⟨ks, hks⟩ := utfB_txt HU.out
          obtain ⟨js, hjs⟩ := utfB_txt HV.out
          obtain ⟨hpar, hiff⟩ := plain_law hks hjs HNM.out
          have HKS := Lib.hid hks
          have HJS := Lib.hid hjs
          have HPAR := Lib.hid hpar
          have HIFF := Lib.hid hiff
          clear hks hjs hpar hiff
          go_wp2_with fail
          refine (utf8W p _ (by omega)).mono ?_
          rw [HV.out]
          rintro e w2 ⟨rfl, hb2⟩
          have HB2 := Lib.hid (below_of HB1.out hb2)
          clear hb2
          go_wp2_with fail
          refine (mtMatch s p ks js _ _ (by omega) (by omega) (tabs_below HT.out HB2.out) HKS.out HJS.out HPAR.out).mono ?_
          have hbb : mtB ks (js.map fun k => .chr (ch k)) = (s.toList == p.toList) := by
            rw [Bool.eq_iff_iff, HIFF.out, list_beq]
          rw [hbb]
          rintro e w3 ⟨rfl, hb3⟩
          have HB3 := Lib.hid (below_of HB2.out hb3)
          clear hb3 hbb
          cases hq : (s.toList == p.toList)
          all_goals
            go_wp2
            go_ret
            exact ⟨rfl, HB3.out⟩
end Go.Proofs.YtmpjkhcddfdboaaDoor.M
