/- FnGjValid and FnGjValidTwo: the walks of the laws. -/
import Derived.Test.YtmpjkhcddfdboaaValid7
import Derived.Test.YtmpjkhcddfdboaaPlaces
import Derived.Test.YtmpjkhcddfdboaaTwo
namespace Go.Proofs.Ytmpjkhcddfdboaa.L
open Go.RowKit
set_option linter.unusedVariables false
set_option linter.unusedSimpArgs false

theorem places_any (s : ByteArray) (w : World) (hs : s.size ≤ 2147483648) : Calls Try.prog 5 #[.string s] w fun e w' => (∃ (k b' e' : Int) (An : Option Addr) (nn cn : Nat) (Ak : Option Addr) (nk ck : Nat), e = .returned (.tuple #[.agg #[.int .i64 k, .int .i64 b', .int .i64 e', .slice An nn cn, .slice Ak nk ck], .bool (isText s)])) ∧ Below w.heap.size w w' :=
  (placesW s w hs).mono fun e w' ⟨hb, h⟩ => ⟨by
    rcases h with ⟨p, hp, k, b', e', An, nn, cn, Ak, nk, ck, rfl, _⟩ | ⟨hp, rfl⟩
    · exact ⟨k, b', e', An, nn, cn, Ak, nk, ck, by unfold isText; rw [hp]; rfl⟩
    · exact ⟨0, 0, 0, none, 0, 0, none, 0, 0, by unfold isText; rw [hp]; rfl⟩, hb⟩

theorem lawV (s : ByteArray) (w : World) (hs : s.size ≤ 140737488351232) : Calls Try.prog 3 #[.string s] w fun e w' => e = .returned (.bool true) ∧ Below w.heap.size w w' := by
  by_cases hbig : 2147483647 < s.size
  · go_enter Try.func3, Try.ntmps3
    go_wp2
    go_ret
    exact ⟨rfl, Below.refl _ _⟩
  · by_cases hbig2 : 65536 < s.size
    · go_enter Try.func3, Try.ntmps3
      go_wp2
      go_ret
      exact ⟨rfl, Below.refl _ _⟩
    · obtain ⟨b, hb⟩ : ∃ b, isText s = b := ⟨_, rfl⟩
      have HBT := Lib.hid hb
      clear hb
      go_enter Try.func3, Try.ntmps3
      go_wp2_with fail
      refine (places_any s w (by omega)).mono ?_
      rw [HBT.out]
      rintro e w1 ⟨⟨k, b', e', An, nn, cn, Ak, nk, ck, rfl⟩, hb1⟩
      have HB1 := Lib.hid (below_alloc hb1 (.cells #[.int .i64 k, .int .i64 b', .int .i64 e', .slice An nn cn, .slice Ak nk ck] 25))
      clear hb1
      go_wp2_with fail
      refine (gjValid s _ hs).mono ?_
      rw [HBT.out]
      rintro e w2 ⟨rfl, hb2⟩
      have HB2 := Lib.hid hb2
      clear hb2
      cases b
      all_goals
        go_wp2
        go_ret
        exact ⟨rfl, below_step HB1.out HB2.out⟩
theorem text_two {a b : ByteArray} (ha : isText a = true) (hb : isText b = true) (c : UInt8) (hc : c = 32 ∨ c = 44) : isText (a ++ ⟨#[c]⟩ ++ b) = false := by
  unfold isText at *
  obtain ⟨p, hp⟩ := Option.isSome_iff_exists.1 ha
  obtain ⟨q, hq⟩ := Option.isSome_iff_exists.1 hb
  rw [two_none hp hq c hc]; rfl
theorem two_size (a b : ByteArray) (c : UInt8) : (a ++ ⟨#[c]⟩ ++ b).size = a.size + 1 + b.size := by rw [ByteArray.size_append, ByteArray.size_append, one_size]
theorem lawTwo (a b : ByteArray) (w : World) (ha : a.size ≤ 140737488351232) (hb : b.size ≤ 140737488351232) : Calls Try.prog 4 #[.string a, .string b] w fun e w' => e = .returned (.bool true) ∧ Below w.heap.size w w' := by
  by_cases hbig : 2147483647 < a.size
  · go_enter Try.func4, Try.ntmps4
    go_wp2
    go_ret
    exact ⟨rfl, Below.refl _ _⟩
  by_cases hbig2 : 2147483647 < b.size
  · go_enter Try.func4, Try.ntmps4
    go_wp2
    go_ret
    exact ⟨rfl, Below.refl _ _⟩
  obtain ⟨ba, hba⟩ : ∃ x, isText a = x := ⟨_, rfl⟩
  obtain ⟨bb, hbb⟩ : ∃ x, isText b = x := ⟨_, rfl⟩
  have HBA := Lib.hid hba
  have HBB := Lib.hid hbb
  clear hba hbb
  go_enter Try.func4, Try.ntmps4
  go_wp2_with fail
  refine (places_any a w (by omega)).mono ?_
  rw [HBA.out]
  rintro e w1 ⟨⟨k, b', e', An, nn, cn, Ak, nk, ck, rfl⟩, hb1⟩
  have HB1 := Lib.hid (below_alloc hb1 (.cells #[.int .i64 k, .int .i64 b', .int .i64 e', .slice An nn cn, .slice Ak nk ck] 25))
  clear hb1
  go_wp2_with fail
  refine (places_any b _ (by omega)).mono ?_
  rw [HBB.out]
  rintro e w2 ⟨⟨k2, b2', e2', An2, nn2, cn2, Ak2, nk2, ck2, rfl⟩, hb2⟩
  have HB2 := Lib.hid (below_alloc (below_step HB1.out hb2) (.cells #[.int .i64 k2, .int .i64 b2', .int .i64 e2', .slice An2 nn2 cn2, .slice Ak2 nk2 ck2] 25))
  clear hb2
  cases ba with
  | false =>
    go_wp2
    go_ret
    exact ⟨rfl, HB2.out⟩
  | true =>
    cases bb with
    | false =>
      go_wp2
      go_ret
      exact ⟨rfl, HB2.out⟩
    | true =>
      by_cases hsum : 65536 < a.size + b.size
      · go_wp2
        go_ret
        exact ⟨rfl, HB2.out⟩
      · have HT1 := Lib.hid (text_two HBA.out HBB.out 32 (by decide))
        have HT2 := Lib.hid (text_two HBA.out HBB.out 44 (by decide))
        go_wp2_with fail
        refine (gjValid a _ ha).mono ?_
        rw [HBA.out]
        rintro e w3 ⟨rfl, hb3⟩
        have HB3 := Lib.hid (below_step HB2.out hb3)
        clear hb3
        go_wp2_with fail
        refine (gjValid b _ hb).mono ?_
        rw [HBB.out]
        rintro e w4 ⟨rfl, hb4⟩
        have HB4 := Lib.hid (below_step HB3.out hb4)
        clear hb4
        go_wp2_with fail
        refine (gjValid _ _ (Nat.le_trans (Nat.le_of_eq (two_size a b 32)) (by omega))).mono ?_
        rw [show isText _ = false from HT1.out]
        rintro e w5 ⟨rfl, hb5⟩
        have HB5 := Lib.hid (below_step HB4.out hb5)
        clear hb5
        go_wp2_with fail
        refine (gjValid _ _ (Nat.le_trans (Nat.le_of_eq (two_size a b 44)) (by omega))).mono ?_
        rw [show isText _ = false from HT2.out]
        rintro e w6 ⟨rfl, hb6⟩
        have HB6 := Lib.hid (below_step HB5.out hb6)
        clear hb6
        go_wp2
        go_ret
        exact ⟨rfl, HB6.out⟩
end Go.Proofs.Ytmpjkhcddfdboaa.L
