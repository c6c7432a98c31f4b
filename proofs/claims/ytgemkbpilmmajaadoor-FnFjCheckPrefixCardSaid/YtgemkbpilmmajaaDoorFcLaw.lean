/- FnFjCheckPrefix: the walk of the law. -/
import Derived.Test.YtgemkbpilmmajaaDoorFcVal
namespace Go.Proofs.YtgemkbpilmmajaaDoor.Fc
open Go.RowKit L
set_option linter.unusedVariables false
set_option linter.unusedSimpArgs false
set_option linter.unusedSectionVars false

theorem tx_inj {a b : ByteArray} (h : tx a = tx b) : a = b := ByteArray.ext (Array.ext' h)
theorem val_pair (k : Nat) : val (k + 1) [91, 93] = some [] := by
  rw [val_cons]
  rfl
theorem doorYes (k : Nat) (s t : ByteArray) (w : World) (hk : s.size < k) (hs : s.size ≤ 1000000) (hw : SynAt w) (h : val k (tx s) = some (tx t)) :
    Calls Tryd.prog 36 #[.string s] w fun e w' => e = .returned (.tuple #[.string t, .nilIface]) ∧ Below w.heap.size w w' := by
  have HW := Lib.hid hw
  have HV := Lib.hid h
  clear hw h
  go_enter Tryd.func36, Tryd.ntmps36
  go_wp2_with (first
    | (go_at_call 53; go_must (refine (valW k s _ hk hs HW.out).mono ?_); rintro e w1 hp; rw [HV.out] at hp; obtain ⟨⟨a, hla, rfl⟩, hb1⟩ := hp.some_; clear hp; obtain rfl := tx_inj hla; replace hb1 := Lib.hid hb1))
  go_ret2
  exact ⟨rfl, hb1.out⟩
theorem doorNo (k : Nat) (s : ByteArray) (w : World) (hk : s.size < k) (hs : s.size ≤ 1000000) (hw : SynAt w) (h : val k (tx s) = none) :
    Calls Tryd.prog 36 #[.string s] w fun e w' => (∃ t i v, e = .returned (.tuple #[.string t, .iface i v])) ∧ Below w.heap.size w w' := by
  have HW := Lib.hid hw
  have HV := Lib.hid h
  clear hw h
  go_enter Tryd.func36, Tryd.ntmps36
  go_wp2_with (first
    | (go_at_call 53; go_must (refine (valW k s _ hk hs HW.out).mono ?_); rintro e w1 hp; rw [HV.out] at hp; obtain ⟨⟨e1, e2, e3, rfl⟩, hb1⟩ := hp.none_; clear hp; replace hb1 := Lib.hid hb1))
  go_ret2
  exact ⟨⟨_, _, _, rfl⟩, hb1.out⟩
theorem checkYes (k : Nat) (s t : ByteArray) (w : World) (hk : s.size < k) (hs : s.size ≤ 1000000) (hw : SynAt w) (h : val k (tx s) = some (tx t)) :
    Calls Tryd.prog 19 #[.string s] w fun e w' => e = .returned (.tuple #[.string t, .bool true]) ∧ Below w.heap.size w w' := by
  have HW := Lib.hid hw
  have HV := Lib.hid h
  clear hw h
  go_enter Tryd.func19, Tryd.ntmps19
  go_wp2_with (first
    | (go_at_call 36; go_must (refine (doorYes k s t _ hk hs HW.out HV.out).mono ?_); rintro e w1 ⟨rfl, hb1⟩; replace hb1 := Lib.hid hb1))
  go_ret2
  exact ⟨rfl, hb1.out⟩
theorem checkNo (k : Nat) (s : ByteArray) (w : World) (hk : s.size < k) (hs : s.size ≤ 1000000) (hw : SynAt w) (h : val k (tx s) = none) :
    Calls Tryd.prog 19 #[.string s] w fun e w' => (∃ t, e = .returned (.tuple #[.string t, .bool false])) ∧ Below w.heap.size w w' := by
  have HW := Lib.hid hw
  have HV := Lib.hid h
  clear hw h
  go_enter Tryd.func19, Tryd.ntmps19
  go_wp2_with (first
    | (go_at_call 36; go_must (refine (doorNo k s _ hk hs HW.out HV.out).mono ?_); rintro e w1 ⟨⟨e1, e2, e3, rfl⟩, hb1⟩; replace hb1 := Lib.hid hb1))
  go_ret2
  exact ⟨⟨_, rfl⟩, hb1.out⟩
theorem pairW (w : World) (hw : SynAt w) : Calls Tryd.prog 19 #[.string ⟨#[91, 93]⟩] w fun e w' => e = .returned (.tuple #[.string ByteArray.empty, .bool true]) ∧ Below w.heap.size w w' :=
  checkYes 3 ⟨#[91, 93]⟩ ByteArray.empty w (by decide) (by decide) hw (val_pair 2)
set_option maxRecDepth 100000 in
set_option maxHeartbeats 8000000 in
theorem lawC (s : ByteArray) (w : World) (hs0 : s.size ≤ 140737488351232) (hw : SynAt w) : Calls Tryd.prog 7 #[.string s] w fun e w' => e = .returned (.bool true) ∧ Below w.heap.size w w' := by
  have HW := Lib.hid hw
  clear hw
  by_cases hbig : 4000 < s.size
  · go_enter Tryd.func7, Tryd.ntmps7
    go_wp2
    all_goals go_ret
    all_goals exact ⟨rfl, Below.refl _ _⟩
  have hs : s.size ≤ 4000 := by omega
  clear hbig hs0
  cases hv : val (s.size + 1) (tx s) with
  | none =>
    have HV := Lib.hid hv
    clear hv
    go_enter Tryd.func7, Tryd.ntmps7
    go_wp2_with (first
      | (go_at_call 19; (with_reducible refine (checkNo (s.size + 1) s _ (by omega) (by omega) HW.out HV.out).mono ?_); rintro e w1 ⟨⟨t, rfl⟩, hb1⟩; replace hb1 := Lib.hid hb1)
      | (go_at_call 19; (with_reducible refine (pairW _ (HW.out.below hb1.out)).mono ?_); rintro e w2 ⟨rfl, hb2⟩; replace hb2 := Lib.hid hb2))
    go_ret
    exact ⟨rfl, below_of hb1.out hb2.out⟩
  | some l =>
    obtain ⟨⟨a, ha, hal⟩, hcut⟩ := val_good _ _ _ hv
    obtain ⟨t, ht⟩ : ∃ t : ByteArray, tx t = l := ⟨⟨l.toArray⟩, by simp [tx]⟩
    subst ht
    have hla := congrArg List.length hal
    rw [List.length_append, tx_len, tx_len] at hla
    have hap := List.length_pos_iff.2 ha
    have h1 : s.extract (s.size - t.size) s.size = t := tx_inj (by
      rw [tx_ext, hal, show s.size - t.size = a.length by omega, List.drop_left])
    obtain ⟨p, hp⟩ : ∃ p, s.extract 0 (s.size - t.size) = p := ⟨_, rfl⟩
    have hpt : tx p = a := by rw [← hp, tx_pre, hal, show s.size - t.size = a.length by omega, List.take_left]
    have HV := Lib.hid hv
    have HP := Lib.hid (show val (s.size + 1) (tx p) = some (tx ByteArray.empty) by rw [hpt]; exact hcut a (tx t) [] hal rfl)
    have hps : p.size ≤ s.size := by rw [← hp, ByteArray.size_extract]; omega
    have hts : t.size < s.size := by omega
    clear hv hcut hal hla hap ha hpt
    go_enter Tryd.func7, Tryd.ntmps7
    go_wp2_with (first
      | (go_at_call 19; (with_reducible refine (checkYes (s.size + 1) s t _ (by omega) (by omega) HW.out HV.out).mono ?_); rintro e w1 ⟨rfl, hb1⟩; replace hb1 := Lib.hid hb1)
      | (go_at_call 19; (with_reducible refine (pairW _ (HW.out.below hb1.out)).mono ?_); rintro e w2 ⟨rfl, hb2⟩; replace hb2 := Lib.hid hb2)
      | (go_at_call 19; (with_reducible refine (checkYes (s.size + 1) p ByteArray.empty _ (by omega) (by omega) ((HW.out.below hb1.out).below hb2.out) HP.out).mono ?_); rintro e w3 ⟨rfl, hb3⟩; replace hb3 := Lib.hid hb3))
    go_ret
    exact ⟨rfl, below_of (below_of hb1.out hb2.out) hb3.out⟩
end Go.Proofs.YtgemkbpilmmajaaDoor.Fc
