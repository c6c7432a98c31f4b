/- The walk of validateArray. -/
import Derived.Test.YtgemkbpilmmajaaDoorFcKey
namespace Go.Proofs.YtgemkbpilmmajaaDoor.Fc
open Go.RowKit L
set_option linter.unusedVariables false
set_option linter.unusedSimpArgs false
set_option linter.unusedSectionVars false

/-- The check of a value, as it is called. -/
def ValOk (k : Nat) : Prop := ∀ (s : ByteArray) (w : World), s.size < k → s.size ≤ 1000000 → SynAt w → Calls Tryd.prog 53 #[.string s] w (Post (val k (tx s)) w)
theorem skip_len {s t : ByteArray} (h : tx t = skip (tx s)) : t.size ≤ s.size := by
  have h1 := suf_len (skip_suf (tx s))
  rw [← h, tx_len, tx_len] at h1
  exact h1
theorem val_len {k : Nat} {s t : ByteArray} (h : val k (tx s) = some (tx t)) : t.size < s.size := by
  obtain ⟨a, ha, hl⟩ := (val_good k _ _ h).1
  have := congrArg List.length hl
  have l3 := List.length_pos_iff.2 ha
  simp only [List.length_append, tx_len] at this
  omega
theorem cons_of {s : ByteArray} (h : 0 < s.size) {x : Int} (hx : bt s (0 : Nat) = x) : ∃ c : UInt8, tx s = c :: (tx s).drop 1 ∧ (c.toNat : Int) = x := by
  obtain ⟨c, h1, h2, -⟩ := tx_at s 0 h
  exact ⟨c, h1, by rw [h2, hx]⟩
theorem items_none {P : Tx → Option Tx} {k : Nat} {l : Tx} (h : P (skip l) = none) : items P (k + 1) l = none := by simp only [items]; rw [h]
theorem items_nil {P : Tx → Option Tx} {k : Nat} {l a : Tx} (h : P (skip l) = some a) (h2 : skip a = []) : items P (k + 1) l = none := by simp only [items]; rw [h]; dsimp only; rw [h2]
theorem items_cons {P : Tx → Option Tx} {k : Nat} {l a u : Tx} {c : UInt8} (h : P (skip l) = some a) (h2 : skip a = c :: u) : items P (k + 1) l = if c = 44 then items P k u else if c = 93 then some u else none := by
  simp only [items]; rw [h]; dsimp only; rw [h2]
theorem Post.no' {o : Option Tx} {w w' : World} {e : Ending} {s : ByteArray} {t : TypeId} {v : Value} (h : o = none) (hb : Below w.heap.size w w') (he : e = .returned (.tuple #[.string s, .iface t v])) : Post o w e w' :=
  ⟨.inr ⟨h, _, _, _, he⟩, hb⟩
theorem Post.yes' {o : Option Tx} {w w' : World} {e : Ending} {s : ByteArray} (h : o = some (tx s)) (hb : Below w.heap.size w w') (he : e = .returned (.tuple #[.string s, .nilIface])) : Post o w e w' :=
  ⟨.inl ⟨_, h, he⟩, hb⟩
theorem skipB (s : ByteArray) (w : World) (hs : s.size ≤ 1000000) : Calls Tryd.prog 87 #[.string s] w fun e w' => w = w' ∧ ∃ t, e = .returned (.string t) ∧ tx t = skip (tx s) :=
  (skipW s w hs).mono fun e w' h => ⟨h.1.symm, h.2⟩
theorem Post.none_ {w w' : World} {e : Ending} (h : Post none w e w') : (∃ s t v, e = .returned (.tuple #[.string s, .iface t v])) ∧ Below w.heap.size w w' := by
  obtain ⟨⟨s, h1, -⟩ | ⟨-, h1⟩, hb⟩ := h
  · exact absurd h1 (by simp)
  · exact ⟨h1, hb⟩
theorem Post.some_ {l : Tx} {w w' : World} {e : Ending} (h : Post (some l) w e w') : (∃ s, l = tx s ∧ e = .returned (.tuple #[.string s, .nilIface])) ∧ Below w.heap.size w w' := by
  obtain ⟨⟨s, h1, h2⟩ | ⟨h1, -⟩, hb⟩ := h
  · exact ⟨⟨s, Option.some.inj h1, h2⟩, hb⟩
  · exact absurd h1 (by simp)
set_option maxRecDepth 100000 in
set_option maxHeartbeats 8000000 in
theorem arrW (k : Nat) (IH : ValOk k) (s : ByteArray) (w : World) (hk : s.size < k) (hs : s.size ≤ 1000000) (hw : SynAt w) : Calls Tryd.prog 68 #[.string s] w (Post (arr (val k) k (tx s)) w) := by
  have HSY := Lib.hid hw
  have HIH := Lib.hid IH
  clear hw IH
  go_enter Tryd.func68, Tryd.ntmps68
  go_upto_region 2 with (first
    | (go_at_call 87; go_must (refine (skipB s _ hs).mono ?_); rintro e w' ⟨rfl, s1, rfl, ht⟩; replace ht := Lib.hid ht))
  have hs1 := skip_len ht.out
  by_cases h0 : 0 < s1.size
  · have hne := sz_ne h0
    have hz_x := bt_at s1 0 h0
    have hr_x := bt_range s1 (0 : Nat)
    obtain ⟨x, hz⟩ : ∃ z, bt s1 (0 : Nat) = z := ⟨_, rfl⟩
    obtain ⟨c, hc, hcx⟩ := cons_of h0 hz
    rw [hz] at hz_x hr_x
    clear hz
    have HX := Lib.hid hcx
    have HC := Lib.hid hc
    clear hcx hc
    by_cases h93 : x = 93
    · have HN := Lib.hid (show arr (val k) k (tx s) = some (tx (s1.extract 1 s1.size)) by
        unfold arr; rw [← ht.out, HC.out]; dsimp only; rw [if_pos ((u8 HX.out 93).2 h93), tx_ext])
      subst h93
      go_wp2
      go_ret2
      exact Post.yes' HN.out (Below.refl _ _) rfl
    · have HN := Lib.hid (show arr (val k) k (tx s) = items (val k) k (tx s1) by
        unfold arr; rw [← ht.out, HC.out]; dsimp only; rw [if_neg fun e => h93 ((u8 HX.out 93).1 e), ← HC.out])
      have hn93 : (x == 93) = false := by rw [beq_eq_false_iff_ne]; exact h93
      go_wp2
      go_loopg [0] (s.size + 1) (fun d v0 wx => ∃ (r : ByteArray) (j : Nat), v0 = .string r ∧ items (val k) j (tx r) = arr (val k) k (tx s) ∧ r.size < j ∧ r.size < d ∧ r.size ≤ s.size ∧ Below w.heap.size w wx ∧ SynAt wx)
      case atStart => exact ⟨s1, k, rfl, HN.out.symm, by omega, by omega, hs1, Below.refl _ _, HSY.out⟩
      case round =>
        obtain ⟨r, j, rfl, hj, hrj, hrd, hrs, hbw, hsy⟩ := hrel
        have HJ := Lib.hid hj
        have HRD := Lib.hid hrd
        have HBW := Lib.hid hbw
        have HSW := Lib.hid hsy
        obtain ⟨j, rfl⟩ : ∃ i, j = i + 1 := ⟨j - 1, by omega⟩
        clear hj hrd hbw hsy
        go_upto_region 8 with (first
          | (go_at_call 87; go_must (refine (skipB r _ (by omega)).mono ?_); rintro e w' ⟨rfl, r1, rfl, ht1⟩; replace ht1 := Lib.hid ht1))
        have hr1 := skip_len ht1.out
        cases hv : val k (tx r1) with
        | none =>
          have HV := Lib.hid hv
          have HN := Lib.hid (show arr (val k) k (tx s) = none by rw [← HJ.out]; exact items_none (by rw [← ht1.out]; exact hv))
          clear hv
          go_wp2_with (first
            | (go_at_call 53; go_must (refine (HIH.out r1 _ (by omega) (by omega) HSW.out).mono ?_); rintro e w1 hp; rw [HV.out] at hp; obtain ⟨⟨e1, e2, e3, rfl⟩, hb1⟩ := hp.none_; clear hp)
            | (go_at_call 45; go_must (refine (newW _ _).mono ?_); rintro e w' ⟨⟨et, ev, rfl⟩, hb⟩))
          go_ret2
          exact Post.no' HN.out (below_of (below_of HBW.out hb1) hb) rfl
        | some l =>
          have HV := Lib.hid hv
          clear hv
          go_upto_region 9 with (first
            | (go_at_call 53; go_must (refine (HIH.out r1 _ (by omega) (by omega) HSW.out).mono ?_); rintro e w1 hp; rw [HV.out] at hp; obtain ⟨⟨a, hla, rfl⟩, hb1⟩ := hp.some_; clear hp; replace hla := Lib.hid hla; replace hb1 := Lib.hid hb1))
          have HV2 := Lib.hid (show val k (tx r1) = some (tx a) by rw [HV.out, hla.out])
          have HV3 := Lib.hid (show val k (skip (tx r)) = some (tx a) by rw [← ht1.out]; exact HV2.out)
          have hal := val_len HV2.out
          have HBW2 := Lib.hid (below_of HBW.out hb1.out)
          have HSW2 := Lib.hid (HSW.out.below hb1.out)
          go_upto_region 12 with (first
            | (go_at_call 87; go_must (refine (skipB a _ (by omega)).mono ?_); rintro e w' ⟨rfl, a1, rfl, ht2⟩; replace ht2 := Lib.hid ht2))
          have ha1 := skip_len ht2.out
          by_cases h0 : 0 < a1.size
          · have hne2 := sz_ne h0
            have hz_y := bt_at a1 0 h0
            have hr_y := bt_range a1 (0 : Nat)
            obtain ⟨y, hz⟩ : ∃ z, bt a1 (0 : Nat) = z := ⟨_, rfl⟩
            obtain ⟨c2, hc, hcx⟩ := cons_of h0 hz
            rw [hz] at hz_y hr_y
            clear hz
            have HX2 := Lib.hid hcx
            obtain ⟨u, hu⟩ : ∃ u, a1.extract 1 a1.size = u := ⟨_, rfl⟩
            have HU := Lib.hid (show tx u = (tx a1).drop 1 by rw [← hu, tx_ext])
            have hul : u.size < a1.size := by rw [← hu, ByteArray.size_extract]; omega
            have HI := Lib.hid (show arr (val k) k (tx s) = if c2 = 44 then items (val k) j (tx u) else if c2 = 93 then some (tx u) else none by
              rw [← HJ.out, HU.out]; exact items_cons HV3.out (by rw [← ht2.out]; exact hc))
            clear hcx hc
            by_cases h44 : y = 44
            · have HI2 := Lib.hid (show items (val k) j (tx u) = arr (val k) k (tx s) by rw [HI.out, if_pos ((u8 HX2.out 44).2 h44)])
              subst h44
              go_wp2
              go_roundg (gk - 1)
              case measure => have := HRD.out; omega
              case rel => exact ⟨u, j, rfl, HI2.out, by omega, by have := HRD.out; omega, by omega, HBW2.out, HSW2.out⟩
            by_cases h93 : y = 93
            · have HN := Lib.hid (show arr (val k) k (tx s) = some (tx u) by rw [HI.out, if_neg (fun e => h44 ((u8 HX2.out 44).1 e)), if_pos ((u8 HX2.out 93).2 h93)])
              subst h93
              go_wp2
              go_ret2
              exact Post.yes' HN.out HBW2.out rfl
            · have HN := Lib.hid (show arr (val k) k (tx s) = none by rw [HI.out, if_neg (fun e => h44 ((u8 HX2.out 44).1 e)), if_neg (fun e => h93 ((u8 HX2.out 93).1 e))])
              go_wp2_with (first
                | (go_at_call 45; go_must (refine (newW _ _).mono ?_); rintro e w' ⟨⟨et, ev, rfl⟩, hb⟩))
              go_ret2
              exact Post.no' HN.out (below_of HBW2.out hb) rfl
          · have hz : a1.size = 0 := by omega
            have HN := Lib.hid (show arr (val k) k (tx s) = none by rw [← HJ.out]; exact items_nil HV3.out (by rw [← ht2.out, tx_nil hz]))
            clear h0 ha1
            go_wp2_with (first
              | (go_at_call 45; go_must (refine (newW _ _).mono ?_); rintro e w' ⟨⟨et, ev, rfl⟩, hb⟩))
            go_ret2
            exact Post.no' HN.out (below_of HBW2.out hb) rfl
  · have hz : s1.size = 0 := by omega
    have HN := Lib.hid (show arr (val k) k (tx s) = none by unfold arr; rw [← ht.out, tx_nil hz])
    clear h0 hs1
    go_wp2_with (first
      | (go_at_call 45; go_must (refine (newW _ _).mono ?_); rintro e w' ⟨⟨et, ev, rfl⟩, hb⟩))
    go_ret2
    exact Post.no' HN.out hb rfl
end Go.Proofs.YtgemkbpilmmajaaDoor.Fc
