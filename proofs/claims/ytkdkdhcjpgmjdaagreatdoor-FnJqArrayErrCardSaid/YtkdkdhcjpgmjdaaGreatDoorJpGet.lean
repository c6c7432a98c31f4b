/- The walks of internalGetConfig and Get, without keys. -/
import Derived.Test.YtkdkdhcjpgmjdaaGreatDoorJpType2
import Derived.Test.YtkdkdhcjpgmjdaaGreatDoorJpType3
import Derived.Test.YtkdkdhcjpgmjdaaGreatDoorJpType4
import Derived.Test.YtkdkdhcjpgmjdaaGreatDoorJpStreamP
namespace Go.Proofs.YtkdkdhcjpgmjdaaGreatDoor.Jp
open Go.RowKit L
set_option linter.unusedVariables false
set_option linter.unusedSimpArgs false

theorem typeW (T : Nat → TypeId) (V : Nat → Value) (A : Option Addr) (s : ByteArray) (m c i : Nat) (a b : Bool) (n : Int) (w : World) (h : Rd w A s) (hE : Errs T V w) (hm : m = s.size) (hs : s.size ≤ 1000000) (hc : s.size ≤ c) (hi : i < s.size) :
    Calls Tryz.prog 85 #[.agg #[.bool a, .bool b, .int .i64 n], .slice A m c, .int .i64 (i : Int)] w (TypePost T V s i (gty a ((tx s).drop i)) w) := by
  subst hm
  obtain ⟨x, hx⟩ : ∃ x, bt s i = x := ⟨_, rfl⟩
  by_cases h34 : x = 34
  · exact typeStr 34 x a b (.inl ⟨rfl, h34⟩) T V A s c i n w h hE hs hc hi hx
  by_cases h39 : x = 39 ∧ a = true
  · exact typeStr 39 x a b (.inr ⟨rfl, h39.1, h39.2⟩) T V A s c i n w h hE hs hc hi hx
  by_cases h91 : x = 91
  · subst h91; exact typeArr a b T V A s c i n w h hE hs hc hi hx
  by_cases h123 : x = 123
  · subst h123; exact typeObj a b T V A s c i n w h hE hs hc hi hx
  exact typeTokX x a b T V A s c i n w h hE hs hc hi hx h34 (fun e => by
    cases a with
    | false => rfl
    | true => exact absurd ⟨e, rfl⟩ h39) h91 h123
theorem gty_len {sq : Bool} {l : Tx} {dt k : Nat} (h : gty sq l = .ok dt k) : dt = 1 → 2 ≤ k := fun e => by
  subst e
  cases l with
  | nil => cases h
  | cons x t =>
    unfold gty at h
    dsimp only at h
    split at h
    · rename_i hq
      split at h
      · rename_i m hm
        injection h with _ h
        have := (cls_le (q_ne hq) hm).2
        omega
      · cases h
    · repeat' split at h
      all_goals first | cases h | (injection h with h _; exact absurd h (by decide))
/-- A value's text, without the quotation marks of a string. -/
def rawOf (s : ByteArray) (dt d k : Nat) : ByteArray := if dt = 1 then s.extract (d + 1) (d + k - 1) else s.extract d (d + k)
/-- What internalGetConfig answers (no keys). -/
def IgPost (T : Nat → TypeId) (V : Nat → Value) (s : ByteArray) (g : Option (Nat × Gt)) (w : World) (e : Ending) (w' : World) : Prop :=
  (match g with
  | none => e = .returned (.tuple #[.slice none 0 0, .int .i64 0, .int .i64 0, .int .i64 (-1), .iface (T 3) (V 3)])
  | some (d, .ok dt k) => ∃ (A' : Option Addr) (n' c' : Nat), e = .returned (.tuple #[.slice A' n' c', .int .i64 (dt : Int), .int .i64 (d : Int), .int .i64 ((d + k : Nat) : Int), .nilIface]) ∧ n' = (rawOf s dt d k).size ∧ n' ≤ c' ∧ d + k ≤ s.size ∧ Rd w' A' (rawOf s dt d k)
  | some (d, .no dt err) => e = .returned (.tuple #[.slice none 0 0, .int .i64 (dt : Int), .int .i64 (d : Int), .int .i64 (d : Int), .iface (T err) (V err)])) ∧ Below w.heap.size w w'
theorem rdstrip {w : World} {ad : Addr} {s : ByteArray} {d k : Nat} (h : Rd w (some ad) (s.extract d (d + k))) (hk : 2 ≤ k) (hd : d + k ≤ s.size) : Rd w (some ⟨ad.block, ad.off + 1, none⟩) (s.extract (d + 1) (d + k - 1)) := by
  have hz : (s.extract d (d + k)).size = k := by rw [size_ext]; omega
  have h1 := h.cut (i := 1) (j := k - 1) (c := k) (by omega) (by omega)
  rw [if_neg (by omega)] at h1
  have e1 : (s.extract d (d + k)).extract 1 (k - 1) = s.extract (d + 1) (d + k - 1) := by
    rw [ByteArray.extract_extract]
    congr 1
    omega
  rw [e1] at h1
  have e2 : ad.add (1 * 1) = ⟨ad.block, ad.off + 1, none⟩ := by simp [Addr.add]
  simp only [Option.map_some, e2] at h1
  exact h1
theorem raw1 (s : ByteArray) (d k : Nat) : rawOf s 1 d k = s.extract (d + 1) (d + k - 1) := by unfold rawOf; rw [if_pos rfl]
theorem rawn (s : ByteArray) {dt : Nat} (d k : Nat) (h : ¬ dt = 1) : rawOf s dt d k = s.extract d (d + k) := by unfold rawOf; rw [if_neg h]
theorem nxt_lt {l : Tx} {d : Nat} (h : nxt l = some d) : d < l.length := by
  unfold nxt at h
  split at h
  · injection h with h; omega
  · cases h
set_option maxRecDepth 100000 in
set_option maxHeartbeats 4000000 in
theorem igetW (T : Nat → TypeId) (V : Nat → Value) (A : Option Addr) (s : ByteArray) (m c : Nat) (a b : Bool) (n : Int) (w : World) (h : Rd w A s) (hE : Errs T V w) (hm : m = s.size) (hs : s.size ≤ 1000000) (hc : s.size ≤ c) :
    Calls Tryz.prog 65 #[.agg #[.bool a, .bool b, .int .i64 n], .slice A m c, .slice none 0 0] w (IgPost T V s (getT a (tx s)) w) := by
  subst hm
  have HB := Lib.hid (below_alloc (Below.refl w.heap.size w) (.cells #[.bool a, .bool b, .int .i64 n] 97))
  have HR := Lib.hid (h.below HB.out)
  have HE := Lib.hid (hE.below HB.out)
  have hcf := CfgAt.new w a b n
  have HCF := Lib.hid hcf
  have hg0 := hcf.c0
  have hg1 := hcf.c1
  have hg2 := hcf.c2
  clear h hE hcf
  cases hn : nxt (tx s) with
  | none =>
    have HN := Lib.hid hn
    have HG := Lib.hid (show getT a (tx s) = none by unfold getT; rw [hn]; rfl)
    clear hn
    go_enter Tryz.func65, Tryz.ntmps65
    go_upto_region 5 with (fail)
    go_region_with (first
      | (go_at_call 71; refine (nextW _ s _ _ _ b n _ (HR.out.drew) (by first | rfl | omega) hs (by first | exact hc | omega)).mono ?_; rintro e w1 ⟨⟨z, rfl, hz⟩, hb1⟩; replace hb1 := Lib.hid (below_drew_one hb1); replace hz := Lib.hid hz))
    all_goals
      obtain rfl : z = -1 := by
        rcases hz.out with ⟨m, hm1, _⟩ | ⟨_, e⟩
        · rw [HN.out] at hm1; cases hm1
        · exact e
      have hg := ((HE.out.below hb1.out).e3).2
      go_wp2
      go_quiet (fail)
      go_wp2
      (try simp only [Exit.inBlock, Exit.then])
      refine bodyPost_ret (results_tmp5 rfl _ _ _) rfl ?_
      rw [HG.out]
      exact ⟨rfl, below_drewN (below_of HB.out hb1.out) _⟩
  | some d =>
    have hdl := nxt_lt hn
    rw [tx_len] at hdl
    have HN := Lib.hid hn
    obtain ⟨g, hg⟩ : ∃ g, gty a ((tx s).drop d) = g := ⟨_, rfl⟩
    have HG := Lib.hid (show getT a (tx s) = some (d, g) by unfold getT; rw [hn, ← hg]; rfl)
    have HGT := Lib.hid hg
    clear hn hg
    cases g with
    | no dt err =>
      go_enter Tryz.func65, Tryz.ntmps65
      go_upto_region 5 with (fail)
      go_region_with (first
        | (go_at_call 71; refine (nextW _ s _ _ _ b n _ (HR.out.drew) (by first | rfl | omega) hs (by first | exact hc | omega)).mono ?_; rintro e w1 ⟨⟨z, rfl, hz⟩, hb1⟩; replace hb1 := Lib.hid (below_drew_one hb1); replace hz := Lib.hid hz))
      all_goals
        obtain rfl : z = (d : Int) := by
          rcases hz.out with ⟨m, hm1, e⟩ | ⟨hm1, _⟩
          · rw [HN.out] at hm1; injection hm1 with hm1; rw [e, hm1]
          · rw [HN.out] at hm1; cases hm1
        have hd1 : ((d : Int) == -1) = false := beq_eq_false_iff_ne.2 (by omega)
        have hcf := HCF.out.below hb1.out
        have k0 := hcf.c0
        have k1 := hcf.c1
        have k2 := hcf.c2
        clear hcf
        go_wp2_with (first
          | (go_at_call 85; refine (typeW T V _ s _ _ d _ b n _ (HR.out.below hb1.out) (HE.out.below hb1.out) rfl hs hc hdl).mono ?_; rw [HGT.out]; rintro e w2 ⟨rfl, hb2⟩; replace hb2 := Lib.hid hb2))
        (try simp only [Exit.inBlock, Exit.then])
        refine bodyPost_ret (results_tmp5 rfl _ _ _) rfl ?_
        rw [HG.out]
        exact ⟨rfl, below_of (below_of HB.out hb1.out) hb2.out⟩
    | ok dt k =>
      have hk2 := gty_len HGT.out
      by_cases hdt : dt = 1
      · have hk := hk2 hdt
        subst hdt
        clear hk2
        go_enter Tryz.func65, Tryz.ntmps65
        go_upto_region 5 with (fail)
        go_region_with (first
          | (go_at_call 71; refine (nextW _ s _ _ _ b n _ (HR.out.drew) (by first | rfl | omega) hs (by first | exact hc | omega)).mono ?_; rintro e w1 ⟨⟨z, rfl, hz⟩, hb1⟩; replace hb1 := Lib.hid (below_drew_one hb1); replace hz := Lib.hid hz))
        all_goals
          obtain rfl : z = (d : Int) := by
            rcases hz.out with ⟨m, hm1, e⟩ | ⟨hm1, _⟩
            · rw [HN.out] at hm1; injection hm1 with hm1; rw [e, hm1]
            · rw [HN.out] at hm1; cases hm1
          have hd1 : ((d : Int) == -1) = false := beq_eq_false_iff_ne.2 (by omega)
          have hcf := HCF.out.below hb1.out
          have k0 := hcf.c0
          have k1 := hcf.c1
          have k2 := hcf.c2
          clear hcf
          go_wp2_with (first
            | (go_at_call 85; refine (typeW T V _ s _ _ d _ b n _ (HR.out.below hb1.out) (HE.out.below hb1.out) rfl hs hc hdl).mono ?_; rw [HGT.out]; rintro e w2 ⟨⟨A2, c2, rfl, hle, hkc, hrd⟩, hb2⟩; replace hb2 := Lib.hid hb2; obtain ⟨ad2, rfl, -⟩ := hrd (by rw [size_ext]; omega); replace hrd := Lib.hid hrd))
          all_goals
            (try simp only [Exit.inBlock, Exit.then])
            refine bodyPost_ret (results_tmp5 rfl _ _ _) rfl ?_
            rw [HG.out]
            refine ⟨⟨_, _, _, rfl, ?_, ?_, hle, ?_⟩, below_of (below_of HB.out hb1.out) hb2.out⟩
            · rw [raw1, size_ext]; omega
            · first | exact Nat.le_refl _ | omega
            · rw [raw1]; exact rdstrip hrd.out hk hle
      · have hdn : ((dt : Int) == 1) = false := beq_eq_false_iff_ne.2 (by omega)
        go_enter Tryz.func65, Tryz.ntmps65
        go_upto_region 5 with (fail)
        go_region_with (first
          | (go_at_call 71; refine (nextW _ s _ _ _ b n _ (HR.out.drew) (by first | rfl | omega) hs (by first | exact hc | omega)).mono ?_; rintro e w1 ⟨⟨z, rfl, hz⟩, hb1⟩; replace hb1 := Lib.hid (below_drew_one hb1); replace hz := Lib.hid hz))
        all_goals
          obtain rfl : z = (d : Int) := by
            rcases hz.out with ⟨m, hm1, e⟩ | ⟨hm1, _⟩
            · rw [HN.out] at hm1; injection hm1 with hm1; rw [e, hm1]
            · rw [HN.out] at hm1; cases hm1
          have hd1 : ((d : Int) == -1) = false := beq_eq_false_iff_ne.2 (by omega)
          have hcf := HCF.out.below hb1.out
          have k0 := hcf.c0
          have k1 := hcf.c1
          have k2 := hcf.c2
          clear hcf
          go_wp2_with (first
            | (go_at_call 85; refine (typeW T V _ s _ _ d _ b n _ (HR.out.below hb1.out) (HE.out.below hb1.out) rfl hs hc hdl).mono ?_; rw [HGT.out]; rintro e w2 ⟨⟨A2, c2, rfl, hle, hkc, hrd⟩, hb2⟩; replace hb2 := Lib.hid hb2; replace hrd := Lib.hid hrd))
          (try simp only [Exit.inBlock, Exit.then])
          refine bodyPost_ret (results_tmp5 rfl _ _ _) rfl ?_
          rw [HG.out]
          refine ⟨⟨_, _, _, rfl, ?_, Nat.le_refl _, hle, ?_⟩, below_of (below_of HB.out hb1.out) hb2.out⟩
          · rw [rawn _ _ _ hdt, size_ext]; omega
          · rw [rawn _ _ _ hdt]; exact hrd.out
end Go.Proofs.YtkdkdhcjpgmjdaaGreatDoor.Jp
