/- The walk of the reference's Step. -/
import Derived.Test.YtkdkdhcjpgmjdaaGreatDoorJpFind2
namespace Go.Proofs.YtkdkdhcjpgmjdaaGreatDoor.Jp
open Go.RowKit L
set_option linter.unusedVariables false
set_option linter.unusedSimpArgs false

theorem echain_len {s : ByteArray} {n E : Nat} : ∀ {qs : List Pl} {off : Nat}, EChain s n E off qs → off + qs.length ≤ E ∧ E ≤ s.size
  | [q], off, h => by
    obtain ⟨h1, h2, h3, h4, h5, h6, -⟩ := h.1
    have a1 := skip_le isBlank s off
    have a2 := skip_le isBlank s q.e
    have a3 := h.2.2
    have a4 := lt_of_bt (s := s) (i := L.skip isBlank s q.e) (by have := h.2.1; omega)
    simp only [List.length_cons, List.length_nil]
    omega
  | q :: r :: qs, off, h => by
    obtain ⟨h1, h2, h3, h4, h5, h6, -⟩ := h.1
    have a1 := skip_le isBlank s off
    have a2 := skip_le isBlank s q.e
    have ih := echain_len h.2.2
    simp only [List.length_cons] at ih ⊢
    omega
theorem kids_len {s : ByteArray} {p : Pl} (h : IsVal s p) (h5 : p.kind = 5) : p.kids.length ≤ s.size := by
  obtain ⟨n, off, hr⟩ := h
  have hv := hr.2.2.1
  have hl := hr.2.1
  cases n with
  | zero => cases hv
  | succ n =>
    obtain ⟨-, -, ha⟩ := arr_in2 (by omega) hv h5
    rcases ha with ⟨h1, -⟩ | ⟨-, ha⟩
    · rw [h1]; exact Nat.zero_le _
    · have := echain_len ha; omega
/-- A place in memory: its five cells, and what they lead to. -/
structure Pm (w : World) (B : Nat → Prop) (p : Pl) (An : Option Addr) (nn cn : Nat) (Ak : Option Addr) (nk ck : Nat) : Prop where
  hn : nn = p.names.length
  hk : nk = p.kids.length
  names : Row w B 2 An nn cn (spv p.names)
  kids : ∃ ys, Row w B 5 Ak nk ck ys ∧ PlsC w B p.kids ys
theorem Pm.keep {w w' : World} {B : Nat → Prop} {p : Pl} {An : Option Addr} {nn cn : Nat} {Ak : Option Addr} {nk ck : Nat} (h : Pm w B p An nn cn Ak nk ck) (hk : Keeps B w w') : Pm w' B p An nn cn Ak nk ck := by
  obtain ⟨ys, h1, h2⟩ := h.kids
  exact ⟨h.hn, h.hk, h.names.keep hk, ys, h1.keep hk, h2.keep hk⟩
abbrev Pg (p : Pl) (An : Option Addr) (nn cn : Nat) (Ak : Option Addr) (nk ck : Nat) : Value := .agg #[.int .i64 (p.kind : Int), .int .i64 (p.b : Int), .int .i64 (p.e : Int), .slice An nn cn, .slice Ak nk ck]
abbrev Pz : Value := .agg #[.int .i64 0, .int .i64 0, .int .i64 0, .slice none 0 0, .slice none 0 0]
/-- What Step answers. -/
def StepPost (B : Nat → Prop) (o : Option Pl) (w : World) (e : Ending) (w' : World) : Prop := Below w.heap.size w w' ∧
  ((o = none ∧ e = .returned (.tuple #[Pz, .bool false])) ∨ ∃ q An cn Ak ck, o = some q ∧ e = .returned (.tuple #[Pg q An q.names.length cn Ak q.kids.length ck, .bool true]) ∧ Pm w' B q An q.names.length cn Ak q.kids.length ck)
theorem kidAt {w : World} {B : Nat → Prop} {p q : Pl} {An : Option Addr} {nn cn : Nat} {Ak : Option Addr} {nk ck i : Nat} (h : Pm w B p An nn cn Ak nk ck) (hq : p.kids[i]? = some q) :
    ∃ (ad : Addr) (An' : Option Addr) (cn' : Nat) (Ak' : Option Addr) (ck' : Nat), Ak = some ad ∧ ad.block < w.heap.size ∧ i < nk ∧
      w.cell? (ad.add (i * 5)) = some (.int .i64 (q.kind : Int)) ∧ w.cell? ⟨(ad.add (i * 5)).block, (ad.add (i * 5)).off + 1, none⟩ = some (.int .i64 (q.b : Int)) ∧ w.cell? ⟨(ad.add (i * 5)).block, (ad.add (i * 5)).off + 2, none⟩ = some (.int .i64 (q.e : Int)) ∧
      w.cell? ⟨(ad.add (i * 5)).block, (ad.add (i * 5)).off + 3, none⟩ = some (.slice An' q.names.length cn') ∧ w.cell? ⟨(ad.add (i * 5)).block, (ad.add (i * 5)).off + 4, none⟩ = some (.slice Ak' q.kids.length ck') ∧
      Pm w B q An' q.names.length cn' Ak' q.kids.length ck' := by
  obtain ⟨ys, h1, h2⟩ := h.kids
  obtain ⟨ad, An', cn', Ak', ck', zs, rfl, hlb, hB, d0, d1, d2, d3, d4, r1, r2, r3⟩ := rowAt h1 h2 h.hk hq
  exact ⟨ad, An', cn', Ak', ck', rfl, hlb, by rw [h.hk]; exact (List.getElem?_eq_some_iff.1 hq).1, d0, d1, d2, d3, d4, ⟨rfl, rfl, r1, zs, r2, r3⟩⟩
theorem below_b5 {B g : Nat} {w0 w : World} {u0 u1 u2 u3 u4 : Value} (h : Below B w0 w) (hg : B ≤ g) : Below B w0 (((((w.setCell ⟨g, 0, none⟩ u0).setCell ⟨g, 1, none⟩ u1).setCell ⟨g, 2, none⟩ u2).setCell ⟨g, 3, none⟩ u3).setCell ⟨g, 4, none⟩ u4) := by
  iterate 5 refine Below.setCell ?_ hg _
  exact h
set_option maxRecDepth 100000 in
set_option maxHeartbeats 8000000 in
theorem stepW (s key : ByteArray) (p : Pl) (B : Nat → Prop) (An : Option Addr) (nn cn : Nat) (Ak : Option Addr) (nk ck : Nat) (w : World) (hv : IsVal s p) (hm : Pm w B p An nn cn Ak nk ck) (hs : s.size ≤ 65536) (hks : key.size ≤ 2147483648) :
    Calls Tryz.prog 32 #[.string s, Pg p An nn cn Ak nk ck, .string key] w (StepPost B (stepP s p key) w) := by
  obtain ⟨v1, v2, v3, v4⟩ := isval_in hv
  have hk5 := fun h => kids_len hv h
  obtain ⟨w1, hw1⟩ : ∃ w1, w.alloc (.cells #[.int .i64 (p.kind : Int), .int .i64 (p.b : Int), .int .i64 (p.e : Int), .slice An nn cn, .slice Ak nk ck] 27) = w1 := ⟨_, rfl⟩
  have hb1 : Below w.heap.size w w1 := by rw [← hw1]; exact below_alloc (Below.refl _ _) _
  have hp1 : B5 w1 w.heap.size (.int .i64 (p.kind : Int)) (.int .i64 (p.b : Int)) (.int .i64 (p.e : Int)) (.slice An nn cn) (.slice Ak nk ck) := by rw [← hw1]; exact B5.new _ _ _ _ _ _
  obtain ⟨w2, hw2⟩ : ∃ w2, w1.alloc (.cells #[.int .i64 0, .int .i64 0, .int .i64 0, .slice none 0 0, .slice none 0 0] 27) = w2 := ⟨_, rfl⟩
  have hb2 : Below w1.heap.size w1 w2 := by rw [← hw2]; exact below_alloc (Below.refl _ _) _
  have hp2 : B5 w2 w1.heap.size (.int .i64 0) (.int .i64 0) (.int .i64 0) (.slice none 0 0) (.slice none 0 0) := by rw [← hw2]; exact B5.new _ _ _ _ _ _
  have hne : w.heap.size ≠ w1.heap.size := by have := hp1.lt; omega
  have hle : w.heap.size ≤ w1.heap.size := hb1.size
  have hb12 := below_of hb1 hb2
  have HP1 := Lib.hid (B5.below hp1 hb2)
  have HP2 := Lib.hid hp2
  have HB2 := Lib.hid hb12
  have HM := Lib.hid (hm.keep (Keeps.of_below hb12))
  have HM0 := Lib.hid hm
  have HV2 := Lib.hid v2
  have HV3 := Lib.hid v3
  have HK5 := Lib.hid hk5
  have HNK := Lib.hid hm.hk
  have hnkm : nk ≤ 9223372036854775807 := by obtain ⟨ys, h, -⟩ := hm.kids; have := h.2.1; have := h.2.2.1; simp only [maxLen] at this; omega
  have c0 := HP1.out.c0
  have c1 := HP1.out.c1
  have c2 := HP1.out.c2
  have c3 := HP1.out.c3
  have c4 := HP1.out.c4
  have q0 := hp2.c0
  have q1 := hp2.c1
  have q2 := hp2.c2
  have q3 := hp2.c3
  have q4 := hp2.c4
  have r0 := hp2.f 0
  have r1 := hp2.f 1
  have r2 := hp2.f 2
  have r3 := hp2.f 3
  have r4 := hp2.f 4
  clear hb1 hb2 hb12 hp1 hp2 v1 v2 v3 v4 hk5
  have zok : ∀ W : World, Below w.heap.size w W → stepP s p key = none → StepPost B (stepP s p key) w (.returned (.tuple #[Pz, .bool false])) (((((W.setCell ⟨w1.heap.size, 0, none⟩ (.int .i64 0)).setCell ⟨w1.heap.size, 1, none⟩ (.int .i64 0)).setCell ⟨w1.heap.size, 2, none⟩ (.int .i64 0)).setCell ⟨w1.heap.size, 3, none⟩ (.slice none 0 0)).setCell ⟨w1.heap.size, 4, none⟩ (.slice none 0 0)) :=
    fun W hW ho => ⟨below_b5 hW hle, .inl ⟨ho, rfl⟩⟩
  have HZ := Lib.hid zok
  clear zok
  by_cases h6 : p.kind = 6
  · have k6 : ((p.kind : Int) == 6) = true := by rw [beq_iff_eq]; omega
    have hst : stepI s p key = namedN s key p.names := by unfold stepI; rw [if_pos h6]
    cases hn : namedN s key p.names with
    | none =>
      have HST := Lib.hid (show stepP s p key = none by unfold stepP; rw [hst, hn]; rfl)
      have HN := Lib.hid (show namI (namedN s key p.names) = -1 by rw [hn]; rfl)
      clear hst hn h6
      go_enter Tryz.func32, Tryz.ntmps32
      go_wp2_with (first
        | (go_at_call 47; go_must (refine (namedW s key p.names B An nn cn _ _ _ _ (-1) _ HM.out.names HM.out.hn hs HV2.out HN.out).mono ?_); rintro e w3 ⟨rfl, hb3⟩
           have hp3 := B5.below HP2.out hb3
           have q0 := hp3.c0
           have q1 := hp3.c1
           have q2 := hp3.c2
           have q3 := hp3.c3
           have q4 := hp3.c4
           have r0 := hp3.f 0
           have r1 := hp3.f 1
           have r2 := hp3.f 2
           have r3 := hp3.f 3
           have r4 := hp3.f 4
           clear hp3
           replace hb3 := Lib.hid hb3))
      refine bodyPost_ret (v := .tuple #[Pz, .bool false]) (by simp [results, Tryz.results32, go_sem, q0, q1, q2, q3, q4]) rfl ?_
      exact HZ.out _ (below_of HB2.out hb3.out) HST.out
    | some i =>
      obtain ⟨⟨x, hx, -⟩, -⟩ := named_some hn
      have hil : i < p.names.length := (List.getElem?_eq_some_iff.1 hx).1
      obtain ⟨q, hq⟩ : ∃ q, p.kids[i]? = some q := ⟨_, List.getElem?_eq_getElem (by rw [← HV3.out h6]; exact hil)⟩
      have HST := Lib.hid (show stepP s p key = some q by unfold stepP; rw [hst, hn]; exact hq)
      have HN := Lib.hid (show namI (namedN s key p.names) = (i : Int) by rw [hn]; rfl)
      obtain ⟨ad, An', cn', Ak', ck', rfl, hlb, hik, d0, d1, d2, d3, d4, hpm⟩ := kidAt HM0.out hq
      have HPM := Lib.hid hpm
      have HQ := Lib.hid hq
      have hlb2 : (ad.add (i * 5)).block < w.heap.size := by rw [add_block]; exact hlb
      have D0 := Lib.hid d0
      have D1 := Lib.hid d1
      have D2 := Lib.hid d2
      have D3 := Lib.hid d3
      have D4 := Lib.hid d4
      have hi0 : (0 : Int) ≤ (i : Int) := by omega
      have hi1 : (i : Int) < (nk : Int) := by omega
      clear hst hn hx hil hq hpm d0 d1 d2 d3 d4 h6
      go_enter Tryz.func32, Tryz.ntmps32
      go_wp2_with (first
        | (go_at_call 47; go_must (refine (namedW s key p.names B An nn cn _ _ _ _ (i : Int) _ HM.out.names HM.out.hn hs HV2.out HN.out).mono ?_); rintro e w3 ⟨rfl, hb3⟩
           have hp3 := B5.below HP2.out hb3
           have hp4 := B5.below HP1.out hb3
           have q0 := hp3.c0
           have q1 := hp3.c1
           have q2 := hp3.c2
           have q3 := hp3.c3
           have q4 := hp3.c4
           have r0 := hp3.f 0
           have r1 := hp3.f 1
           have r2 := hp3.f 2
           have r3 := hp3.f 3
           have r4 := hp3.f 4
           have c4 := hp4.c4
           have hbb := below_of HB2.out hb3
           have d0 := (hbb.cell hlb2).trans D0.out
           have d1 := (hbb.cell (p := ⟨(ad.add (i * 5)).block, (ad.add (i * 5)).off + 1, none⟩) hlb2).trans D1.out
           have d2 := (hbb.cell (p := ⟨(ad.add (i * 5)).block, (ad.add (i * 5)).off + 2, none⟩) hlb2).trans D2.out
           have d3 := (hbb.cell (p := ⟨(ad.add (i * 5)).block, (ad.add (i * 5)).off + 3, none⟩) hlb2).trans D3.out
           have d4 := (hbb.cell (p := ⟨(ad.add (i * 5)).block, (ad.add (i * 5)).off + 4, none⟩) hlb2).trans D4.out
           clear hbb
           clear hp3 hp4
           replace hb3 := Lib.hid hb3))
      refine bodyPost_ret (v := .tuple #[Pg q An' q.names.length cn' Ak' q.kids.length ck', .bool true]) (by simp [results, Tryz.results32, go_sem, q0, q1, q2, q3, q4]) rfl ?_
      have hfin := below_b5 (u0 := .int .i64 (q.kind : Int)) (u1 := .int .i64 (q.b : Int)) (u2 := .int .i64 (q.e : Int)) (u3 := .slice An' q.names.length cn') (u4 := .slice Ak' q.kids.length ck') (below_of HB2.out hb3.out) hle
      exact ⟨hfin, .inr ⟨q, An', cn', Ak', ck', HST.out, rfl, HPM.out.keep (Keeps.of_below hfin)⟩⟩
  have k6 : ((p.kind : Int) == 6) = false := beq_eq_false_iff_ne.2 (by omega)
  by_cases h5 : p.kind = 5
  case neg =>
    have k5 : ((p.kind : Int) == 5) = false := beq_eq_false_iff_ne.2 (by omega)
    have HST := Lib.hid (show stepP s p key = none by unfold stepP stepI; rw [if_neg h6, if_neg h5]; rfl)
    go_enter Tryz.func32, Tryz.ntmps32
    go_wp2
    refine bodyPost_ret (v := .tuple #[Pz, .bool false]) (by simp [results, Tryz.results32, go_sem, q0, q1, q2, q3, q4]) rfl ?_
    exact HZ.out _ HB2.out HST.out
  have k5 : ((p.kind : Int) == 5) = true := by rw [beq_iff_eq]; omega
  have hkl := HK5.out h5
  have hst : stepI s p key = (brk key).bind fun i => if i < p.kids.length then some i else none := by unfold stepI; rw [if_neg h6, if_pos h5]
  cases hbr : brk key with
  | none =>
    have HST := Lib.hid (show stepP s p key = none by unfold stepP; rw [hst, hbr]; rfl)
    have HBR := Lib.hid hbr
    clear hst hbr h5 h6
    go_enter Tryz.func32, Tryz.ntmps32
    go_wp2_with (first
      | (go_at_call 48; refine (bracketW key _ hks).mono ?_; rintro e w3 ⟨rfl, ⟨-, rfl⟩ | ⟨m, v, hm, -⟩⟩; case inr => exact absurd (HBR.out.symm.trans hm) (by simp)))
    refine bodyPost_ret (v := .tuple #[Pz, .bool false]) (by simp [results, Tryz.results32, go_sem, q0, q1, q2, q3, q4]) rfl ?_
    exact HZ.out _ HB2.out HST.out
  | some m =>
    have HBR := Lib.hid hbr
    by_cases hmk : m < p.kids.length
    · obtain ⟨q, hq⟩ : ∃ q, p.kids[m]? = some q := ⟨_, List.getElem?_eq_getElem hmk⟩
      have HST := Lib.hid (show stepP s p key = some q by unfold stepP; rw [hst, hbr]; simp only [Option.bind_some]; rw [if_pos hmk]; exact hq)
      obtain ⟨ad, An', cn', Ak', ck', rfl, hlb, hik, d0, d1, d2, d3, d4, hpm⟩ := kidAt HM0.out hq
      have HPM := Lib.hid hpm
      have hlb2 : (ad.add (m * 5)).block < w.heap.size := by rw [add_block]; exact hlb
      have e0 := (HB2.out.cell hlb2).trans d0
      have e1 := (HB2.out.cell (p := ⟨(ad.add (m * 5)).block, (ad.add (m * 5)).off + 1, none⟩) hlb2).trans d1
      have e2 := (HB2.out.cell (p := ⟨(ad.add (m * 5)).block, (ad.add (m * 5)).off + 2, none⟩) hlb2).trans d2
      have e3 := (HB2.out.cell (p := ⟨(ad.add (m * 5)).block, (ad.add (m * 5)).off + 3, none⟩) hlb2).trans d3
      have e4 := (HB2.out.cell (p := ⟨(ad.add (m * 5)).block, (ad.add (m * 5)).off + 4, none⟩) hlb2).trans d4
      have hi0 : (0 : Int) ≤ (m : Int) := by omega
      have hi1 : (m : Int) < (nk : Int) := by omega
      have hnk2 : nk ≤ 65536 := by rw [HNK.out]; omega
      have hmk2 : m < nk := hik
      clear hmk hkl
      clear hst hbr hq hpm d0 d1 d2 d3 d4 h5 h6
      go_enter Tryz.func32, Tryz.ntmps32
      go_wp2_with (first
        | (go_at_call 48; refine (bracketW key _ hks).mono ?_; rintro e w3 ⟨rfl, ⟨hno, -⟩ | ⟨m', v, hm, rfl, hv⟩⟩; case inl => exact absurd (HBR.out.symm.trans hno) (by simp)
           obtain rfl : m = m' := Option.some.inj (HBR.out.symm.trans hm)
           obtain rfl : v = (m : Int) := by unfold IdxIs at hv; omega
           clear hm hv))
      refine bodyPost_ret (v := .tuple #[Pg q An' q.names.length cn' Ak' q.kids.length ck', .bool true]) (by simp [results, Tryz.results32, go_sem, q0, q1, q2, q3, q4]) rfl ?_
      have hfin := below_b5 (u0 := .int .i64 (q.kind : Int)) (u1 := .int .i64 (q.b : Int)) (u2 := .int .i64 (q.e : Int)) (u3 := .slice An' q.names.length cn') (u4 := .slice Ak' q.kids.length ck') HB2.out hle
      exact ⟨hfin, .inr ⟨q, An', cn', Ak', ck', HST.out, rfl, HPM.out.keep (Keeps.of_below hfin)⟩⟩
    · have HST := Lib.hid (show stepP s p key = none by unfold stepP; rw [hst, hbr]; simp only [Option.bind_some]; rw [if_neg hmk]; rfl)
      have hmk2 : nk ≤ m := by rw [HNK.out]; omega
      have hnk2 : nk ≤ 65536 := by rw [HNK.out]; omega
      clear hst hbr h5 h6 hmk hkl
      go_enter Tryz.func32, Tryz.ntmps32
      go_wp2_with (first
        | (go_at_call 48; refine (bracketW key _ hks).mono ?_; rintro e w3 ⟨rfl, ⟨hno, -⟩ | ⟨m', v, hm, rfl, hv⟩⟩; case inl => exact absurd (HBR.out.symm.trans hno) (by simp)
           obtain rfl : m = m' := Option.some.inj (HBR.out.symm.trans hm)
           have hvn : (nk : Int) ≤ v := by unfold IdxIs at hv; omega
           clear hm hv))
      refine bodyPost_ret (v := .tuple #[Pz, .bool false]) (by simp [results, Tryz.results32, go_sem, q0, q1, q2, q3, q4]) rfl ?_
      exact HZ.out _ HB2.out HST.out
end Go.Proofs.YtkdkdhcjpgmjdaaGreatDoor.Jp
