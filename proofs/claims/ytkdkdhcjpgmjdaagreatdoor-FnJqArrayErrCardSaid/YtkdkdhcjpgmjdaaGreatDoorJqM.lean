/- jqPlace, Seek, jqClean and jqFound: keys that lead to a value. jqFound: the place to which keys lead. io.EOF and the door's own error, as a row lists them; errors.Is of the one and the other. nextToken and searchKeys over a text; stopBy; the call back of JqArrayErr. arrayEachErr over an array to which keys lead. The walk of jpSame. FnJqArrayErr: ArrayEachErr, JqArrayErr and the walk of the law. -/
import Derived.Test.YtkdkdhcjpgmjdaaGreatDoorJpFind5
import Derived.Deep.DeepCutAuto
import Derived.Deep.CutBlock
import Derived.Deep.RegionWith
import Derived.Deep.LoopGhost
import Derived.Deep.Light
import Derived.Test.YtkdkdhcjpgmjdaaGreatDoorJsZ0
import Derived.LaidEql
import Derived.WalkKit
import Derived.Stop.Asserts
import Derived.RowKitTokens
import Derived.Deep.QuietTactic
import Derived.Deep.RegionLaw
import Derived.Test.YtkdkdhcjpgmjdaaGreatDoorJpTold
import Derived.Deep.RegionHeld3
import Derived.BigQuiet
namespace Go.Proofs.YtkdkdhcjpgmjdaaGreatDoor.Jp
section
open Go.RowKit L
set_option linter.unusedVariables false
set_option linter.unusedSimpArgs false

/-- What jqPlace answers. -/
def JqPlPost (s : ByteArray) (w : World) (e : Ending) (w' : World) : Prop :=
  Below w.heap.size w w' ∧
  ((∃ p, s.size ≤ 16384 ∧ places s = some p ∧ ∃ (k b' e' : Int) (An : Option Addr) (nn cn : Nat) (Ak : Option Addr) (nk ck : Nat), e = .returned (.tuple #[.agg #[.int .i64 k, .int .i64 b', .int .i64 e', .slice An nn cn, .slice Ak nk ck], .bool true]) ∧
      PlC w' (From w.heap.size) p [.int .i64 k, .int .i64 b', .int .i64 e', .slice An nn cn, .slice Ak nk ck]) ∨
   (e = .returned (.tuple #[.agg #[.int .i64 0, .int .i64 0, .int .i64 0, .slice none 0 0, .slice none 0 0], .bool false])))
set_option maxRecDepth 100000 in
set_option maxHeartbeats 4000000 in
theorem jqPlaceW (s : ByteArray) (w : World) (hs : s.size ≤ 2147483648) : Calls Tryz.prog 10 #[.string s] w (JqPlPost s w) := by
  obtain ⟨w1, hw1⟩ : ∃ w1, w.alloc (.cells #[.int .i64 0, .int .i64 0, .int .i64 0, .slice none 0 0, .slice none 0 0] 27) = w1 := ⟨_, rfl⟩
  have HB1 := Lib.hid (show Below w.heap.size w w1 by rw [← hw1]; exact below_alloc (Below.refl _ _) _)
  have hp0 : B5 w1 w.heap.size (.int .i64 0) (.int .i64 0) (.int .i64 0) (.slice none 0 0) (.slice none 0 0) := by rw [← hw1]; exact B5.new _ _ _ _ _ _
  have HZ := Lib.hid (show w1.heap.size = w.heap.size + 1 by rw [← hw1]; simp)
  have q0 := hp0.c0
  have q1 := hp0.c1
  have q2 := hp0.c2
  have q3 := hp0.c3
  have q4 := hp0.c4
  have r0 := hp0.f 0
  have r1 := hp0.f 1
  have r2 := hp0.f 2
  have r3 := hp0.f 3
  have r4 := hp0.f 4
  have HP0 := Lib.hid hp0
  clear hp0
  by_cases hbig : 16384 < s.size
  · go_enter Tryz.func10, Tryz.ntmps10
    go_wp2
    refine bodyPost_ret (v := .tuple #[.agg #[.int .i64 0, .int .i64 0, .int .i64 0, .slice none 0 0, .slice none 0 0], .bool false]) (by simp [results, Tryz.results10, go_sem, q0, q1, q2, q3, q4]) rfl ?_
    refine ⟨?_, .inr rfl⟩
    iterate 5 with_reducible refine below_set ?_ (Nat.le_refl _) _
    exact HB1.out
  · cases hp : places s with
    | none =>
      have HP := Lib.hid hp
      clear hp
      go_enter Tryz.func10, Tryz.ntmps10
      go_wp2_with (first
        | (go_at_call 28; refine (placesW s _ hs).mono ?_; rintro e w2 ⟨hb2, ⟨p, hp, _⟩ | ⟨_, rfl⟩⟩; case inl => exact absurd (HP.out.symm.trans hp) (by simp)
           have hp2 := B5.below HP0.out hb2
           have q0 := hp2.c0
           have q1 := hp2.c1
           have q2 := hp2.c2
           have q3 := hp2.c3
           have q4 := hp2.c4
           have r0 := hp2.f 0
           have r1 := hp2.f 1
           have r2 := hp2.f 2
           have r3 := hp2.f 3
           have r4 := hp2.f 4
           clear hp2
           replace hb2 := Lib.hid hb2))
      refine bodyPost_ret (v := .tuple #[.agg #[.int .i64 0, .int .i64 0, .int .i64 0, .slice none 0 0, .slice none 0 0], .bool false]) (by simp [results, Tryz.results10, go_sem, q0, q1, q2, q3, q4]) rfl ?_
      refine ⟨?_, .inr rfl⟩
      iterate 5 with_reducible refine below_set ?_ (Nat.le_refl _) _
      exact below_of HB1.out hb2.out
    | some p =>
      have HP := Lib.hid hp
      clear hp
      go_enter Tryz.func10, Tryz.ntmps10
      go_wp2_with (first
        | (go_at_call 28; refine (placesW s _ hs).mono ?_; rintro e w2 ⟨hb2, ⟨p', hp, k, b', e', An, nn, cn, Ak, nk, ck, rfl, hPl⟩ | ⟨hp, _⟩⟩; case inr => exact absurd (HP.out.symm.trans hp) (by simp)
           obtain rfl : p = p' := Option.some.inj (HP.out.symm.trans hp)
           clear hp
           have hp2 := B5.below HP0.out hb2
           have q0 := hp2.c0
           have q1 := hp2.c1
           have q2 := hp2.c2
           have q3 := hp2.c3
           have q4 := hp2.c4
           have r0 := hp2.f 0
           have r1 := hp2.f 1
           have r2 := hp2.f 2
           have r3 := hp2.f 3
           have r4 := hp2.f 4
           clear hp2
           replace hb2 := Lib.hid hb2
           replace hPl := Lib.hid hPl))
      refine bodyPost_ret (v := .tuple #[.agg #[.int .i64 k, .int .i64 b', .int .i64 e', .slice An nn cn, .slice Ak nk ck], .bool true]) (by simp [results, Tryz.results10, go_sem, q0, q1, q2, q3, q4]) rfl ?_
      refine ⟨?_, .inl ⟨p, by omega, HP.out, k, b', e', An, nn, cn, Ak, nk, ck, rfl, (hPl.out.keep ?_).mono fun j _ hj => by have := HZ.out; simp only [From] at hj ⊢; omega⟩⟩
      · iterate 5 with_reducible refine below_set ?_ (Nat.le_refl _) _
        exact below_of HB1.out hb2.out
      · refine ⟨by simp [World.setCell], fun t ht _ => ?_⟩
        have := HZ.out
        simp only [From] at ht
        iterate 5 rw [Below.heap_setCell _ _ _ t (by simp; omega)]
theorem keep_b5B {B : Nat → Prop} {g n : Nat} {w : World} {u0 u1 u2 u3 u4 : Value} (hg : n ≤ g) : Keeps (fun j => B j ∧ j < n) w (((((w.setCell ⟨g, 0, none⟩ u0).setCell ⟨g, 1, none⟩ u1).setCell ⟨g, 2, none⟩ u2).setCell ⟨g, 3, none⟩ u3).setCell ⟨g, 4, none⟩ u4) := ⟨(keep_b5 hg).size, fun t ht hl => (keep_b5 hg).block t ht.2 hl⟩
theorem b5_d {w : World} {g : Nat} {v0 v1 v2 v3 v4 : Value} (h : B5 w g v0 v1 v2 v3 v4) : B5 w.drew g v0 v1 v2 v3 v4 := h
theorem b5_da (w : World) (v0 v1 v2 v3 v4 : Value) : B5 (w.alloc (.cells #[v0, v1, v2, v3, v4] 27)).drew w.heap.size v0 v1 v2 v3 v4 := b5_d (B5.new w v0 v1 v2 v3 v4)
theorem bel_d (w : World) : Below w.heap.size w w.drew := ⟨rfl, rfl, rfl, Nat.le_refl _, fun _ _ => rfl⟩
theorem bel_da (w : World) (o : Obj) : Below w.heap.size w (w.alloc o).drew := (below_alloc (Below.refl _ _) o).trans ((bel_d (w.alloc o)).mono (by simp))
theorem bel_at {w w' : World} (h : Below w.drew.heap.size w.drew w') : Below w.heap.size w w' := below_drew_one h
theorem bel_at2 {w w' : World} {o : Obj} (h : Below (w.alloc o).drew.heap.size (w.alloc o).drew w') : Below w.heap.size w w' := below_of (bel_da w o) h
/-- Where keys lead, one after the other. -/
def seekP (s : ByteArray) : Pl → List ByteArray → Option Pl
  | p, [] => some p
  | p, k :: ks => match stepP s p k with | none => none | some q => seekP s q ks
/-- Names through objects do not begin with a bracket, as far as the keys lead. -/
def cleanP (s : ByteArray) : Pl → List ByteArray → Bool
  | _, [] => true
  | p, k :: ks => if p.kind ≠ 5 ∧ isIdx k = true then false else match stepP s p k with | none => true | some q => cleanP s q ks
theorem found_of {s : ByteArray} : ∀ {ks : List ByteArray} {p r : Pl}, cleanP s p ks = true → seekP s p ks = some r → foundP s p ks = some r
  | [], p, r, _, h => h
  | k :: ks, p, r, hc, h => by
    unfold cleanP at hc
    unfold seekP at h
    unfold foundP
    split at hc
    · cases hc
    · rename_i hn
      rw [if_neg (fun e => hn ⟨by omega, e.2⟩)]
      cases hs : stepP s p k with
      | none => rw [hs] at h; cases h
      | some q =>
        rw [hs] at h hc
        exact found_of hc h
theorem seek_cons {s : ByteArray} {p : Pl} {k : ByteArray} {ks : List ByteArray} : seekP s p (k :: ks) = match stepP s p k with | none => none | some q => seekP s q ks := rfl
theorem clean_cons {s : ByteArray} {p : Pl} {k : ByteArray} {ks : List ByteArray} : cleanP s p (k :: ks) = if p.kind ≠ 5 ∧ isIdx k = true then false else match stepP s p k with | none => true | some q => cleanP s q ks := rfl
theorem step_val {s : ByteArray} {p q : Pl} {key : ByteArray} (hv : IsVal s p) (h : stepP s p key = some q) : IsVal s q := by
  unfold stepP at h
  obtain ⟨i, -, hi⟩ := Option.bind_eq_some_iff.1 h
  exact (isval_in hv).1 q (List.mem_of_getElem? hi)
/-- A walk stands at key j: its place's box is b. -/
structure StAt (s : ByteArray) (w : World) (B : Nat → Prop) (b : Nat) (wr : World) (p : Pl) (An : Option Addr) (nn cn : Nat) (Ak : Option Addr) (nk ck : Nat) : Prop where
  val : IsVal s p
  mem : Pm wr (fun i => B i ∧ i < w.heap.size) p An nn cn Ak nk ck
  box : B5 wr b (.int .i64 (p.kind : Int)) (.int .i64 (p.b : Int)) (.int .i64 (p.e : Int)) (.slice An nn cn) (.slice Ak nk ck)
  bel : Below w.heap.size w wr
theorem StAt.below {s : ByteArray} {w wr wx : World} {B : Nat → Prop} {b : Nat} {p : Pl} {An : Option Addr} {nn cn : Nat} {Ak : Option Addr} {nk ck : Nat} (h : StAt s w B b wr p An nn cn Ak nk ck) (hb : Below wr.heap.size wr wx) : StAt s w B b wx p An nn cn Ak nk ck :=
  ⟨h.val, h.mem.keep (Keeps.of_below hb), B5.below h.box hb, below_of h.bel hb⟩
/-- What Seek answers. -/
def SeekPost (s : ByteArray) (B : Nat → Prop) (p : Pl) (ks : List ByteArray) (w : World) (e : Ending) (w' : World) : Prop := Below w.heap.size w w' ∧
  ((∃ r An cn Ak ck, seekP s p ks = some r ∧ IsVal s r ∧ e = .returned (.tuple #[Pg r An r.names.length cn Ak r.kids.length ck, .bool true]) ∧ Pm w' (fun i => B i ∧ i < w.heap.size) r An r.names.length cn Ak r.kids.length ck) ∨
   (seekP s p ks = none ∧ e = .returned (.tuple #[Pz, .bool false])))
set_option maxRecDepth 100000 in
set_option maxHeartbeats 8000000 in
theorem seekW (s : ByteArray) (ks : List ByteArray) (p0 : Pl) (B B2 : Nat → Prop) (An0 : Option Addr) (nn0 cn0 : Nat) (Ak0 : Option Addr) (nk0 ck0 : Nat) (A : Option Addr) (n c : Nat) (w : World) (hv : IsVal s p0) (hm : Pm w B p0 An0 nn0 cn0 Ak0 nk0 ck0) (hR : Row w B2 1 A n c (keysV ks)) (hks : ∀ k ∈ ks, k.size ≤ 2147483647) (hsz : s.size ≤ 65536) :
    Calls Tryz.prog 15 #[.string s, Pg p0 An0 nn0 cn0 Ak0 nk0 ck0, .slice A n c] w (SeekPost s B p0 ks w) := by
  obtain ⟨hn, hnm⟩ := keys_len hR
  obtain ⟨w1, hw1⟩ : ∃ w1, w.alloc (.cells #[.int .i64 (p0.kind : Int), .int .i64 (p0.b : Int), .int .i64 (p0.e : Int), .slice An0 nn0 cn0, .slice Ak0 nk0 ck0] 27) = w1 := ⟨_, rfl⟩
  obtain ⟨w2, hw2⟩ : ∃ w2, w1.alloc (.cells #[.int .i64 0, .int .i64 0, .int .i64 0, .slice none 0 0, .slice none 0 0] 27) = w2 := ⟨_, rfl⟩
  have hb1 : Below w.heap.size w w1 := by rw [← hw1]; exact below_alloc (Below.refl _ _) _
  have hb2 : Below w1.heap.size w1 w2 := by rw [← hw2]; exact below_alloc (Below.refl _ _) _
  have hz1 : w1.heap.size = w.heap.size + 1 := by rw [← hw1]; simp
  have hp1 : B5 w2 w.heap.size (.int .i64 (p0.kind : Int)) (.int .i64 (p0.b : Int)) (.int .i64 (p0.e : Int)) (.slice An0 nn0 cn0) (.slice Ak0 nk0 ck0) := B5.below (by rw [← hw1]; exact B5.new _ _ _ _ _ _) hb2
  have hz2 : B5 w2 w1.heap.size (.int .i64 0) (.int .i64 0) (.int .i64 0) (.slice none 0 0) (.slice none 0 0) := by rw [← hw2]; exact B5.new _ _ _ _ _ _
  have HS := Lib.hid (show StAt s w B w.heap.size w2 p0 An0 nn0 cn0 Ak0 nk0 ck0 from ⟨hv, (hm.mono (fun j hj hb => ⟨hb, hj⟩)).keep (Keeps.of_below (below_of hb1 hb2)), hp1, below_of hb1 hb2⟩)
  have HZ2 := Lib.hid hz2
  have HZ1 := Lib.hid hz1
  have HR := Lib.hid hR
  have HN := Lib.hid hn
  have HKS := Lib.hid hks
  have hlt1 : w.heap.size < w1.heap.size := by omega
  clear hb1 hb2 hp1 hz2 hv hm hR hn hks hz1
  go_enter Tryz.func15, Tryz.ntmps15
  go_wp2_with (fail)
  go_loopg [14] n (fun d v14 wr => ∃ (j : Nat) (p : Pl) (An : Option Addr) (nn cn : Nat) (Ak : Option Addr) (nk ck : Nat), v14 = .int .i64 (j : Int) ∧ j ≤ n ∧ n - j ≤ d ∧ StAt s w B w.heap.size wr p An nn cn Ak nk ck ∧ B5 wr w1.heap.size (.int .i64 0) (.int .i64 0) (.int .i64 0) (.slice none 0 0) (.slice none 0 0) ∧ seekP s p (ks.drop j) = seekP s p0 ks)
  case atStart => exact ⟨0, p0, _, _, _, _, _, _, rfl, by omega, by omega, HS.out, HZ2.out, rfl⟩
  case round =>
    obtain ⟨j, p, An, nn, cn, Ak, nk, ck, rfl, hj, hd, hS, hZ, hE⟩ := hrel
    have HD := Lib.hid hd
    have HSr := Lib.hid hS
    have HZr := Lib.hid hZ
    have c0 := hS.box.c0
    have c1 := hS.box.c1
    have c2 := hS.box.c2
    have c3 := hS.box.c3
    have c4 := hS.box.c4
    have f0 := hS.box.f 0
    have f1 := hS.box.f 1
    have f2 := hS.box.f 2
    have f3 := hS.box.f 3
    have f4 := hS.box.f 4
    have q0 := hZ.c0
    have q1 := hZ.c1
    have q2 := hZ.c2
    have q3 := hZ.c3
    have q4 := hZ.c4
    have r0 := hZ.f 0
    have r1 := hZ.f 1
    have r2 := hZ.f 2
    have r3 := hZ.f 3
    have r4 := hZ.f 4
    have HEr := Lib.hid hE
    clear hd hS hZ hE
    by_cases hlt : j < n
    · obtain ⟨key, hk⟩ : ∃ x, ks[j]? = some x := ⟨_, List.getElem?_eq_getElem (by rw [← HN.out]; exact hlt)⟩
      obtain ⟨ad, rfl, hlb, hc⟩ := keyAt (HR.out.keep (Keeps.of_below HSr.out.bel)) hk
      have hksz := HKS.out key (List.mem_of_getElem? hk)
      have HON := Lib.hid (show seekP s p (key :: ks.drop (j + 1)) = seekP s p0 ks by rw [← drop_key hk]; exact HEr.out)
      clear hk
      cases hst : stepP s p key with
      | none =>
        have HST := Lib.hid hst
        have HFN := Lib.hid (show seekP s p0 ks = none by rw [← HON.out, seek_cons, hst])
        clear hst
        go_upto_region 5 with (first
          | (go_at_call 32; (with_reducible refine (stepW s key p _ An nn cn Ak nk ck _ HSr.out.val HSr.out.mem hsz (by omega)).mono ?_); rintro e w4 ⟨hb4, ⟨-, rfl⟩ | ⟨q, Aq, cq, Ar, cr, hq, -⟩⟩; case inr => exact absurd (HST.out.symm.trans hq) (by simp)
             replace hb4 := Lib.hid hb4))
        obtain ⟨w5, hw5⟩ : ∃ w5, w4.alloc (.cells #[.int .i64 0, .int .i64 0, .int .i64 0, .slice none 0 0, .slice none 0 0] 27) = w5 := ⟨_, rfl⟩
        have hba : Below w4.heap.size w4 w5 := by rw [← hw5]; exact below_alloc (Below.refl _ _) _
        have hz4 := B5.below (B5.below HZr.out hb4.out) hba
        have HB5 := Lib.hid (below_of hb4.out hba)
        rw [hw5]
        clear q0 q1 q2 q3 q4 r0 r1 r2 r3 r4 hba hw5
        have q0 := hz4.c0
        have q1 := hz4.c1
        have q2 := hz4.c2
        have q3 := hz4.c3
        have q4 := hz4.c4
        have r0 := hz4.f 0
        have r1 := hz4.f 1
        have r2 := hz4.f 2
        have r3 := hz4.f 3
        have r4 := hz4.f 4
        clear hz4
        go_wp2
        refine bodyPost_ret (v := .tuple #[Pz, .bool false]) (by simp [results, Tryz.results15, go_sem, q0, q1, q2, q3, q4]) rfl ?_
        exact ⟨below_b5 (below_of HSr.out.bel HB5.out) (by omega), .inr ⟨HFN.out, rfl⟩⟩
      | some q =>
        have HON2 := Lib.hid (show seekP s q (ks.drop (j + 1)) = seekP s p0 ks by rw [← HON.out, seek_cons, hst])
        have HST := Lib.hid hst
        have HVQ := Lib.hid (step_val HSr.out.val hst)
        clear hst
        go_upto_region 5 with (first
          | (go_at_call 32; (with_reducible refine (stepW s key p _ An nn cn Ak nk ck _ HSr.out.val HSr.out.mem hsz (by omega)).mono ?_); rintro e w4 ⟨hb4, ⟨hq, -⟩ | ⟨q', Aq, cq, Ar, cr, hq, rfl, hpm⟩⟩; case inl => exact absurd (HST.out.symm.trans hq) (by simp)
             obtain rfl : q = q' := Option.some.inj (HST.out.symm.trans hq)
             clear hq
             replace hpm := Lib.hid hpm
             replace hb4 := Lib.hid hb4))
        obtain ⟨w5, hw5⟩ : ∃ w5, w4.alloc (.cells #[.int .i64 (q.kind : Int), .int .i64 (q.b : Int), .int .i64 (q.e : Int), .slice Aq q.names.length cq, .slice Ar q.kids.length cr] 27) = w5 := ⟨_, rfl⟩
        have hba : Below w4.heap.size w4 w5 := by rw [← hw5]; exact below_alloc (Below.refl _ _) _
        have hq5 : B5 w5 w4.heap.size (.int .i64 (q.kind : Int)) (.int .i64 (q.b : Int)) (.int .i64 (q.e : Int)) (.slice Aq q.names.length cq) (.slice Ar q.kids.length cr) := by rw [← hw5]; exact B5.new _ _ _ _ _ _
        have hbx := B5.below (B5.below HSr.out.box hb4.out) hba
        have HB5 := Lib.hid (below_of hb4.out hba)
        have HZ5 := Lib.hid (B5.below HZr.out HB5.out)
        have HPM := Lib.hid (hpm.out.keep (Keeps.of_below hba))
        rw [hw5]
        clear c0 c1 c2 c3 c4 f0 f1 f2 f3 f4 q0 q1 q2 q3 q4 r0 r1 r2 r3 r4 hba hw5
        have q0 := hq5.c0
        have q1 := hq5.c1
        have q2 := hq5.c2
        have q3 := hq5.c3
        have q4 := hq5.c4
        have c0 := hbx.c0
        have c1 := hbx.c1
        have c2 := hbx.c2
        have c3 := hbx.c3
        have c4 := hbx.c4
        have f0 := hbx.f 0
        have f1 := hbx.f 1
        have f2 := hbx.f 2
        have f3 := hbx.f 3
        have f4 := hbx.f 4
        replace hbx := Lib.hid hbx
        clear hq5
        go_wp2
        go_roundg (gk - 1)
        case measure => have := HD.out; omega
        case rel => exact ⟨j + 1, q, Aq, q.names.length, cq, Ar, q.kids.length, cr, by go_num, by omega, by have := HD.out; omega, ⟨HVQ.out, HPM.out.keep (keep_b5B (Nat.le_refl _)), b5_put hbx.out, below_b5 (below_of HSr.out.bel HB5.out) (Nat.le_refl _)⟩, b5_other (by omega) HZ5.out, HON2.out⟩
    · have HE := Lib.hid (show seekP s p0 ks = some p by rw [← HEr.out, List.drop_eq_nil_of_le (by rw [← HN.out]; omega)]; rfl)
      have hhn := HSr.out.mem.hn
      have hhk := HSr.out.mem.hk
      subst hhn hhk
      go_wp2
      refine bodyPost_ret (v := .tuple #[Pg p An p.names.length cn Ak p.kids.length ck, .bool true]) (by simp [results, Tryz.results15, go_sem, q0, q1, q2, q3, q4]) rfl ?_
      refine ⟨below_b5 HSr.out.bel (by omega), .inl ⟨p, An, cn, Ak, ck, HE.out, HSr.out.val, rfl, ?_⟩⟩
      exact HSr.out.mem.keep (keep_b5B (by omega))
set_option maxRecDepth 100000 in
set_option maxHeartbeats 8000000 in
theorem cleanW (s : ByteArray) (ks : List ByteArray) (p0 : Pl) (B B2 : Nat → Prop) (An0 : Option Addr) (nn0 cn0 : Nat) (Ak0 : Option Addr) (nk0 ck0 : Nat) (A : Option Addr) (n c : Nat) (b : Bool) (w : World) (hv : IsVal s p0) (hm : Pm w B p0 An0 nn0 cn0 Ak0 nk0 ck0) (hR : Row w B2 1 A n c (keysV ks)) (hks : ∀ k ∈ ks, k.size ≤ 2147483647) (hsz : s.size ≤ 65536) (hb : cleanP s p0 ks = b) :
    Calls Tryz.prog 22 #[.string s, Pg p0 An0 nn0 cn0 Ak0 nk0 ck0, .slice A n c] w fun e w' => e = .returned (.bool b) ∧ Below w.heap.size w w' := by
  obtain ⟨hn, hnm⟩ := keys_len hR
  obtain ⟨w1, hw1⟩ : ∃ w1, w.alloc (.cells #[.int .i64 (p0.kind : Int), .int .i64 (p0.b : Int), .int .i64 (p0.e : Int), .slice An0 nn0 cn0, .slice Ak0 nk0 ck0] 27) = w1 := ⟨_, rfl⟩
  have hb1 : Below w.heap.size w w1 := by rw [← hw1]; exact below_alloc (Below.refl _ _) _
  have hp1 : B5 w1 w.heap.size (.int .i64 (p0.kind : Int)) (.int .i64 (p0.b : Int)) (.int .i64 (p0.e : Int)) (.slice An0 nn0 cn0) (.slice Ak0 nk0 ck0) := by rw [← hw1]; exact B5.new _ _ _ _ _ _
  have HS := Lib.hid (show StAt s w B w.heap.size w1 p0 An0 nn0 cn0 Ak0 nk0 ck0 from ⟨hv, (hm.mono (fun j hj hb => ⟨hb, hj⟩)).keep (Keeps.of_below hb1), hp1, hb1⟩)
  have HR := Lib.hid hR
  have HN := Lib.hid hn
  have HKS := Lib.hid hks
  have HC := Lib.hid hb
  clear hb1 hp1 hv hm hR hn hks hb
  go_enter Tryz.func22, Tryz.ntmps22
  go_wp2_with (fail)
  go_loopg [7] n (fun d v7 wr => ∃ (j : Nat) (p : Pl) (An : Option Addr) (nn cn : Nat) (Ak : Option Addr) (nk ck : Nat), v7 = .int .i64 (j : Int) ∧ j ≤ n ∧ n - j ≤ d ∧ StAt s w B w.heap.size wr p An nn cn Ak nk ck ∧ cleanP s p (ks.drop j) = b)
  case atStart => exact ⟨0, p0, _, _, _, _, _, _, rfl, by omega, by omega, HS.out, HC.out⟩
  case round =>
    obtain ⟨j, p, An, nn, cn, Ak, nk, ck, rfl, hj, hd, hS, hE⟩ := hrel
    have HD := Lib.hid hd
    have HSr := Lib.hid hS
    have c0 := hS.box.c0
    have c1 := hS.box.c1
    have c2 := hS.box.c2
    have c3 := hS.box.c3
    have c4 := hS.box.c4
    have f0 := hS.box.f 0
    have f1 := hS.box.f 1
    have f2 := hS.box.f 2
    have f3 := hS.box.f 3
    have f4 := hS.box.f 4
    have HEr := Lib.hid hE
    clear hd hS hE
    by_cases hlt : j < n
    · obtain ⟨key, hk⟩ : ∃ x, ks[j]? = some x := ⟨_, List.getElem?_eq_getElem (by rw [← HN.out]; exact hlt)⟩
      obtain ⟨ad, rfl, hlb, hc⟩ := keyAt (HR.out.keep (Keeps.of_below HSr.out.bel)) hk
      have hksz := HKS.out key (List.mem_of_getElem? hk)
      have HON := Lib.hid (show cleanP s p (key :: ks.drop (j + 1)) = b by rw [← drop_key hk]; exact HEr.out)
      clear hk
      have hlb2 : (ad.add j).block < wr.heap.size := by rw [add_block]; exact hlb
      have hbl : w.heap.size < wr.heap.size := HSr.out.box.lt
      have i1 : IntKind.i64.wrap ((j : Int) + 1) = (j : Int) + 1 := IntWalk.i64_in _ (by have := (keys_len HR.out).2; omega)
      obtain ⟨bad, hbad⟩ : ∃ z, decide (p.kind ≠ 5 ∧ isIdx key = true) = z := ⟨_, rfl⟩
      have HBAD := Lib.hid hbad
      have HC0 := Lib.hid hc
      go_upto_region 4 with (fail)
      go_cut [33] (fun v33 wx => v33 = .bool bad ∧ Below wr.heap.size wr wx)
      case first =>
        by_cases h5 : p.kind = 5
        · have k5 : ((p.kind : Int) == 5) = true := by rw [beq_iff_eq]; omega
          have k5b : ((p.kind : Int) != 5) = false := by rw [bne, k5]; rfl
          obtain rfl : bad = false := by rw [← hbad]; simp [h5]
          clear h5 hbad
          go_wp2_with (fail)
          go_meet
          case rel => exact ⟨rfl, Below.refl _ _⟩
        · have k5 : ((p.kind : Int) == 5) = false := beq_eq_false_iff_ne.2 (by omega)
          have k5b : ((p.kind : Int) != 5) = true := by rw [bne, k5]; rfl
          by_cases h0 : key.size = 0
          · have hl : key.toList = [] := (nil_iff key).2 h0
            have hl2 : key.toList.isEmpty = true := by rw [hl]; rfl
            have hl3 : (key.toList == []) = true := by rw [hl]; rfl
            have hl4 : (key.toList != []) = false := by rw [hl]; rfl
            obtain rfl : bad = false := by rw [← hbad]; simp [isIdx, bt_out key 0 (by omega)]
            clear h5 hbad hl
            go_wp2_with (fail)
            go_meet
            case rel => exact ⟨rfl, Below.refl _ _⟩
          · have hne : ¬ key.toList = [] := fun e => h0 ((nil_iff key).1 e)
            have hl2 : key.toList.isEmpty = false := by cases h : key.toList with | nil => exact absurd h hne | cons a b => rfl
            have hl3 : (key.toList == []) = false := by cases h : key.toList with | nil => exact absurd h hne | cons a b => rfl
            have hl4 : (key.toList != []) = true := by cases h : key.toList with | nil => exact absurd h hne | cons a b => rfl
            have x0 : ∀ h : 0 < key.size, ((key[0]'h).toNat : Int) = bt key ((0 : Nat) : Int) := bt_at key 0
            have h00 : 0 < key.size := by omega
            obtain ⟨z0, hz0⟩ : ∃ c, bt key ((0 : Nat) : Int) = c := ⟨_, rfl⟩
            have hbz : bad = decide (z0 = 91) := by rw [← hbad, ← hz0]; simp [isIdx, h5]
            rw [hz0] at x0
            clear hz0 hbad h0
            by_cases h91 : z0 = 91
            · obtain rfl : bad = true := by rw [hbz]; simp [h91]
              subst h91
              clear hbz h5
              go_wp2_with (fail)
              go_meet
              case rel => exact ⟨rfl, Below.refl _ _⟩
            · obtain rfl : bad = false := by rw [hbz]; simp [h91]
              have h91b : (z0 == 91) = false := beq_eq_false_iff_ne.2 h91
              clear hbz h5
              go_wp2_with (fail)
              go_meet
              case rel => exact ⟨rfl, Below.refl _ _⟩
      case rest =>
      obtain ⟨rfl, hbx⟩ := hcut
      obtain ⟨wr2, hw5⟩ : ∃ x, x = wc := ⟨_, rfl⟩
      subst hw5
      have HSs := Lib.hid (HSr.out.below hbx)
      clear hbad c0 c1 c2 c3 c4 f0 f1 f2 f3 f4 hc
      cases bad with
      | true =>
        obtain rfl : b = false := by rw [← HON.out, clean_cons, if_pos (of_decide_eq_true HBAD.out)]
        go_wp2
        go_ret
        exact ⟨rfl, HSs.out.bel⟩
      | false =>
        have HNB := Lib.hid (of_decide_eq_false HBAD.out)
        have hcx := (hbx.cell hlb2).trans HC0.out
        have hlb3 : (ad.add j).block < wr2.heap.size := Nat.lt_of_lt_of_le hlb2 hbx.size
        have hbl3 : w.heap.size < wr2.heap.size := HSs.out.box.lt
        have c0 := HSs.out.box.c0
        have c1 := HSs.out.box.c1
        have c2 := HSs.out.box.c2
        have c3 := HSs.out.box.c3
        have c4 := HSs.out.box.c4
        have f0 := HSs.out.box.f 0
        have f1 := HSs.out.box.f 1
        have f2 := HSs.out.box.f 2
        have f3 := HSs.out.box.f 3
        have f4 := HSs.out.box.f 4
        clear hlb2 hbl
        cases hst : stepP s p key with
        | none =>
          obtain rfl : b = true := by rw [← HON.out, clean_cons, if_neg HNB.out, hst]
          have HST := Lib.hid (fun (W : World) (hW : Below wr2.heap.size wr2 W) => (show Calls Tryz.prog 32 #[.string s, Pg p An nn cn Ak nk ck, .string key] W fun e w' => e = .returned (.tuple #[Pz, .bool false]) ∧ Below W.heap.size W w' from by
            refine (stepW s key p _ An nn cn Ak nk ck W HSs.out.val (HSs.out.mem.keep (Keeps.of_below hW)) hsz (by omega)).mono ?_
            rintro e w4 ⟨hb4, ⟨-, rfl⟩ | ⟨q, Aq, cq, Ar, cr, hq, -⟩⟩
            · exact ⟨rfl, hb4⟩
            · rw [hst] at hq; cases hq))
          clear hst
          go_upto_region 6 with (fail)
          go_cut [8, 9] (fun v8 v9 wx => v9 = .bool false ∧ Below wr2.heap.size wr2 wx)
          case first =>
            go_region_with (first
              | (go_at_call 32; (with_reducible refine (HST.out _ ?_).mono ?_); (first | exact bel_d _ | exact bel_da _ _); rintro e w4 ⟨rfl, hb4⟩
                 (try have hz5 := B5.below (b5_da wr2 (.int .i64 0) (.int .i64 0) (.int .i64 0) (.slice none 0 0) (.slice none 0 0)) hb4)
                 (try have q0 := hz5.c0)
                 (try have q1 := hz5.c1)
                 (try have q2 := hz5.c2)
                 (try have q3 := hz5.c3)
                 (try have q4 := hz5.c4)
                 (try have r0 := hz5.f 0)
                 (try have r1 := hz5.f 1)
                 (try have r2 := hz5.f 2)
                 (try have r3 := hz5.f 3)
                 (try have r4 := hz5.f 4)
                 (try replace hz5 := Lib.hid hz5)
                 replace hb4 := Lib.hid hb4))
            all_goals
              go_wp2_with (fail)
              (try simp only [Act.put, List.getElem_toArray, List.getElem_cons_succ, List.getElem_cons_zero, List.setIfInBounds_toArray, List.set_cons_zero, List.set_cons_succ])
              go_meet
              case rel =>
                first
                | with_reducible refine ⟨rfl, below_alloc (bel_at hb4.out) _⟩
                | with_reducible refine ⟨rfl, below_b5 (bel_at2 hb4.out) (Nat.le_refl _)⟩
          case rest =>
          obtain ⟨rfl, hb4⟩ := hcut
          replace hb4 := Lib.hid hb4
          go_wp2
          go_ret
          exact ⟨rfl, below_of HSs.out.bel hb4.out⟩
        | some q =>
          have HON2 := Lib.hid (show cleanP s q (ks.drop (j + 1)) = b by rw [← HON.out, clean_cons, if_neg HNB.out, hst])
          have HVQ := Lib.hid (step_val HSs.out.val hst)
          have HST := Lib.hid (fun (W : World) (hW : Below wr2.heap.size wr2 W) => (show Calls Tryz.prog 32 #[.string s, Pg p An nn cn Ak nk ck, .string key] W fun e w' => ∃ (Aq : Option Addr) (cq : Nat) (Ar : Option Addr) (cr : Nat), e = .returned (.tuple #[Pg q Aq q.names.length cq Ar q.kids.length cr, .bool true]) ∧ Pm w' (fun i => B i ∧ i < w.heap.size) q Aq q.names.length cq Ar q.kids.length cr ∧ Below W.heap.size W w' from by
            refine (stepW s key p _ An nn cn Ak nk ck W HSs.out.val (HSs.out.mem.keep (Keeps.of_below hW)) hsz (by omega)).mono ?_
            rintro e w4 ⟨hb4, ⟨hq, -⟩ | ⟨q', Aq, cq, Ar, cr, hq, rfl, hpm⟩⟩
            · rw [hst] at hq; cases hq
            · obtain rfl : q = q' := Option.some.inj (hst.symm.trans hq)
              exact ⟨Aq, cq, Ar, cr, rfl, hpm, hb4⟩))
          clear hst
          go_upto_region 6 with (fail)
          go_cut [8, 9] (fun v8 v9 wx => ∃ (gN : Nat) (Aq : Option Addr) (cq : Nat) (Ar : Option Addr) (cr : Nat), v8 = .pointer (some ⟨gN, 0, none⟩) ∧ v9 = .bool true ∧ B5 wx gN (.int .i64 (q.kind : Int)) (.int .i64 (q.b : Int)) (.int .i64 (q.e : Int)) (.slice Aq q.names.length cq) (.slice Ar q.kids.length cr) ∧ Pm wx (fun i => B i ∧ i < w.heap.size) q Aq q.names.length cq Ar q.kids.length cr ∧ Below wr2.heap.size wr2 wx)
          case first =>
            go_region_with (first
              | (go_at_call 32; (with_reducible refine (HST.out _ ?_).mono ?_); (first | exact bel_d _ | exact bel_da _ _); rintro e w4 ⟨Aq, cq, Ar, cr, rfl, hpm, hb4⟩
                 (try have hz5 := B5.below (b5_da wr2 (.int .i64 0) (.int .i64 0) (.int .i64 0) (.slice none 0 0) (.slice none 0 0)) hb4)
                 (try have q0 := hz5.c0)
                 (try have q1 := hz5.c1)
                 (try have q2 := hz5.c2)
                 (try have q3 := hz5.c3)
                 (try have q4 := hz5.c4)
                 (try have r0 := hz5.f 0)
                 (try have r1 := hz5.f 1)
                 (try have r2 := hz5.f 2)
                 (try have r3 := hz5.f 3)
                 (try have r4 := hz5.f 4)
                 (try replace hz5 := Lib.hid hz5)
                 replace hpm := Lib.hid hpm
                 replace hb4 := Lib.hid hb4))
            all_goals
              go_wp2_with (fail)
              (try simp only [Act.put, List.getElem_toArray, List.getElem_cons_succ, List.getElem_cons_zero, List.setIfInBounds_toArray, List.set_cons_zero, List.set_cons_succ])
              go_meet
              case rel =>
                first
                | with_reducible refine ⟨_, Aq, cq, Ar, cr, rfl, rfl, B5.new _ _ _ _ _ _, ?_, ?_⟩
                  · exact hpm.out.keep (Keeps.of_below (below_alloc (Below.refl _ _) _))
                  · exact below_alloc (bel_at hb4.out) _
                | with_reducible refine ⟨_, Aq, cq, Ar, cr, rfl, rfl, b5_put hz5.out, ?_, ?_⟩
                  · exact hpm.out.keep (keep_b5B (by have := HSs.out.bel.size; omega))
                  · exact below_b5 (bel_at2 hb4.out) (Nat.le_refl _)
          case rest =>
          obtain ⟨gN, Aq, cq, Ar, cr, rfl, rfl, hq5, hpm, hb4⟩ := hcut
          obtain ⟨w5, hw5⟩ : ∃ x, x = wc := ⟨_, rfl⟩
          subst hw5
          have HPM := Lib.hid hpm
          have HB5 := Lib.hid hb4
          have hbx := B5.below HSs.out.box hb4
          clear c0 c1 c2 c3 c4 f0 f1 f2 f3 f4
          have q0 := hq5.c0
          have q1 := hq5.c1
          have q2 := hq5.c2
          have q3 := hq5.c3
          have q4 := hq5.c4
          have c0 := hbx.c0
          have c1 := hbx.c1
          have c2 := hbx.c2
          have c3 := hbx.c3
          have c4 := hbx.c4
          have f0 := hbx.f 0
          have f1 := hbx.f 1
          have f2 := hbx.f 2
          have f3 := hbx.f 3
          have f4 := hbx.f 4
          replace hbx := Lib.hid hbx
          clear hq5 hpm hb4
          go_wp2
          go_roundg (gk - 1)
          case measure => have := HD.out; omega
          case rel => exact ⟨j + 1, q, Aq, q.names.length, cq, Ar, q.kids.length, cr, by go_num, by omega, by have := HD.out; omega, ⟨HVQ.out, HPM.out.keep (keep_b5B (Nat.le_refl _)), b5_put hbx.out, below_b5 (below_of HSs.out.bel HB5.out) (Nat.le_refl _)⟩, HON2.out⟩
    · obtain rfl : b = true := by rw [← HEr.out, List.drop_eq_nil_of_le (by rw [← HN.out]; omega)]; rfl
      go_wp2
      go_ret
      exact ⟨rfl, HSr.out.bel⟩
end
end Go.Proofs.YtkdkdhcjpgmjdaaGreatDoor.Jp
namespace Go.Proofs.YtkdkdhcjpgmjdaaGreatDoor.Jp
section
open Go.RowKit L
set_option linter.unusedVariables false
set_option linter.unusedSimpArgs false

/-- What jqFound answers. -/
def JqFPost (s : ByteArray) (ks : List ByteArray) (w : World) (e : Ending) (w' : World) : Prop := Below w.heap.size w w' ∧
  ((∃ root r An cn Ak ck, s.size ≤ 16384 ∧ places s = some root ∧ Leads s root ks r ∧ IsVal s r ∧ e = .returned (.tuple #[Pg r An r.names.length cn Ak r.kids.length ck, .bool true]) ∧ Pm w' (From w.heap.size) r An r.names.length cn Ak r.kids.length ck) ∨
   e = .returned (.tuple #[Pz, .bool false]))
theorem keep_far {g m n : Nat} {w : World} {u0 u1 u2 u3 u4 : Value} (hg : g < m) : Keeps (fun j => From m j ∧ j < n) w (((((w.setCell ⟨g, 0, none⟩ u0).setCell ⟨g, 1, none⟩ u1).setCell ⟨g, 2, none⟩ u2).setCell ⟨g, 3, none⟩ u3).setCell ⟨g, 4, none⟩ u4) := by
  refine ⟨by simp [World.setCell], fun t ht _ => ?_⟩
  have h := ht.1
  simp only [From] at h
  iterate 5 rw [Below.heap_setCell _ _ _ t (by simp; omega)]
set_option maxRecDepth 100000 in
set_option maxHeartbeats 8000000 in
theorem jqFoundW (s : ByteArray) (ks : List ByteArray) (B2 : Nat → Prop) (A : Option Addr) (n c : Nat) (w : World) (hR : Row w B2 1 A n c (keysV ks)) (hks : ∀ k ∈ ks, k.size ≤ 2147483647) (hs : s.size ≤ 2147483647) :
    Calls Tryz.prog 7 #[.string s, .slice A n c] w (JqFPost s ks w) := by
  obtain ⟨w0, hw0⟩ : ∃ w0, w.alloc (.cells #[.int .i64 0, .int .i64 0, .int .i64 0, .slice none 0 0, .slice none 0 0] 27) = w0 := ⟨_, rfl⟩
  have hb0 : Below w.heap.size w w0 := by rw [← hw0]; exact below_alloc (Below.refl _ _) _
  have hz0 : B5 w0 w.heap.size (.int .i64 0) (.int .i64 0) (.int .i64 0) (.slice none 0 0) (.slice none 0 0) := by rw [← hw0]; exact B5.new _ _ _ _ _ _
  have hsz0 : w0.heap.size = w.heap.size + 1 := by rw [← hw0]; simp
  have HB0 := Lib.hid hb0
  have HZ0 := Lib.hid hz0
  have HSZ0 := Lib.hid hsz0
  have HR := Lib.hid hR
  have HKS := Lib.hid hks
  clear hb0 hz0 hsz0 hR hks
  go_enter Tryz.func7, Tryz.ntmps7
  go_upto_region 2 with (first
    | (go_at_call 10; refine (jqPlaceW s _ (by omega)).mono ?_; rintro e w1 ⟨hb1, ⟨root, hsz, hp, k, b', e', An, nn, cn, Ak, nk, ck, rfl, hPl⟩ | rfl⟩ <;> replace hb1 := Lib.hid hb1))
  · obtain ⟨rfl, rfl, rfl⟩ := plc_vals hPl
    obtain ⟨hval, -⟩ := places_val hp
    have hm1 := pm_of_plc hPl
    obtain ⟨w2, hw2⟩ : ∃ w2, w1.alloc (.cells #[.int .i64 (root.kind : Int), .int .i64 (root.b : Int), .int .i64 (root.e : Int), .slice An nn cn, .slice Ak nk ck] 27) = w2 := ⟨_, rfl⟩
    rw [hw2]
    have hb2 : Below w1.heap.size w1 w2 := by rw [← hw2]; exact below_alloc (Below.refl _ _) _
    have hp2 : B5 w2 w1.heap.size (.int .i64 (root.kind : Int)) (.int .i64 (root.b : Int)) (.int .i64 (root.e : Int)) (.slice An nn cn) (.slice Ak nk ck) := by rw [← hw2]; exact B5.new _ _ _ _ _ _
    have HM2 := Lib.hid (hm1.keep (Keeps.of_below hb2))
    have HV := Lib.hid hval
    have HP := Lib.hid hp
    have HP2 := Lib.hid hp2
    have HZ2 := Lib.hid (B5.below (B5.below HZ0.out hb1.out) hb2)
    have HB2 := Lib.hid (below_of (below_of HB0.out hb1.out) hb2)
    have hlt1 : w.heap.size < w1.heap.size := by have := HSZ0.out; have := hb1.out.size; omega
    obtain ⟨bo, hbo⟩ : ∃ bo, onceP s root ks = bo := ⟨_, rfl⟩
    obtain ⟨bc, hbc⟩ : ∃ bc, cleanP s root ks = bc := ⟨_, rfl⟩
    have HBO := Lib.hid hbo
    have HBC := Lib.hid hbc
    have HON := Lib.hid (onceW s ks root _ _ An nn cn Ak nk ck A n c bo w2 HV.out HM2.out (HR.out.keep (Keeps.of_below HB2.out)) HKS.out (by omega) hbo)
    have HCL := Lib.hid (fun (W : World) (hW : Below w2.heap.size w2 W) => cleanW s ks root _ _ An nn cn Ak nk ck A n c bc W HV.out (HM2.out.keep (Keeps.of_below hW)) (HR.out.keep (Keeps.of_below (below_of HB2.out hW))) HKS.out (by omega) hbc)
    have HSK := Lib.hid (fun (W : World) (hW : Below w2.heap.size w2 W) => seekW s ks root _ _ An nn cn Ak nk ck A n c W HV.out (HM2.out.keep (Keeps.of_below hW)) (HR.out.keep (Keeps.of_below (below_of HB2.out hW))) HKS.out (by omega))
    have c0 := hp2.c0
    have c1 := hp2.c1
    have c2 := hp2.c2
    have c3 := hp2.c3
    have c4 := hp2.c4
    clear hb2 hp2 hw2 hPl hval hm1 hp hbo hbc
    cases bo with
    | false =>
      go_wp2_with (first
        | (go_at_call 21; (with_reducible refine HON.out.mono ?_); rintro e w3 ⟨rfl, hb3⟩
           have hz := B5.below HZ2.out hb3
           have q0 := hz.c0
           have q1 := hz.c1
           have q2 := hz.c2
           have q3 := hz.c3
           have q4 := hz.c4
           have r0 := hz.f 0
           have r1 := hz.f 1
           have r2 := hz.f 2
           have r3 := hz.f 3
           have r4 := hz.f 4
           clear hz
           replace hb3 := Lib.hid hb3))
      refine bodyPost_ret (v := .tuple #[Pz, .bool false]) (by simp [results, Tryz.results7, go_sem, q0, q1, q2, q3, q4]) rfl ?_
      exact ⟨below_b5 (below_of HB2.out hb3.out) (Nat.le_refl _), .inr rfl⟩
    | true =>
      cases bc with
      | false =>
        go_wp2_with (first
          | (go_at_call 21; (with_reducible refine HON.out.mono ?_); rintro e w3 ⟨rfl, hb3⟩
             have hp3 := B5.below HP2.out hb3
             have c0 := hp3.c0
             have c1 := hp3.c1
             have c2 := hp3.c2
             have c3 := hp3.c3
             have c4 := hp3.c4
             clear hp3
             have HCL3 := Lib.hid (HCL.out w3 hb3)
             replace hb3 := Lib.hid hb3)
          | (go_at_call 22; (with_reducible refine HCL3.out.mono ?_); rintro e w4 ⟨rfl, hb4⟩
             have hz := B5.below (B5.below HZ2.out hb3.out) hb4
             have q0 := hz.c0
             have q1 := hz.c1
             have q2 := hz.c2
             have q3 := hz.c3
             have q4 := hz.c4
             have r0 := hz.f 0
             have r1 := hz.f 1
             have r2 := hz.f 2
             have r3 := hz.f 3
             have r4 := hz.f 4
             clear hz
             replace hb4 := Lib.hid hb4))
        refine bodyPost_ret (v := .tuple #[Pz, .bool false]) (by simp [results, Tryz.results7, go_sem, q0, q1, q2, q3, q4]) rfl ?_
        exact ⟨below_b5 (below_of (below_of HB2.out hb3.out) hb4.out) (Nat.le_refl _), .inr rfl⟩
      | true =>
        go_upto_region 4 with (first
          | (go_at_call 21; (with_reducible refine HON.out.mono ?_); rintro e w3 ⟨rfl, hb3⟩
             have hp3 := B5.below HP2.out hb3
             have c0 := hp3.c0
             have c1 := hp3.c1
             have c2 := hp3.c2
             have c3 := hp3.c3
             have c4 := hp3.c4
             clear hp3
             have HCL3 := Lib.hid (HCL.out w3 hb3)
             replace hb3 := Lib.hid hb3)
          | (go_at_call 22; (with_reducible refine HCL3.out.mono ?_); rintro e w4 ⟨rfl, hb4⟩
             have hp4 := B5.below (B5.below HP2.out hb3.out) hb4
             have c0 := hp4.c0
             have c1 := hp4.c1
             have c2 := hp4.c2
             have c3 := hp4.c3
             have c4 := hp4.c4
             clear hp4
             have HSK4 := Lib.hid (HSK.out w4 (below_of hb3.out hb4))
             have HZ4 := Lib.hid (B5.below (B5.below HZ2.out hb3.out) hb4)
             have HB4 := Lib.hid (below_of (below_of HB2.out hb3.out) hb4)
             replace hb4 := Lib.hid hb4))
        cases hsk : seekP s root ks with
        | none =>
          have HSN := Lib.hid hsk
          clear hsk
          go_wp2_with (first
            | (go_at_call 15; (with_reducible refine HSK4.out.mono ?_); rintro e w5 ⟨hb5, ⟨r, Ar, cr, As, cs, h, -⟩ | ⟨-, rfl⟩⟩; case inl => exact absurd (HSN.out.symm.trans h) (by simp)
               have hz := B5.below HZ4.out hb5
               have q0 := hz.c0
               have q1 := hz.c1
               have q2 := hz.c2
               have q3 := hz.c3
               have q4 := hz.c4
               have r0 := hz.f 0
               have r1 := hz.f 1
               have r2 := hz.f 2
               have r3 := hz.f 3
               have r4 := hz.f 4
               clear hz
               replace hb5 := Lib.hid hb5))
          refine bodyPost_ret (v := .tuple #[Pz, .bool false]) (by simp [results, Tryz.results7, go_sem, q0, q1, q2, q3, q4]) rfl ?_
          exact ⟨below_b5 (below_of HB4.out hb5.out) (Nat.le_refl _), .inr rfl⟩
        | some r =>
          have HSN := Lib.hid hsk
          have HFO := Lib.hid (found_of HBC.out hsk)
          clear hsk
          go_wp2_with (first
            | (go_at_call 15; (with_reducible refine HSK4.out.mono ?_); rintro e w5 ⟨hb5, ⟨r', Ar, cr, As, cs, h, hvr, rfl, hpm⟩ | ⟨h, -⟩⟩; case inr => exact absurd (HSN.out.symm.trans h) (by simp)
               obtain rfl : r = r' := Option.some.inj (HSN.out.symm.trans h)
               clear h
               have hz := B5.below HZ4.out hb5
               have q0 := hz.c0
               have q1 := hz.c1
               have q2 := hz.c2
               have q3 := hz.c3
               have q4 := hz.c4
               have r0 := hz.f 0
               have r1 := hz.f 1
               have r2 := hz.f 2
               have r3 := hz.f 3
               have r4 := hz.f 4
               clear hz
               replace hvr := Lib.hid hvr
               replace hpm := Lib.hid hpm
               replace hb5 := Lib.hid hb5))
          refine bodyPost_ret (v := .tuple #[Pg r Ar r.names.length cr As r.kids.length cs, .bool true]) (by simp [results, Tryz.results7, go_sem, q0, q1, q2, q3, q4]) rfl ?_
          refine ⟨below_b5 (below_of HB4.out hb5.out) (Nat.le_refl _), .inl ⟨root, r, Ar, cr, As, cs, hsz, HP.out, leads_of HBO.out HFO.out, hvr.out, rfl, ?_⟩⟩
          exact (hpm.out.keep (keep_far (by have := HSZ0.out; omega))).mono fun j _ hj => by have := hj.1; have := HSZ0.out; simp only [From] at *; omega
  · obtain ⟨w2, hw2⟩ : ∃ w2, w1.alloc (.cells #[.int .i64 0, .int .i64 0, .int .i64 0, .slice none 0 0, .slice none 0 0] 27) = w2 := ⟨_, rfl⟩
    rw [hw2]
    have hb2 : Below w1.heap.size w1 w2 := by rw [← hw2]; exact below_alloc (Below.refl _ _) _
    have HB2 := Lib.hid (below_of (below_of HB0.out hb1.out) hb2)
    have hz := B5.below (B5.below HZ0.out hb1.out) hb2
    have q0 := hz.c0
    have q1 := hz.c1
    have q2 := hz.c2
    have q3 := hz.c3
    have q4 := hz.c4
    have r0 := hz.f 0
    have r1 := hz.f 1
    have r2 := hz.f 2
    have r3 := hz.f 3
    have r4 := hz.f 4
    clear hz hb2 hw2
    go_wp2
    refine bodyPost_ret (v := .tuple #[Pz, .bool false]) (by simp [results, Tryz.results7, go_sem, q0, q1, q2, q3, q4]) rfl ?_
    exact ⟨below_b5 HB2.out (Nat.le_refl _), .inr rfl⟩
end
end Go.Proofs.YtkdkdhcjpgmjdaaGreatDoor.Jp
namespace Go.Proofs.YtkdkdhcjpgmjdaaGreatDoor.Jp
section
open Go.RowKit L Go.Lib Go.ChangeShapes Go.WideShapes Go.ChangeAt Go.WideMaps Go.WideElems
set_option linter.unusedVariables false
set_option linter.unusedSimpArgs false

/-- The errors' texts. -/
def etx : Nat → List UInt8
  | 1 => [69, 79, 70]
  | 2 => [115, 116, 111, 112]
  | _ => []
theorem etx_ne {i j : Nat} (hi : 1 ≤ i ∧ i ≤ 2) (hj : 1 ≤ j ∧ j ≤ 2) (h : i ≠ j) : etx i ≠ etx j := by
  have : ∀ i ∈ [1, 2], ∀ j ∈ [1, 2], i ≠ j → etx i ≠ etx j := by decide
  refine this i ?_ j ?_ h
  · simp only [List.mem_cons, List.not_mem_nil, or_false]; omega
  · simp only [List.mem_cons, List.not_mem_nil, or_false]; omega
/-- A variable's error: a pointer to its text. -/
def ErrP (w : World) (g : Nat) (a : Addr) (k : Nat) : Prop :=
  g < w.heap.size ∧ w.cell? ⟨g, 0, none⟩ = some (.iface 188 (.pointer (some a))) ∧ a.block < w.heap.size ∧ (∃ c t, w.heap[a.block]? = some (.cells c t (0, 0))) ∧ ∃ s : ByteArray, w.cell? a = some (.string s) ∧ s.data.toList = etx k
theorem ErrP.below {w w' : World} {g : Nat} {a : Addr} {k : Nat} (h : ErrP w g a k) (hb : Below w.heap.size w w') : ErrP w' g a k := by
  obtain ⟨h1, h2, h3, ⟨c, t, h4⟩, s, h5, h6⟩ := h
  exact ⟨Nat.lt_of_lt_of_le h1 hb.size, (hb.cell h1).trans h2, Nat.lt_of_lt_of_le h3 hb.size, ⟨c, t, (hb.block _ h3).trans h4⟩, s, (hb.cell h3).trans h5, h6⟩
theorem laidIn {P : Program} {w : World} : ∀ {l : List (String × DataW Unit)} {ps : List MemPlace}, DataW.LaidVars P w l ps → ∀ n d, (n, d) ∈ l →
    ∃ g t cs fuel p, P.globalNamed n = some g ∧ (P.globals[g]?).map (·.type) = some t ∧ w.var? P n = some cs ∧ DataW.trod (fun _ => ()) P w 0 (fun _ => true) false fuel t cs.toList = some (d, p) ∧ (∀ x ∈ MemPlace.row ⟨g, 0, none⟩ cs.size, x ∈ ps) ∧ ∀ x ∈ p, x ∈ ps
  | [], _, _, _, _, hm => by cases hm
  | (n', d') :: r, ps, h, n, d, hm => by
    obtain ⟨g, t, cs, fuel, p, q, h1, h2, h3, h4, h5, rfl⟩ := h
    rcases List.mem_cons.1 hm with e | e
    · cases e
      exact ⟨g, t, cs, fuel, p, h1, h2, h3, h4, fun x hx => by simp [hx], fun x hx => by simp [hx]⟩
    · obtain ⟨g', t', cs', fuel', p', k1, k2, k3, k4, k5, k6⟩ := laidIn h5 n d e
      exact ⟨g', t', cs', fuel', p', k1, k2, k3, k4, fun x hx => List.mem_append_right _ (k5 x hx), fun x hx => List.mem_append_right _ (k6 x hx)⟩
theorem star : "*" ++ "errors.errorString" = "*errors.errorString" := by decide
theorem rowE (u : TypeId) (h : Tryz.prog.typeName? 3 u = some "*errors.errorString") : u = 188 :=
  typeName_ptr_named (nm := "errors.errorString") (by rw [star]; kernel_rfl) (by kernel_rfl) (by decide) u (by rw [star]; exact h)
set_option maxRecDepth 100000 in
theorem errp_of {L : List (String × DataW Unit)} {W : World} (h : laidMet Tryz.prog L W) {nm : String} {bs : List UInt8} {g : Nat} (k : Nat) (hk : bs = etx k) (m : (nm, .iface "*errors.errorString" (.ptr (.agg [.lit (.string bs)]))) ∈ L)
    (hg0 : Tryz.prog.globalNamed nm = some g) (ht0 : (Tryz.prog.globals[g]?).map (·.type) = some 56) : ∃ a, ErrP W g a k := by
  obtain ⟨ps, hv, _, hall⟩ := h
  obtain ⟨g', t, cs, fuel, p, hg, ht, hvv, hd, hin0, hin⟩ := laidIn hv _ _ m
  obtain rfl : g = g' := Option.some.inj (hg0.symm.trans hg)
  obtain rfl : 56 = t := Option.some.inj (ht0.symm.trans ht)
  obtain ⟨f1, u, v, hcs, hname, hd2⟩ := iface_of_trod Tryz.underlying56 hd
  obtain ⟨l⟩ := cs
  have hcs' : l = [.iface u v] := hcs
  subst hcs'
  have hc : W.cell? ⟨g, 0, none⟩ = some (.iface u v) := by simpa using World.var?_cell hg hvv 0
  obtain rfl := rowE u hname
  have hok := (hall g 0 (hin0 _ (by simp [MemPlace.row]))).2 _ _ hc
  have hC : Tryz.prog.cellsOf 190 = 1 := by kernel_rfl
  rcases open_ptr Tryz.underlying188 (by rw [hC]; omega) hok ⟨f1, hd2⟩ with ⟨_, hdn, _⟩ | ⟨b, off, ds, y, f2, rfl, hdp, hps, hlen, hcell, hy⟩
  · cases hdn
  · rw [hC] at hlen hcell hps
    injection hdp with hdp
    obtain ⟨y0, n, hx, hcl, hf⟩ := trod_struct1 Tryz.underlying190 hy
    subst hx
    injection hdp with hdp
    injection hdp with hdp _
    match ds, hlen with
    | [d0], _ =>
      have c9 : Tryz.prog.cellsOf 9 = 1 := by kernel_rfl
      obtain ⟨s, e1, e2, _⟩ := DataW.trod_string Tryz.underlying9 hf
      simp [c9] at e1
      subst e1
      subst e2
      injection hdp with hdp
      injection hdp with hdp
      have hc0 := hcell 0 (by omega)
      simp only [Nat.add_zero] at hc0
      have hmem := hall b off (hin _ (by rw [hps]; simp [MemPlace.row]))
      obtain ⟨c, t, hrow⟩ := hmem.1
      exact ⟨⟨b, off, none⟩, World.block_lt_of_cell? W _ hc, hc, World.block_lt_of_cell? W _ hc0, ⟨c, t, hrow⟩, s, hc0, by rw [← hk, hdp]⟩
theorem isComp : (Tryz.prog.info? 188).map (·.comparable) = some true := by kernel_rfl
theorem isSize : (Tryz.prog.info? 190).map (·.size) = some 1 := by kernel_rfl
theorem eql_same (W : World) (a : Addr) : (binOp .eql 56 (.iface 188 (.pointer (some a))) (.iface 188 (.pointer (some a)))).run Tryz.prog W = .ok (.bool true) W := by
  obtain ⟨i, hi, hcmp⟩ := Option.map_eq_some_iff.1 isComp
  obtain ⟨j, hj, hjs⟩ := Option.map_eq_some_iff.1 isSize
  exact run_eql_iface_ptr_same (P := Tryz.prog) W a Tryz.underlying56 Tryz.underlying188 hi hcmp hj
theorem eql_other {W : World} {g1 g2 : Nat} {a b : Addr} {i j : Nat} (ha : ErrP W g1 a i) (hb : ErrP W g2 b j) (hi : 1 ≤ i ∧ i ≤ 2) (hj : 1 ≤ j ∧ j ≤ 2) (h : i ≠ j) :
    (binOp .eql 56 (.iface 188 (.pointer (some a))) (.iface 188 (.pointer (some b)))).run Tryz.prog W = .ok (.bool false) W := by
  obtain ⟨q, hq, hcmp⟩ := Option.map_eq_some_iff.1 isComp
  obtain ⟨r, hr, hrs⟩ := Option.map_eq_some_iff.1 isSize
  obtain ⟨-, -, -, ⟨c1, t1, k1⟩, s1, k2, k3⟩ := ha
  obtain ⟨-, -, -, ⟨c2, t2, l1⟩, s2, l2, l3⟩ := hb
  refine run_eql_iface_ptr_other (P := Tryz.prog) W Tryz.underlying56 Tryz.underlying188 hq hcmp hr (by rw [hrs]; decide) (fun e => ?_) k1 l1
  subst e
  rw [k2] at l2
  injection l2 with l2
  injection l2 with l2
  exact etx_ne hi hj h (by rw [← k3, ← l3, l2])
theorem ErrP.gl {w : World} {g : Nat} {a : Addr} {k : Nat} (h : ErrP w g a k) : Gl w g 188 (.pointer (some a)) := ⟨h.1, h.2.1⟩

theorem isTypeOf (v : Value) (w : World) : (callFunc 80 #[.iface 188 v]).run Tryz.prog w = .ok (.value (.iface 147 (.agg #[.pointer (some ⟨21, 188, none⟩)]))) w := by
  rw [@run_callFunc_extern Tryz.prog 80 _ Extern.ReflectliteType.typeOf Tryz.func80 (by kernel_rfl) (by kernel_rfl) (by kernel_rfl) (by kernel_rfl)]
  kernel_rfl
theorem isComparable (w : World) : (callFunc 160 #[.agg #[.pointer (some ⟨21, 188, none⟩)]]).run Tryz.prog w = .ok (.value (.bool true)) w := by
  rw [@run_callFunc_extern Tryz.prog 160 _ (Extern.ReflectliteType.method fun t => do Go.Extern.Rtype.noPackHeld "Comparable" t; pure (.bool (← typeInfo t).comparable)) Tryz.func160 (by kernel_rfl) (by kernel_rfl) (by kernel_rfl) (by kernel_rfl)]
  kernel_rfl
theorem isMethodComparable (v : Value) (w : World) : (Go.method 336 147 v "Comparable").run Tryz.prog w = .ok (160, v) w := by kernel_rfl
theorem noIsE (v : Value) (xT : TypeId) (w : World) : (Instr.typeAssert (.iface 188 v) xT 149 true).run Tryz.prog w = .ok (.tuple #[.nilIface, .bool false]) w := Go.run_typeAssert_lacksB Tryz.underlying149 (by kernel_rfl) (by kernel_rfl) v xT w
theorem noUnwrapE (v : Value) (xT : TypeId) (w : World) : (Instr.typeAssert (.iface 188 v) xT 152 true).run Tryz.prog w = .ok (.tuple #[.nilIface, .bool false]) w := Go.run_typeAssert_lacksB Tryz.underlying152 (by kernel_rfl) (by kernel_rfl) v xT w
theorem noUnwrapsE (v : Value) (xT : TypeId) (w : World) : (Instr.typeAssert (.iface 188 v) xT 154 true).run Tryz.prog w = .ok (.tuple #[.nilIface, .bool false]) w := Go.run_typeAssert_lacksB Tryz.underlying154 (by kernel_rfl) (by kernel_rfl) v xT w
set_option maxRecDepth 100000 in
set_option maxHeartbeats 4000000 in
/-- errors.Is of one error and itself. -/
theorem is_same (a : Addr) (w : World) :
    Calls Tryz.prog 55 #[.iface 188 (.pointer (some a)), .iface 188 (.pointer (some a))] w fun e w' => e = .returned (.bool true) ∧ w = w' := by
  have tT := isTypeOf
  have cT := isComparable
  have mR := isMethodComparable
  have heq := eql_same w a
  go_enter Tryz.func55, Tryz.ntmps55
  go_wp2
  refine wp_loop_rounds 1 ?_
  rw [rounds_succ]
  go_wp2
  go_ret
  exact ⟨rfl, rfl⟩
set_option maxRecDepth 100000 in
set_option maxHeartbeats 4000000 in
/-- errors.Is of two errors. -/
theorem is_other (w : World) {g1 g2 : Nat} {a b : Addr} {i j : Nat} (ha : ErrP w g1 a i) (hb : ErrP w g2 b j) (hi : 1 ≤ i ∧ i ≤ 2) (hj : 1 ≤ j ∧ j ≤ 2) (h : i ≠ j) :
    Calls Tryz.prog 55 #[.iface 188 (.pointer (some a)), .iface 188 (.pointer (some b))] w fun e w' => e = .returned (.bool false) ∧ w = w' := by
  have tT := isTypeOf
  have cT := isComparable
  have mR := isMethodComparable
  have nE := noIsE
  have uE := noUnwrapE
  have vE := noUnwrapsE
  have heq := eql_other ha hb hi hj h
  clear ha hb
  go_enter Tryz.func55, Tryz.ntmps55
  go_wp2
  refine wp_loop_rounds 1 ?_
  rw [rounds_succ]
  go_wp2
  go_ret
  exact ⟨rfl, rfl⟩
end
end Go.Proofs.YtkdkdhcjpgmjdaaGreatDoor.Jp
namespace Go.Proofs.YtkdkdhcjpgmjdaaGreatDoor.Jp
section
open Go.RowKit L
set_option linter.unusedVariables false
set_option linter.unusedSimpArgs false

/-- The four cells that a call back lays. -/
abbrev fd4 (r : ByteArray) (dt x : Int) : List Value := [.string ⟨#[]⟩, .string r, .int .i64 dt, .int .i64 x]
/-- What has been laid of the kids ds. -/
inductive Told (S : ByteArray) : List Pl → List Value → Prop
  | nil : Told S [] []
  | snoc {ds : List Pl} {xs : List Value} {q : Pl} {x : Int} (h : Told S ds xs) : Told S (ds ++ [q]) (xs ++ fd4 (rawAt S q.kind q.b q.e) (jk q.kind : Int) x)
theorem Told.len {S : ByteArray} {ds : List Pl} {xs : List Value} (h : Told S ds xs) : xs.length = ds.length * 4 := by
  induction h with
  | nil => rfl
  | snoc h ih => simp only [List.length_append, ih, List.length_cons, List.length_nil]; omega
theorem Told.at_ {S : ByteArray} {ds : List Pl} {xs : List Value} (h : Told S ds xs) : ∀ {k : Nat} {q : Pl}, ds[k]? = some q → xs[k * 4 + 1]? = some (.string (rawAt S q.kind q.b q.e)) ∧ xs[k * 4 + 2]? = some (.int .i64 (jk q.kind : Int)) := by
  induction h with
  | nil => intro k q h; cases h
  | snoc h ih =>
    rename_i ds xs q0 x
    intro k q hk
    have hl := h.len
    by_cases hlt : k < ds.length
    · rw [List.getElem?_append_left hlt] at hk
      obtain ⟨h1, h2⟩ := ih hk
      rw [List.getElem?_append_left (by omega), List.getElem?_append_left (by omega)]
      exact ⟨h1, h2⟩
    · have hk2 : k = ds.length := by
        have := (List.getElem?_eq_some_iff.1 hk).1
        simp at this; omega
      subst hk2
      rw [List.getElem?_append_right (Nat.le_refl _), Nat.sub_self] at hk
      simp only [List.getElem?_cons_zero, Option.some.injEq] at hk
      subst hk
      rw [List.getElem?_append_right (by omega), List.getElem?_append_right (by omega), hl, Nat.add_sub_cancel_left, Nat.add_sub_cancel_left]
      exact ⟨rfl, rfl⟩
/-- What the call back has laid: block G, of one cell, holds a row of its own, of blocks from z on. -/
structure Out (z G : Nat) (w : World) (n : Nat) (xs : List Value) : Prop where
  lt : G < z
  sz : z ≤ w.heap.size
  row : ∃ v, w.heap[G]? = some (.cells #[v] 30 (0, 0)) ∧ w.ownsRow z 35 4 v n xs
/-- The blocks below z but G. -/
abbrev Old (z G : Nat) : Nat → Prop := fun j => j < z ∧ j ≠ G
theorem Out.below {z G n : Nat} {w w' : World} {xs : List Value} (h : Out z G w n xs) (hb : Below w.heap.size w w') : Out z G w' n xs := by
  obtain ⟨h1, h2, v, h4, h5⟩ := h
  have hl : G < w.heap.size := by omega
  exact ⟨h1, Nat.le_trans h2 hb.size, v, (hb.block G hl).trans h4, h5.kept (grown_of_below hb none) (by cases v.ownBlock <;> simp)⟩
theorem one_set {w : World} {b : Nat} {v u : Value} {t : TypeId} (h : w.heap[b]? = some (.cells #[v] t (0, 0))) : (w.setCell ⟨b, 0, none⟩ u).heap[b]? = some (.cells #[u] t (0, 0)) := by
  simp [World.setCell, Array.getElem?_modify, h]
theorem info_fd : (Tryz.prog.info? 35).map (fun i => (i.zero, i.size, i.bytes)) = some (some (.agg #[.string ⟨#[]⟩, .string ⟨#[]⟩, .int .i64 0, .int .i64 0]), 4, 48) := by kernel_rfl
theorem Out.new {G : Nat} {w : World} (hG : w.heap[G]? = some (.cells #[.slice none 0 0] 30 (0, 0))) : Out w.heap.size G w 0 [] :=
  ⟨(Array.getElem?_eq_some_iff.1 hG).1, Nat.le_refl _, _, hG, World.ownsRow_nil _ _ _ _⟩
theorem Kp.bel {z G b : Nat} {w w' : World} (h : Kp (Old z G) w w') (hz : b ≤ z) (hG : b ≤ G) (hb : b ≤ w.heap.size) : Below b w w' :=
  ⟨h.os, h.tape, h.output, h.size, fun j hj => h.block j ⟨by omega, by omega⟩ (by omega)⟩
theorem below_base {b : Nat} {w0 w w' : World} (h : Below b w0 w) (k : Below b w w') : Below b w0 w' :=
  ⟨k.os.trans h.os, k.tape.trans h.tape, k.output.trans h.output, Nat.le_trans h.size k.size, fun j hj => (k.block j hj).trans (h.block j hj)⟩
set_option maxRecDepth 100000 in
set_option maxHeartbeats 4000000 in
theorem nextTokW (T : Nat → TypeId) (V : Nat → Value) (A : Option Addr) (s : ByteArray) (m c q : Nat) (w : World) (hW : Wd T V w) (h : Rd w A s) (hm : m = s.size) (hs : s.size ≤ 1000000) (hc : s.size ≤ c) (hq : nxt (tx s) = some q) :
    Calls Tryz.prog 52 #[.slice A m c] w fun e w' => e = .returned (.int .i64 (q : Int)) ∧ Below w.heap.size w w' := by
  have d0 := hW.d0
  have d1 := hW.d1
  have d2 := hW.d2
  have HN := Lib.hid (show Calls Tryz.prog 71 #[.agg #[.bool false, .bool false, .int .i64 0], .slice A m c] w fun e w' => e = .returned (.int .i64 (q : Int)) ∧ Below w.heap.size w w' from by
    refine (nextW A s m c false false 0 w h hm hs hc).mono ?_
    rintro e w' ⟨⟨z, rfl, ⟨q', hq', rfl⟩ | ⟨hno, -⟩⟩, hb⟩
    · obtain rfl : q = q' := Option.some.inj (hq.symm.trans hq')
      exact ⟨rfl, hb⟩
    · rw [hq] at hno; cases hno)
  clear hW h hm hq
  go_enter Tryz.func52, Tryz.ntmps52
  go_wp2_with (first
    | (go_at_call 71; (with_reducible refine HN.out.mono ?_); rintro e w2 ⟨rfl, hb2⟩; replace hb2 := Lib.hid hb2))
  go_ret
  exact ⟨rfl, hb2.out⟩
set_option maxRecDepth 100000 in
set_option maxHeartbeats 4000000 in
theorem searchW (T : Nat → TypeId) (V : Nat → Value) (s : ByteArray) (kd : List ByteArray) (p r : Pl) (bi i0 m c : Nat) (A : Option Addr) (nk ck : Nat) (Bk : Nat → Prop) (w : World) (h : Rd w (some ⟨bi, i0, none⟩) s) (hW : Wd T V w) (hT : Tb w) (hm : m = s.size) (hs : s.size ≤ 1000000) (hc : s.size ≤ c)
    (hK : Row w Bk 1 A nk ck (keysV kd)) (hkn : kd.length ≤ 2147483647) (hp : places s = some p) (hl : Leads s p kd r) (hk0 : kd ≠ []) :
    Calls Tryz.prog 53 #[.slice (some ⟨bi, i0, none⟩) m c, .slice A nk ck] w fun e w' => ∃ x : Nat, e = .returned (.int .i64 (x : Int)) ∧ x ≤ r.b ∧ L.skip isBlank s x = r.b ∧ Below w.heap.size w w' := by
  subst hm
  have d0 := hW.d0
  have d1 := hW.d1
  have d2 := hW.d2
  obtain ⟨-, hr⟩ := places_val hp
  have hl0 : 0 < kd.length := List.length_pos_iff.2 hk0
  have hst : Stand s s.size kd r 0 0 true 0 := Stand.blank (by
    rw [← hr.2.2.2.1]
    exact Core.path hl0 hr hr.2.2.2.2.1 (by rw [List.drop_zero]; exact hl))
  have HS := Lib.hid (show Calls Tryz.prog 78 #[.agg #[.bool false, .bool false, .int .i64 0], .slice (some ⟨bi, i0, none⟩) s.size c, .slice A nk ck] w (SeaPost s 0 r w) from
    seaAll T V s s.size 0 kd r false false 0 bi i0 c s.size A nk ck Bk w (by rw [ext_all]; exact h) rfl hs (Nat.le_refl _) hc hK hT hkn hW.errs hst)
  clear h hW hT hK hp hl hr hst hl0
  go_enter Tryz.func53, Tryz.ntmps53
  go_wp2_with (first
    | (go_at_call 78; (with_reducible refine HS.out.mono ?_); rintro e w2 ⟨⟨x, rfl, hx1, hx2⟩, hb2⟩; replace hx1 := Lib.hid hx1; replace hx2 := Lib.hid hx2; replace hb2 := Lib.hid hb2))
  go_ret
  exact ⟨x, rfl, by have := hx1.out; omega, by have := hx2.out; rwa [Nat.zero_add] at this, hb2.out⟩
/-- What the call back gives at call n. -/
def stopV (n : Nat) (st : Int) (eof : Bool) (a1 a2 : Addr) : Value := if (n : Int) = st then (if eof = true then .iface 188 (.pointer (some a1)) else .iface 188 (.pointer (some a2))) else .nilIface
set_option maxRecDepth 100000 in
set_option maxHeartbeats 4000000 in
theorem stopW (n : Nat) (st : Int) (eof : Bool) (a1 a2 : Addr) (w : World) (h1 : ErrP w 0 a1 1) (h2 : ErrP w 1 a2 2) :
    Calls Tryz.prog 25 #[.int .i64 (n : Int), .int .i64 st, .bool eof] w fun e w' => e = .returned (stopV n st eof a1 a2) ∧ w = w' := by
  have c1 := h1.2.1
  have c2 := h2.2.1
  clear h1 h2
  unfold stopV
  by_cases hs : (n : Int) = st
  · have hb : ((n : Int) == st) = true := by rw [beq_iff_eq]; exact hs
    have hb2 : ((n : Int) != st) = false := by rw [bne, hb]; rfl
    rw [if_pos hs]
    clear hs
    cases eof with
    | true =>
      rw [if_pos rfl]
      go_enter Tryz.func25, Tryz.ntmps25
      go_wp2
      go_ret
      exact ⟨rfl, rfl⟩
    | false =>
      rw [if_neg (by decide)]
      go_enter Tryz.func25, Tryz.ntmps25
      go_wp2
      go_ret
      exact ⟨rfl, rfl⟩
  · have hb : ((n : Int) == st) = false := by rw [beq_eq_false_iff_ne]; exact hs
    have hb2 : ((n : Int) != st) = true := by rw [bne, hb]; rfl
    rw [if_neg hs]
    go_enter Tryz.func25, Tryz.ntmps25
    go_wp2
    go_ret
    exact ⟨rfl, rfl⟩
set_option maxRecDepth 100000 in
set_option maxHeartbeats 4000000 in
theorem onCallQ (z G gS gE n m c : Nat) (A : Option Addr) (r : ByteArray) (dt x st : Int) (eof : Bool) (a1 a2 : Addr) (ev : Value) (xs : List Value) (w : World) (h : Out z G w n xs) (hr : Rd w A r) (hm : m = r.size) (hrs : r.size ≤ 1000000) (hn : n ≤ 1000000)
    (hs : w.cell? ⟨gS, 0, none⟩ = some (.int .i64 st)) (he : w.cell? ⟨gE, 0, none⟩ = some (.bool eof)) (lS : gS < z) (lE : gE < z) (nS : gS ≠ G) (nE : gE ≠ G) (hE : ∀ w', Kp (Old z G) w w' → ErrP w' 0 a1 1 ∧ ErrP w' 1 a2 2) :
    Calls Tryz.prog 24 #[.slice A m c, .int .i64 dt, .int .i64 x, ev, .pointer (some ⟨G, 0, none⟩), .pointer (some ⟨gS, 0, none⟩), .pointer (some ⟨gE, 0, none⟩)] w fun e w' => e = .returned (stopV n st eof a1 a2) ∧ Out z G w' (n + 1) (xs ++ fd4 r dt x) ∧ Kp (Old z G) w w' := by
  subst hm
  obtain ⟨h1, h2, v, hg, h5⟩ := h
  have h4 : w.cell? ⟨G, 0, none⟩ = some v := cell_of_row w G 0 _ _ _ hg
  have h3 : w.frozen? ⟨G, 0, none⟩ = false := by simp [World.frozen?, hg]
  have HG := Lib.hid hg
  have HE := Lib.hid hE
  have HS := Lib.hid hs
  have HEE := Lib.hid he
  clear hg hE hs he
  have hcv : (convert 59 9 (.slice A r.size c)).run Tryz.prog w = .ok (.string r) w := hr.string Tryz.underlying59 Tryz.underlying5 Tryz.underlying9
  obtain ⟨i0, hi0, hz0, hz1, hz2⟩ := info_parts info_fd
  have HI := Lib.hid hi0
  have HZ0 := Lib.hid hz0
  have HZ1 := Lib.hid hz1
  have HZ2 := Lib.hid hz2
  have HO := Lib.hid h5
  have HL := Lib.hid (show ∀ j, v.ownBlock = some j → z ≤ j ∧ j < w.heap.size from fun j hj => h5.lt j hj)
  have hw1 : IntKind.i64.wrap (((n + 1 : Nat) : Int) - 1) = (n : Int) := by rw [IntWalk.i64_in _ (by omega)]; omega
  have hw2 : IntKind.i64.wrap (((n : Nat) : Int) + 1 - 1) = (n : Int) := by rw [IntWalk.i64_in _ (by omega)]; omega
  clear hi0 hz0 hz1 hz2 h5
  go_enter Tryz.func24, Tryz.ntmps24
  go_upto_region 2 with (first
    | (at_builtin; go_must (refine wpList_append_own_at _ rfl (.tmp 12) (.tmp 18) 30 rfl z 35 i0 _ 4 48 Tryz.underlying30 HI.out HZ0.out HZ1.out HZ2.out rfl (by decide) _ n xs rfl (HO.out.alloc _) ⟨w.heap.size, 0, none⟩ 1 1 (fd4 r dt x) rfl rfl (World.news_of_block (cs := #[.string ⟨#[]⟩, .string r, .int .i64 dt, .int .i64 x]) (t := 35) (fr := (0, 0)) (heap_alloc_new _ _)) (by simp [Value.oneCell']) (by simp only [maxLen]; omega) (by omega) (by simp; omega) ?_)
       intro v5 w5 hO5 hg5 _ hat5
       obtain ⟨A5, cc5, rfl, _⟩ := Row.of_own hO5
       have hGn : some G ≠ v.ownBlock := fun e => by have := HL.out G e.symm; omega
       have hG5 := hg5.block G (by simp; omega) hGn
       rw [Below.heap_alloc w _ G (by omega)] at hG5
       have c5 : w5.cell? ⟨G, 0, none⟩ = some v := (World.cell?_of_block hG5).trans h4
       have f5 : w5.frozen? ⟨G, 0, none⟩ = false := by
         rw [← h3]; simp only [World.frozen?]; rw [hG5]
       replace hO5 := Lib.hid hO5
       replace hg5 := Lib.hid (show (w.alloc (.cells #[.string ⟨#[]⟩, .string r, .int .i64 dt, .int .i64 x] 35)).grownBy w5 v.ownBlock from hg5)
       clear hat5
       replace hG5 := Lib.hid hG5
       clear hGn))
  have hgg : w5.heap[G]? = some (.cells #[v] 30 (0, 0)) := hG5.out.trans HG.out
  have hz5 : w.heap.size + 1 ≤ w5.heap.size := by have := hg5.out.size; simp at this; omega
  obtain ⟨w6, hw6⟩ : ∃ w6, w5.setCell ⟨G, 0, none⟩ (.slice A5 (n + 1) cc5) = w6 := ⟨_, rfl⟩
  have hout : Out z G w6 (n + 1) (xs ++ fd4 r dt x) := by
    rw [← hw6]
    refine ⟨h1, ?_, _, one_set hgg, Go.RowKit.ownsRow_setCell_below hO5.out h1 _⟩
    simp [World.setCell]; omega
  have hkp : Kp (Old z G) w w6 := by
    rw [← hw6]
    refine ⟨hg5.out.os, hg5.out.tape, hg5.out.output, ?_, fun j hj hl => ?_⟩
    · simp [World.setCell]; omega
    · rw [Below.heap_setCell w5 _ _ j hj.2, hg5.out.block j (by simp; omega) (fun e => by have := HL.out j e.symm; omega), Below.heap_alloc w _ j hl]
  obtain ⟨x1, x2⟩ := HE.out w6 hkp
  have HST := Lib.hid (stopW n st eof a1 a2 w6 x1 x2)
  have s6 : w6.cell? ⟨gS, 0, none⟩ = some (.int .i64 st) := (World.cell?_of_block (hkp.block gS ⟨lS, nS⟩ (by omega))).trans HS.out
  have e6 : w6.cell? ⟨gE, 0, none⟩ = some (.bool eof) := (World.cell?_of_block (hkp.block gE ⟨lE, nE⟩ (by omega))).trans HEE.out
  have c6 : w6.cell? ⟨G, 0, none⟩ = some (.slice A5 (n + 1) cc5) := by
    rw [← hw6]; exact cell_of_row _ G 0 _ _ _ (one_set hgg)
  rw [hw6]
  have HOUT := Lib.hid hout
  have HKP := Lib.hid hkp
  clear c5 f5 h3 h4 hgg hz5 hout hkp x1 x2 hw6 hcv
  go_wp2_with (first
    | (go_at_call 25; (with_reducible refine HST.out.mono ?_); rintro e w7 ⟨rfl, rfl⟩))
  go_ret
  exact ⟨rfl, HOUT.out, HKP.out⟩
end
end Go.Proofs.YtkdkdhcjpgmjdaaGreatDoor.Jp
namespace Go.Proofs.YtkdkdhcjpgmjdaaGreatDoor.Jp
section
open Go.RowKit L
set_option linter.unusedVariables false
set_option linter.unusedSimpArgs false

/-- One element of an array, in the text from x on. -/
theorem roundE {S : ByteArray} {x nf E : Nat} {q : Pl} {qs : List Pl} (hec : EChain S nf E x (q :: qs)) (hE : E ≤ S.size) :
    ∃ d k u, getT false (tx (S.extract x S.size)) = some (d, .ok (jk q.kind) k) ∧ x + d = q.b ∧ q.b + k = q.e ∧ 0 < k ∧ rawOf (S.extract x S.size) (jk q.kind) d k = rawAt S q.kind q.b q.e ∧ nxt (tx (S.extract q.e S.size)) = some u ∧ q.e + u < S.size ∧
      ((qs = [] ∧ bt S ((q.e + u : Nat) : Int) = 93) ∨ ∃ r qs', qs = r :: qs' ∧ bt S ((q.e + u : Nat) : Int) = 44 ∧ EChain S nf E (q.e + u + 1) (r :: qs')) := by
  have h := roundW (S := S) (W := S.size) (cc := 0) (x := x) (nf := nf) (E := E) (q := q) (qs := qs) false (Nat.le_refl _) (by rwa [Nat.zero_add]) hE
  simpa only [Nat.zero_add] using h
/-- How far the calls go: all of them, or up to the one that gives an error. -/
def Done (kids : List Pl) (st : Int) (eof : Bool) (a2 : Addr) (cnt : Nat) (rv : Value) : Prop :=
  (cnt = kids.length ∧ rv = .nilIface ∧ ∀ i : Nat, i < kids.length → (i : Int) ≠ st) ∨
  (∃ m : Nat, m < kids.length ∧ (m : Int) = st ∧ cnt = m + 1 ∧ rv = if eof = true then .nilIface else .iface 188 (.pointer (some a2)))
/-- What arrayEachErr answers. -/
def EePost (S : ByteArray) (kids : List Pl) (st : Int) (eof : Bool) (a2 : Addr) (G : Nat) (w : World) (e : Ending) (w' : World) : Prop :=
  ∃ (x : Int) (cnt : Nat) (rv : Value) (xs : List Value), e = .returned (.tuple #[.int .i64 x, .int .i64 (cnt : Int), rv]) ∧ Done kids st eof a2 cnt rv ∧ Out w.heap.size G w' cnt xs ∧ Told S (kids.take cnt) xs ∧ Kp (Old w.heap.size G) w w'
theorem cell0 {w : World} {bd k : Nat} {S : ByteArray} (h : Rd w (some ⟨bd, 0, none⟩) S) (hk : k < S.size) : w.cell? ⟨bd, k, none⟩ = some (.int .u8 (bt S (k : Int))) := by
  have := cellw (i1 := 0) (cc := 0) (W := S.size) (k := k) (by rw [ext_all]; exact h) (Nat.le_refl _) (by omega)
  rwa [Nat.zero_add] at this
theorem rd0 {w : World} {bd k cap : Nat} {S : ByteArray} (h : Rd w (some ⟨bd, 0, none⟩) S) (hc : S.size ≤ cap) (hk : k < S.size) : Rd w (some ⟨bd, k, none⟩) (S.extract k S.size) := by
  have := rdw (i1 := 0) (cc := 0) (W := S.size) (k := k) (cp := cap) (by rw [ext_all]; exact h) (Nat.le_refl _) (by omega) (by omega) (by omega)
  simpa only [Nat.zero_add] using this
set_option maxRecDepth 100000 in
set_option maxHeartbeats 16000000 in
theorem eachErrW (T : Nat → TypeId) (V : Nat → Value) (S : ByteArray) (root r : Pl) (kd : List ByteArray) (A : Option Addr) (nk ck : Nat) (Bk : Nat → Prop) (w0 w : World) (G gS gE bd cap : Nat) (st : Int) (eof : Bool) (a1 a2 : Addr)
    (hS : S.size ≤ 65536) (hb0 : Below w0.heap.size w0 w) (hW : Wd T V w0) (hT : Tb w0) (h1 : ErrP w0 0 a1 1) (h2 : ErrP w0 1 a2 2) (hK : Row w0 Bk 1 A nk ck (keysV kd)) (hkn : kd.length ≤ 2147483647)
    (hR : Rd w (some ⟨bd, 0, none⟩) S) (hcap : S.size ≤ cap) (hG : w.heap[G]? = some (.cells #[.slice none 0 0] 30 (0, 0))) (hgs : w.cell? ⟨gS, 0, none⟩ = some (.int .i64 st)) (hge : w.cell? ⟨gE, 0, none⟩ = some (.bool eof))
    (lG : w0.heap.size ≤ G) (lS : gS < w.heap.size) (lE : gE < w.heap.size) (lD : bd < w.heap.size) (nS : gS ≠ G) (nE : gE ≠ G) (nD : bd ≠ G) (hp : places S = some root) (hl : Leads S root kd r) (hv : IsVal S r) (h5 : r.kind = 5) :
    Calls Tryz.prog 39 #[.slice (some ⟨bd, 0, none⟩) S.size cap, .func (.func 24) #[] #[.pointer (some ⟨G, 0, none⟩), .pointer (some ⟨gS, 0, none⟩), .pointer (some ⟨gE, 0, none⟩)], .slice A nk ck] w (EePost S r.kids st eof a2 G w) := by
  have lGw : G < w.heap.size := (Array.getElem?_eq_some_iff.1 hG).1
  have hkl5 : r.kids.length ≤ S.size := kids_len hv h5
  obtain ⟨nv, off, hrd⟩ := hv
  have hrS : r.b < r.e ∧ r.e ≤ S.size := ⟨hrd.2.2.2.2.2.1, hrd.2.2.2.2.1⟩
  have hin : bt S r.b = 91 ∧ r.b < S.size ∧ ((r.kids = [] ∧ bt S (L.skip isBlank S (r.b + 1)) = 93 ∧ L.skip isBlank S (r.b + 1) + 1 = r.e) ∨ (bt S (L.skip isBlank S (r.b + 1)) ≠ 93 ∧ ∃ nf, EChain S nf r.e (r.b + 1) r.kids)) := by
    have hv := hrd.2.2.1
    rw [← hrd.2.2.2.1] at hv
    cases nv with
    | zero => cases hv
    | succ nf =>
      obtain ⟨g1, g2, g3⟩ := arr_in2 (by omega) hv h5
      refine ⟨g1, g2, ?_⟩
      rcases g3 with g | g
      · exact .inl g
      · exact .inr ⟨g.1, nf, g.2⟩
  obtain ⟨h91, hrb, hin2⟩ := hin
  have hbW : ∀ w', Kp (Old w.heap.size G) w w' → Below w0.heap.size w0 w' := fun w' hk => below_base hb0 (hk.bel hb0.size lG hb0.size)
  have HBW := Lib.hid hbW
  have HW := Lib.hid (fun (w' : World) (hk : Kp (Old w.heap.size G) w w') => hW.below (hbW w' hk))
  have HE := Lib.hid (fun (w' : World) (hk : Kp (Old w.heap.size G) w w') => (show ErrP w' 0 a1 1 ∧ ErrP w' 1 a2 2 from ⟨h1.below (hbW w' hk), h2.below (hbW w' hk)⟩))
  have HRk := Lib.hid (fun (w' : World) (hk : Kp (Old w.heap.size G) w w') => (show Rd w' (some ⟨bd, 0, none⟩) S from fun h0 => by
    obtain ⟨ad', e, hlt, hc⟩ := hR h0
    injection e with e
    subst e
    exact ⟨_, rfl, Nat.lt_of_lt_of_le hlt hk.size, fun j hj => (World.cell?_of_block (by rw [add_block]; exact hk.block _ ⟨lD, nD⟩ hlt)).trans (hc j hj)⟩))
  have HGS := Lib.hid (fun (w' : World) (hk : Kp (Old w.heap.size G) w w') => (World.cell?_of_block (hk.block gS ⟨lS, nS⟩ lS)).trans hgs)
  have HGE := Lib.hid (fun (w' : World) (hk : Kp (Old w.heap.size G) w w') => (World.cell?_of_block (hk.block gE ⟨lE, nE⟩ lE)).trans hge)
  have HOUT0 := Lib.hid (Out.new hG)
  have hKr : Kp (Old w.heap.size G) w w := Kp.refl _ _
  obtain ⟨p1, p2, p3, p4, p5, p6⟩ := gty_root false hp
  have hN0 : nxt (tx S) = some root.b := by
    have := nxt_win (s := S) (i := 0) (m := S.size) (Nat.le_refl _) (by omega) (by omega)
    rwa [p2, Nat.sub_zero, ext_all] at this
  have HN0 := Lib.hid (nextTokW T V _ S S.size cap root.b w (HW.out w hKr) hR rfl (by omega) hcap hN0)
  have HSE := Lib.hid (fun (W : World) (hB : Below w.heap.size w W) (hk0 : kd ≠ []) => searchW T V S kd root r bd 0 S.size cap A nk ck Bk W (HRk.out W (.of_below hB)) (HW.out W (.of_below hB)) (hT.below (hbW W (.of_below hB))) rfl (by omega) hcap (hK.keep (.of_below (hbW W (.of_below hB)))) hkn hp hl hk0)
  have hnk := (keys_len hK).1
  have HNK := Lib.hid hnk
  have HLD := Lib.hid hl
  have HIN := Lib.hid hin2
  have h910 := cell0 hR hrb
  rw [h91] at h910
  have H910 := Lib.hid h910
  have H91 := Lib.hid h91
  obtain ⟨t0, ht0⟩ : ∃ t, root.b = t := ⟨_, rfl⟩
  rw [ht0] at HN0
  have HT0 := Lib.hid ht0
  have ht0s : t0 < S.size := by omega
  obtain ⟨o, ho⟩ : ∃ o, r.b + 1 = o := ⟨_, rfl⟩
  have HO := Lib.hid ho
  have hoS : o ≤ S.size := by omega
  have ho0 : 0 < o := by omega
  have hrb1 : r.b < o := by omega
  have hz0 : ((S.size : Int) == 0) = false := beq_eq_false_iff_ne.2 (by omega)
  have ht1 : ((t0 : Int) == -1) = false := beq_eq_false_iff_ne.2 (by omega)
  have ht2 : (0 : Int) ≤ (t0 : Int) := by omega
  have ht3 : (t0 : Int) < (S.size : Int) := by omega
  have et : IntKind.i64.wrap ((t0 : Int) + 1) = (t0 : Int) + 1 := IntWalk.i64_in _ (by omega)
  have HRDV := Lib.hid hrd
  clear hbW hW h1 h2 hR hgs hge hG hKr hN0 hT hK hp hl hin2 h91 h910 hnk ht0 ho p1 p2 p3 p4 p5 p6 hrd hb0
  go_enter Tryz.func39, Tryz.ntmps39
  go_upto_region 6 with (first
    | (go_at_call 52; (with_reducible refine HN0.out.mono ?_); rintro e w2 ⟨rfl, hb2⟩; replace hb2 := Lib.hid hb2))
  by_cases hk0 : kd = []
  focus
    have hn0 : ((nk : Int) == 0) = true := by rw [beq_iff_eq, HNK.out, hk0]; rfl
    have hnl : ¬ (0 : Int) < (nk : Int) := by rw [HNK.out, hk0]; simp
    obtain rfl : t0 = r.b := by
      have h := HLD.out
      rw [hk0] at h
      cases h
      exact HT0.out.symm
    have hc2 : w2.cell? ⟨bd, r.b, none⟩ = some (.int .u8 91) := (hb2.out.cell (p := ⟨bd, r.b, none⟩) lD).trans H910.out
    have eo : IntKind.i64.wrap ((r.b : Int) + 1) = (o : Int) := by rw [et, ← HO.out]; omega
    have HB3 := Lib.hid hb2.out
    clear hk0 et
    go_upto_region 20 with (fail)
    obtain ⟨w3, rfl⟩ : ∃ x, x = w2 := ⟨_, rfl⟩
  rotate_left
  focus
    have hn0 : ((nk : Int) == 0) = false := beq_eq_false_iff_ne.2 (by have := List.length_pos_iff.2 hk0; have := HNK.out; omega)
    have hnl : (0 : Int) < (nk : Int) := by have := List.length_pos_iff.2 hk0; have := HNK.out; omega
    have HS2 := Lib.hid (HSE.out w2 hb2.out hk0)
    clear hk0
    go_upto_region 11 with (first
      | (go_at_call 53; (with_reducible refine HS2.out.mono ?_); rintro e w4 ⟨x, rfl, hx1, hx2, hb4⟩; replace hx2 := Lib.hid hx2; replace hb4 := Lib.hid hb4))
    have HB4 := Lib.hid (below_of hb2.out hb4.out)
    have hxn : ((x : Int) == -1) = false := beq_eq_false_iff_ne.2 (by omega)
    have hx0 : (0 : Int) ≤ (x : Int) := by omega
    have hxS : (x : Int) ≤ (S.size : Int) := by omega
    have hcx : ¬ cap = x := by omega
    obtain ⟨dx, hdx⟩ : ∃ d, r.b - x = d := ⟨_, rfl⟩
    have hNx : nxt (tx (S.extract x S.size)) = some dx := by
      have := nxt_win (s := S) (i := x) (m := S.size) (Nat.le_refl _) (by rw [hx2.out]; omega) (by omega)
      rwa [hx2.out, hdx] at this
    have HNX := Lib.hid (nextTokW T V _ (S.extract x S.size) (S.size - x) (cap - x) dx w4 (HW.out w4 (.of_below HB4.out)) (rd0 (HRk.out w4 (.of_below HB4.out)) hcap (by omega)) (by rw [size_ext]; omega) (by rw [size_ext]; omega) (by rw [size_ext]; omega) hNx)
    have hdn : ((dx : Int) == -1) = false := beq_eq_false_iff_ne.2 (by omega)
    have ex : IntKind.i64.wrap ((x : Int) + (dx : Int)) = (r.b : Int) := by rw [IntWalk.i64_in _ (by omega)]; omega
    have hr0 : (0 : Int) ≤ (r.b : Int) := by omega
    have hr1 : (r.b : Int) < (S.size : Int) := by omega
    have eo : IntKind.i64.wrap ((r.b : Int) + 1) = (o : Int) := by rw [IntWalk.i64_in _ (by omega), ← HO.out]; omega
    clear hNx hdx et
    go_upto_region 16 with (first
      | (go_at_call 52; (with_reducible refine HNX.out.mono ?_); rintro e w3 ⟨rfl, hb3⟩
         have hc2 : w3.cell? ⟨bd, r.b, none⟩ = some (.int .u8 91) := ((below_of HB4.out hb3).cell (p := ⟨bd, r.b, none⟩) lD).trans H910.out
         have HB3 := Lib.hid (below_of HB4.out hb3)
         clear hb3))
    go_upto_region 20 with (fail)
  all_goals
    have hcx0 : (0 : Int) ≤ (o : Int) := by omega
    have hcx1 : (o : Int) ≤ (S.size : Int) := by omega
    have hskle := skip_le isBlank S o
    have hsk : L.skip isBlank S o < S.size := by
      rw [← HO.out]
      rcases HIN.out with ⟨-, -, h⟩ | ⟨-, nf, h⟩
      · omega
      · cases hkk : r.kids with
        | nil => rw [hkk] at h; exact absurd h id
        | cons q qs => rw [hkk] at h; exact h.head.2.1
    obtain ⟨p0, hp0⟩ : ∃ p, L.skip isBlank S o = p := ⟨_, rfl⟩
    obtain ⟨d0, hd0⟩ : ∃ d, p0 - o = d := ⟨_, rfl⟩
    rw [hp0] at hskle hsk
    have hco : ¬ cap = o := by omega
    have hN20 : nxt (tx (S.extract o S.size)) = some d0 := by
      have := nxt_win (s := S) (i := o) (m := S.size) (Nat.le_refl _) (by rw [hp0]; exact hsk) (by omega)
      rwa [hp0, hd0] at this
    have HK3 := Lib.hid (show Kp (Old w.heap.size G) w w3 from .of_below HB3.out)
    have HN20 := Lib.hid (nextTokW T V _ (S.extract o S.size) (S.size - o) (cap - o) d0 w3 (HW.out w3 HK3.out) (rd0 (HRk.out w3 HK3.out) hcap (by omega)) (by rw [size_ext]; omega) (by rw [size_ext]; omega) (by rw [size_ext]; omega) hN20)
    have hdn0 : ((d0 : Int) == -1) = false := beq_eq_false_iff_ne.2 (by omega)
    have ep : IntKind.i64.wrap ((o : Int) + (d0 : Int)) = (p0 : Int) := by rw [IntWalk.i64_in _ (by omega)]; omega
    have hp00 : (0 : Int) ≤ (p0 : Int) := by omega
    have hp01 : (p0 : Int) < (S.size : Int) := by omega
    have HP0 := Lib.hid hp0
    clear hN20 hd0 hp0 hc2
    go_upto_region 24 with (first
      | (go_at_call 52; (with_reducible refine HN20.out.mono ?_); rintro e w5 ⟨rfl, hb5⟩
         have HB5 := Lib.hid (below_of HB3.out hb5)
         clear hb5))
    have HK5 := Lib.hid (show Kp (Old w.heap.size G) w w5 from .of_below HB5.out)
    have hc5 := cell0 (HRk.out w5 HK5.out) hsk
    rcases HIN.out with ⟨hkids, h93, -⟩ | ⟨h93, nf, hec⟩
    · rw [HO.out, HP0.out] at h93
      rw [h93] at hc5
      have HKIDS := Lib.hid hkids
      clear hkids h93
      go_wp2
      (try simp only [Exit.inBlock, Exit.then])
      refine bodyPost_ret (results_tmp3 rfl _ _ _) rfl ?_
      exact ⟨_, 0, _, [], rfl, .inl ⟨by rw [HKIDS.out]; rfl, rfl, fun i hi => by rw [HKIDS.out] at hi; exact absurd hi (Nat.not_lt_zero _)⟩, HOUT0.out.below HB5.out, by rw [List.take_zero]; exact Told.nil, HK5.out⟩
    · rw [HO.out, HP0.out] at h93
      have h93b : (bt S (p0 : Int) == 93) = false := beq_eq_false_iff_ne.2 h93
      obtain ⟨z0, hz0'⟩ : ∃ z, bt S (p0 : Int) = z := ⟨_, rfl⟩
      rw [hz0'] at hc5 h93b
      obtain ⟨q1, qs1, hkk⟩ : ∃ q qs, r.kids = q :: qs := by
        cases hkk : r.kids with
        | nil => rw [hkk] at hec; exact absurd hec id
        | cons q qs => exact ⟨q, qs, rfl⟩
      have HKK := Lib.hid hkk
      have HEC0 := Lib.hid (show EChain S nf r.e p0 (q1 :: qs1) by
        rw [hkk, HO.out] at hec
        have h2 := hec.skip
        rwa [HP0.out] at h2)
      clear hkk hec h93 hz0'
      go_wp2_with (fail)
      clear hc5 h93b
      go_loopg [6, 7] (r.kids.length + 1) (fun d v6 v7 wx => ∃ (x : Nat) (ds : List Pl) (q : Pl) (qs : List Pl) (xs : List Value), v6 = .int .i64 (x : Int) ∧ v7 = .int .i64 (ds.length : Int) ∧ r.kids = ds ++ q :: qs ∧ EChain S nf r.e x (q :: qs) ∧ Out w.heap.size G wx ds.length xs ∧ Told S ds xs ∧ qs.length < d ∧ Kp (Old w.heap.size G) w wx ∧ ∀ i : Nat, i < ds.length → (i : Int) ≠ st)
      case atStart => exact ⟨p0, [], q1, qs1, [], rfl, rfl, HKK.out, HEC0.out, HOUT0.out.below HB5.out, Told.nil, by rw [HKK.out]; simp only [List.length_cons]; omega, HK5.out, fun i hi => absurd hi (Nat.not_lt_zero _)⟩
      case round =>
        obtain ⟨x, ds, q, qs, xs, rfl, rfl, hkd, hec, hout, htd, hqd, hkp, hne⟩ := hrel
        obtain ⟨r1, r2, r3, r4, r5, r6, r7, r8⟩ := hec.head
        obtain ⟨dd, k, sk, hg, hd1, hd2, hk0, hraw, hnx, hu, hend⟩ := roundE hec hrS.2
        have hdl : ds.length ≤ 65536 := by
          have h1 := hkl5
          rw [hkd, List.length_append] at h1
          omega
        have HKD := Lib.hid hkd
        have HOUTr := Lib.hid hout
        have HTD := Lib.hid htd
        have HQD := Lib.hid hqd
        have HKP := Lib.hid hkp
        have HNE := Lib.hid hne
        have HEND := Lib.hid hend
        have HNXR := Lib.hid hnx
        have hxS : x < S.size := by omega
        have hRx := rd0 (HRk.out wr hkp) hcap hxS
        obtain ⟨y, hy⟩ : ∃ y, dd + k = y := ⟨_, rfl⟩
        obtain ⟨p, hp⟩ : ∃ p, q.e + sk = p := ⟨_, rfl⟩
        have hxy : x + y = q.e := by omega
        have HGQ := Lib.hid (show Calls Tryz.prog 54 #[.slice (some ⟨bd, x, none⟩) (S.size - x) (cap - x), .slice none 0 0] wr fun e w' => ∃ (A4 : Option Addr) (n4 c4 : Nat), e = .returned (.tuple #[.slice A4 n4 c4, .int .i64 (jk q.kind : Int), .int .i64 (y : Int), .nilIface]) ∧ n4 = (rawAt S q.kind q.b q.e).size ∧ n4 ≤ c4 ∧ Rd w' A4 (rawAt S q.kind q.b q.e) ∧ Below wr.heap.size wr w' from by
          refine (getW T V _ (S.extract x S.size) _ _ wr hRx (HW.out wr hkp) (by rw [size_ext]; omega) (by rw [size_ext]; omega) (by rw [size_ext]; omega)).mono ?_
          rw [hg]
          rintro e w' ⟨⟨A4, n4, c4, he, g1, g2, g3, g4⟩, hb4⟩
          rw [hraw] at g1 g4
          rw [hy] at he
          exact ⟨A4, n4, c4, he, g1, g2, g4, hb4⟩)
        have HQR := Lib.hid (show q.b < q.e ∧ q.e ≤ S.size from ⟨r6, r5⟩)
        have hrawl : (rawAt S q.kind q.b q.e).size ≤ 65536 := by unfold rawAt; split <;> rw [size_ext] <;> omega
        have hx1 : (0 : Int) ≤ (x : Int) := by omega
        have hx2 : (x : Int) ≤ (S.size : Int) := by omega
        have hcx : ¬ cap = x := by omega
        have hyn : ((y : Int) == 0) = false := beq_eq_false_iff_ne.2 (by omega)
        have ec : IntKind.i64.wrap ((ds.length : Int) + 1) = (ds.length : Int) + 1 := IntWalk.i64_in _ (by omega)
        have exy : IntKind.i64.wrap ((x : Int) + (y : Int)) = (q.e : Int) := by rw [IntWalk.i64_in _ (by omega)]; omega
        have hfx : (0 : Int) ≤ (q.e : Int) := by omega
        have hfx2 : (q.e : Int) ≤ (S.size : Int) := by omega
        have hcf : ¬ cap = q.e := by omega
        have hqS : q.e < S.size := by omega
        have ep2 : IntKind.i64.wrap ((q.e : Int) + (sk : Int)) = (p : Int) := by rw [IntWalk.i64_in _ (by omega)]; omega
        have ep3 : IntKind.i64.wrap ((p : Int) + 1) = (p : Int) + 1 := IntWalk.i64_in _ (by omega)
        have hpx : (p : Int) < (S.size : Int) := by omega
        have hpx0 : (0 : Int) ≤ (p : Int) := by omega
        have hpS : p < S.size := by omega
        have hun : ((sk : Int) == -1) = false := beq_eq_false_iff_ne.2 (by omega)
        have HP := Lib.hid hp
        have HXY := Lib.hid hxy
        clear hkd hec hout htd hqd hkp hne hend hnx r1 r2 r3 r4 r8 hg hraw hRx hd1 hd2 hy hp hxy hu
        go_upto_region 30 with (first
          | (go_at_call 54; (with_reducible refine HGQ.out.mono ?_); rintro e w6 ⟨A4, n4, c4, rfl, hn4, hc4, hr4, hb6⟩; replace hr4 := Lib.hid hr4; replace hb6 := Lib.hid hb6; replace hn4 := Lib.hid hn4))
        have hn4m : n4 ≤ 65536 := by rw [hn4.out]; exact hrawl
        have e6 : IntKind.i64.wrap ((q.e : Int) - (n4 : Int)) = (q.e : Int) - (n4 : Int) := IntWalk.i64_in _ (by omega)
        have HKP6 := Lib.hid (HKP.out.trans (.of_below hb6.out))
        have HCQ := Lib.hid (onCallQ w.heap.size G gS gE ds.length n4 c4 A4 (rawAt S q.kind q.b q.e) (jk q.kind : Int) ((q.e : Int) - (n4 : Int)) st eof a1 a2 .nilIface xs w6 (HOUTr.out.below hb6.out) hr4.out hn4.out (by omega) (by omega) (HGS.out w6 HKP6.out) (HGE.out w6 HKP6.out) lS lE nS nE (fun w' hk => HE.out w' (HKP6.out.trans hk)))
        have hcnt : ds.length + 1 = (ds ++ [q]).length := by rw [List.length_append]; rfl
        have HTK := Lib.hid (show Told S (r.kids.take (ds.length + 1)) (xs ++ fd4 (rawAt S q.kind q.b q.e) (jk q.kind : Int) ((q.e : Int) - (n4 : Int))) by
          rw [HKD.out, show ds ++ q :: qs = (ds ++ [q]) ++ qs by simp, hcnt, List.take_left']
          · exact Told.snoc HTD.out
          · rfl)
        have HLT := Lib.hid (show ds.length < r.kids.length by rw [HKD.out, List.length_append, List.length_cons]; omega)
        clear hcnt
        by_cases hst : (ds.length : Int) = st
        · cases eof with
          | true =>
            have hsv : stopV ds.length st true a1 a2 = .iface 188 (.pointer (some a1)) := by unfold stopV; rw [if_pos hst, if_pos rfl]
            rw [hsv] at HCQ
            have HST := Lib.hid hst
            clear hsv hst
            go_wp2_with (first
              | (go_at_call 24; (with_reducible refine HCQ.out.mono ?_); rintro e w7 ⟨rfl, ho7, hk7⟩
                 have HK7 := Lib.hid (HKP6.out.trans hk7)
                 have g7 := (HE.out w7 HK7.out).1.2.1
                 have HIS := Lib.hid (is_same a1 w7)
                 replace ho7 := Lib.hid ho7
                 clear hk7)
              | (go_at_call 55; (with_reducible refine HIS.out.mono ?_); rintro e w8 ⟨rfl, rfl⟩))
            (try simp only [Exit.inBlock, Exit.then])
            refine bodyPost_ret (results_tmp3 rfl _ _ _) rfl ?_
            exact ⟨_, ds.length + 1, _, _, rfl, .inr ⟨ds.length, HLT.out, HST.out, rfl, rfl⟩, ho7.out, HTK.out, HK7.out⟩
          | false =>
            have hsv : stopV ds.length st false a1 a2 = .iface 188 (.pointer (some a2)) := by unfold stopV; rw [if_pos hst, if_neg (by decide)]
            rw [hsv] at HCQ
            have HST := Lib.hid hst
            clear hsv hst
            go_wp2_with (first
              | (go_at_call 24; (with_reducible refine HCQ.out.mono ?_); rintro e w7 ⟨rfl, ho7, hk7⟩
                 have HK7 := Lib.hid (HKP6.out.trans hk7)
                 have g7 := (HE.out w7 HK7.out).1.2.1
                 have HIS := Lib.hid (is_other w7 (HE.out w7 HK7.out).2 (HE.out w7 HK7.out).1 (by omega) (by omega) (by omega))
                 replace ho7 := Lib.hid ho7
                 clear hk7)
              | (go_at_call 55; (with_reducible refine HIS.out.mono ?_); rintro e w8 ⟨rfl, rfl⟩))
            (try simp only [Exit.inBlock, Exit.then])
            refine bodyPost_ret (results_tmp3 rfl _ _ _) rfl ?_
            exact ⟨_, ds.length + 1, _, _, rfl, .inr ⟨ds.length, HLT.out, HST.out, rfl, rfl⟩, ho7.out, HTK.out, HK7.out⟩
        · have hsv : stopV ds.length st eof a1 a2 = .nilIface := by unfold stopV; rw [if_neg hst]
          rw [hsv] at HCQ
          have HST := Lib.hid hst
          clear hsv hst
          go_upto_region 42 with (first
            | (go_at_call 24; (with_reducible refine HCQ.out.mono ?_); rintro e w7 ⟨rfl, ho7, hk7⟩
               have HK7 := Lib.hid (HKP6.out.trans hk7)
               have HN7 := Lib.hid (nextTokW T V _ (S.extract q.e S.size) (S.size - q.e) (cap - q.e) sk w7 (HW.out w7 HK7.out) (rd0 (HRk.out w7 HK7.out) hcap hqS) (by rw [size_ext]; omega) (by rw [size_ext]; omega) (by rw [size_ext]; omega) HNXR.out)
               replace ho7 := Lib.hid ho7
               clear hk7)
            | (go_at_call 52; (with_reducible refine HN7.out.mono ?_); rintro e w8 ⟨rfl, hb8⟩; replace hb8 := Lib.hid hb8))
          have HK8 := Lib.hid (HK7.out.trans (.of_below hb8.out))
          have hc8 := cell0 (HRk.out w8 HK8.out) hpS
          have HO8 := Lib.hid (ho7.out.below hb8.out)
          rw [← HP.out] at hc8
          rcases HEND.out with ⟨hqs, h93⟩ | ⟨r', qs', hqs, h44, hec2⟩
          · rw [h93, HP.out] at hc8
            have HQS := Lib.hid hqs
            clear hqs h93
            go_wp2
            (try simp only [Exit.inBlock, Exit.then])
            refine bodyPost_ret (results_tmp3 rfl _ _ _) rfl ?_
            have e : r.kids.length = ds.length + 1 := by rw [HKD.out, HQS.out, List.length_append]; rfl
            refine ⟨_, ds.length + 1, _, _, rfl, .inl ⟨e.symm, rfl, fun i hi => ?_⟩, HO8.out, HTK.out, HK8.out⟩
            by_cases h : i < ds.length
            · exact HNE.out i h
            · rw [show i = ds.length by omega]; exact HST.out
          · rw [h44, HP.out] at hc8
            have HQS := Lib.hid hqs
            have HEC2 := Lib.hid hec2
            clear hqs h44 hec2
            go_wp2
            go_roundg (gk - 1)
            case measure => have := HQD.out; rw [HQS.out] at this; simp only [List.length_cons] at this; omega
            case rel =>
              refine ⟨p + 1, ds ++ [q], r', qs', _, by go_num, by rw [List.length_append]; rfl, by rw [HKD.out, HQS.out]; simp, ?_, by rw [List.length_append]; exact HO8.out, Told.snoc HTD.out, by have := HQD.out; rw [HQS.out] at this; simp only [List.length_cons] at this; omega, HK8.out, fun i hi => ?_⟩
              · rw [← HP.out]; exact HEC2.out
              · rw [List.length_append] at hi
                by_cases h : i < ds.length
                · exact HNE.out i h
                · rw [show i = ds.length by simp at hi; omega]; exact HST.out
end
end Go.Proofs.YtkdkdhcjpgmjdaaGreatDoor.Jp
namespace Go.Proofs.YtkdkdhcjpgmjdaaGreatDoor.Jp
section
open Go.RowKit L
set_option linter.unusedVariables false
set_option linter.unusedSimpArgs false
set_option maxRecDepth 100000 in
set_option maxHeartbeats 4000000 in
/-- jpSame of what a place is. -/
theorem sameYes (s r : ByteArray) (k b e : Nat) (x y : Int) (v0 vn vk : Value) (w : World) (hs : s.size ≤ 1000000) (hbe : b < e) (he : e ≤ s.size) (h4 : k = 4 → b + 2 ≤ e) (hk : k ≤ 6) (hr : rawAt s k b e = r) (hx : x = (jk k : Int)) :
    Calls Tryz.prog 9 #[.agg #[v0, .string r, .int .i64 x, .int .i64 y], .string s, .agg #[.int .i64 (k : Int), .int .i64 (b : Int), .int .i64 (e : Int), vn, vk]] w fun en w' => en = .returned (.bool true) ∧ Below w.heap.size w w' := by
  have HX := Lib.hid hx
  have HR := Lib.hid hr
  clear hx hr
  obtain ⟨w1, hw1⟩ : ∃ w1, w.alloc (.cells #[v0, .string r, .int .i64 x, .int .i64 y] 35) = w1 := ⟨_, rfl⟩
  have HB1 := Lib.hid (show Below w.heap.size w w1 by rw [← hw1]; exact below_alloc (Below.refl _ _) _)
  have HF := Lib.hid (show F4 w1 w.heap.size v0 (.string r) (.int .i64 x) (.int .i64 y) by rw [← hw1]; exact F4.new _ _ _ _ _)
  have hz1 : w1.heap.size = w.heap.size + 1 := by rw [← hw1]; simp
  obtain ⟨w2, hw2⟩ : ∃ w2, w1.alloc (.cells #[.int .i64 (k : Int), .int .i64 (b : Int), .int .i64 (e : Int), vn, vk] 27) = w2 := ⟨_, rfl⟩
  have HB2 := Lib.hid (show Below w1.heap.size w1 w2 by rw [← hw2]; exact below_alloc (Below.refl _ _) _)
  have HP := Lib.hid (show B5 w2 w1.heap.size (.int .i64 (k : Int)) (.int .i64 (b : Int)) (.int .i64 (e : Int)) vn vk by rw [← hw2]; exact B5.new _ _ _ _ _ _)
  have HF2 := Lib.hid (HF.out.below HB2.out)
  have HZ1 := Lib.hid hz1
  clear hz1
  go_enter Tryz.func9, Tryz.ntmps9
  go_wp2
  have hxx : (x == x) = true := beq_self_eq_true x
  have hrr : (r.toList == r.toList) = true := beq_self_eq_true _
  have hee : ((e : Int) == (e : Int)) = true := beq_self_eq_true _
  go_region_held3 (fun w3 => w3.cell? ⟨w.heap.size, 1, none⟩ = some (.string r) ∧ w3.cell? ⟨w.heap.size, 2, none⟩ = some (.int .i64 x) ∧ w3.cell? ⟨w.heap.size, 3, none⟩ = some (.int .i64 y) ∧ w3.cell? ⟨w1.heap.size, 0, none⟩ = some (.int .i64 (k : Int)) ∧ w3.cell? ⟨w1.heap.size, 1, none⟩ = some (.int .i64 (b : Int)) ∧ w3.cell? ⟨w1.heap.size, 2, none⟩ = some (.int .i64 (e : Int)) ∧ w3.cell? ⟨w1.heap.size, 3, none⟩ = some vn ∧ w3.cell? ⟨w1.heap.size, 4, none⟩ = some vk ∧ Below w2.heap.size w2 w3)
    (first | exact ⟨HF2.out.c1, HF2.out.c2, HF2.out.c3, HP.out.c0, HP.out.c1, HP.out.c2, HP.out.c3, HP.out.c4, ⟨rfl, rfl, rfl, Nat.le_refl _, fun _ _ => rfl⟩⟩ | assumption | exact keep9 HF2.out.lt HP.out.lt ‹_› ‹_›)
    (first
      | (go_at_call 26; refine (kindX k _ x hk rfl HX.out _).mono ?_; rintro en w3 ⟨rfl, rfl⟩)
      | (go_at_call 27; refine (rawW s k b e vn vk _ hs hbe he h4 hk).mono ?_; rw [HR.out]; rintro en w3 ⟨rfl, hb3⟩))
  all_goals
    go_wp2
    go_ret
    rename_i hH
    exact ⟨rfl, below_of (below_of HB1.out HB2.out) hH.2.2.2.2.2.2.2.2⟩
end
end Go.Proofs.YtkdkdhcjpgmjdaaGreatDoor.Jp
namespace Go.Proofs.YtkdkdhcjpgmjdaaGreatDoor.Jp
section
open Go.RowKit L
set_option linter.unusedVariables false
set_option linter.unusedSimpArgs false

theorem Told.at4 {S : ByteArray} {ds : List Pl} {xs : List Value} (h : Told S ds xs) : ∀ {k : Nat} {q : Pl}, ds[k]? = some q → ∃ x : Int, xs[k * 4 + 0]? = some (.string ⟨#[]⟩) ∧ xs[k * 4 + 1]? = some (.string (rawAt S q.kind q.b q.e)) ∧ xs[k * 4 + 2]? = some (.int .i64 (jk q.kind : Int)) ∧ xs[k * 4 + 3]? = some (.int .i64 x) := by
  induction h with
  | nil => intro k q h; cases h
  | snoc h ih =>
    rename_i ds xs q0 x
    intro k q hk
    have hl := h.len
    by_cases hlt : k < ds.length
    · rw [List.getElem?_append_left hlt] at hk
      obtain ⟨y, h0, h1, h2, h3⟩ := ih hk
      refine ⟨y, ?_⟩
      rw [List.getElem?_append_left (by omega), List.getElem?_append_left (by omega), List.getElem?_append_left (by omega), List.getElem?_append_left (by omega)]
      exact ⟨h0, h1, h2, h3⟩
    · have hk2 : k = ds.length := by
        have := (List.getElem?_eq_some_iff.1 hk).1
        simp at this; omega
      subst hk2
      rw [List.getElem?_append_right (Nat.le_refl _), Nat.sub_self] at hk
      simp only [List.getElem?_cons_zero, Option.some.injEq] at hk
      subst hk
      refine ⟨x, ?_⟩
      rw [List.getElem?_append_right (by omega), List.getElem?_append_right (by omega), List.getElem?_append_right (by omega), List.getElem?_append_right (by omega), hl, Nat.add_sub_cancel_left, Nat.add_sub_cancel_left, Nat.add_sub_cancel_left, Nat.add_sub_cancel_left]
      exact ⟨rfl, rfl, rfl, rfl⟩
theorem keep11 {w2 w3 w4 : World} {a1 a2 : Addr} {g : Nat} {r0 r1 r2 r3 p4 k0 k1 k2 k3 k4 : Value} (h1 : a1.block < w2.heap.size) (h2 : a2.block < w2.heap.size) (hg : g < w2.heap.size)
    (h : w3.cell? a1 = some r0 ∧ w3.cell? ⟨a1.block, a1.off + 1, none⟩ = some r1 ∧ w3.cell? ⟨a1.block, a1.off + 2, none⟩ = some r2 ∧ w3.cell? ⟨a1.block, a1.off + 3, none⟩ = some r3 ∧ w3.cell? ⟨g, 4, none⟩ = some p4 ∧ w3.cell? a2 = some k0 ∧ w3.cell? ⟨a2.block, a2.off + 1, none⟩ = some k1 ∧ w3.cell? ⟨a2.block, a2.off + 2, none⟩ = some k2 ∧ w3.cell? ⟨a2.block, a2.off + 3, none⟩ = some k3 ∧ w3.cell? ⟨a2.block, a2.off + 4, none⟩ = some k4 ∧ Below w2.heap.size w2 w3)
    (hb : Below w3.heap.size w3 w4) :
    w4.cell? a1 = some r0 ∧ w4.cell? ⟨a1.block, a1.off + 1, none⟩ = some r1 ∧ w4.cell? ⟨a1.block, a1.off + 2, none⟩ = some r2 ∧ w4.cell? ⟨a1.block, a1.off + 3, none⟩ = some r3 ∧ w4.cell? ⟨g, 4, none⟩ = some p4 ∧ w4.cell? a2 = some k0 ∧ w4.cell? ⟨a2.block, a2.off + 1, none⟩ = some k1 ∧ w4.cell? ⟨a2.block, a2.off + 2, none⟩ = some k2 ∧ w4.cell? ⟨a2.block, a2.off + 3, none⟩ = some k3 ∧ w4.cell? ⟨a2.block, a2.off + 4, none⟩ = some k4 ∧ Below w2.heap.size w2 w4 := by
  obtain ⟨c0, c1, c2, c3, c4, c5, c6, c7, c8, c9, hB⟩ := h
  have l1 : a1.block < w3.heap.size := Nat.lt_of_lt_of_le h1 hB.size
  have l2 : a2.block < w3.heap.size := Nat.lt_of_lt_of_le h2 hB.size
  have l3 : g < w3.heap.size := Nat.lt_of_lt_of_le hg hB.size
  exact ⟨(hb.cell l1).trans c0, (hb.cell (p := ⟨a1.block, a1.off + 1, none⟩) l1).trans c1, (hb.cell (p := ⟨a1.block, a1.off + 2, none⟩) l1).trans c2, (hb.cell (p := ⟨a1.block, a1.off + 3, none⟩) l1).trans c3, (hb.cell (p := ⟨g, 4, none⟩) l3).trans c4, (hb.cell l2).trans c5,
    (hb.cell (p := ⟨a2.block, a2.off + 1, none⟩) l2).trans c6, (hb.cell (p := ⟨a2.block, a2.off + 2, none⟩) l2).trans c7, (hb.cell (p := ⟨a2.block, a2.off + 3, none⟩) l2).trans c8, (hb.cell (p := ⟨a2.block, a2.off + 4, none⟩) l2).trans c9, below_of hB hb⟩
set_option maxRecDepth 100000 in
set_option maxHeartbeats 4000000 in
theorem eachErrO (kids : List Pl) (S : ByteArray) (st : Int) (eof : Bool) (a2 : Addr) (G : Nat) (d f k : Value) (w : World)
    (h : Calls Tryz.prog 39 #[d, f, k] w (EePost S kids st eof a2 G w)) :
    Calls Tryz.prog 23 #[d, f, k] w fun e w' => ∃ (cnt : Nat) (rv : Value) (xs : List Value), e = .returned (.tuple #[.int .i64 (cnt : Int), rv]) ∧ Done kids st eof a2 cnt rv ∧ Out w.heap.size G w' cnt xs ∧ Told S (kids.take cnt) xs ∧ Kp (Old w.heap.size G) w w' := by
  have H := Lib.hid h
  clear h
  go_enter Tryz.func23, Tryz.ntmps23
  go_wp2_with (first
    | (go_at_call 39; (with_reducible refine H.out.mono ?_); rintro e w2 ⟨x, cnt, rv, xs, rfl, h1, h2, h3, h4⟩; replace h1 := Lib.hid h1; replace h2 := Lib.hid h2; replace h3 := Lib.hid h3; replace h4 := Lib.hid h4))
  (try simp only [Exit.inBlock, Exit.then])
  refine bodyPost_ret (results_tmp2 rfl _ _ _) rfl ?_
  exact ⟨cnt, rv, xs, rfl, h1.out, h2.out, h3.out, h4.out⟩
/-- How far the calls went, and whether without an error. -/
def DoneB (kids : List Pl) (st : Int) (eof : Bool) (cnt : Nat) (is : Bool) : Prop :=
  (cnt = kids.length ∧ is = true ∧ ∀ i : Nat, i < kids.length → (i : Int) ≠ st) ∨ (∃ m : Nat, m < kids.length ∧ (m : Int) = st ∧ cnt = m + 1 ∧ is = eof)
/-- What JqArrayErr answers. -/
def JaPost (S : ByteArray) (kids : List Pl) (st : Int) (eof : Bool) (w : World) (e : Ending) (w' : World) : Prop :=
  ∃ (A : Option Addr) (cnt c : Nat) (is : Bool) (xs : List Value), e = .returned (.tuple #[.slice A cnt c, .int .i64 (cnt : Int), .bool is]) ∧ DoneB kids st eof cnt is ∧ Row w' (From w.heap.size) 4 A cnt c xs ∧ Told S (kids.take cnt) xs ∧ Below w.heap.size w w'
set_option maxRecDepth 100000 in
set_option maxHeartbeats 4000000 in
theorem jqArrErrW (T : Nat → TypeId) (V : Nat → Value) (S : ByteArray) (root r : Pl) (kd : List ByteArray) (A : Option Addr) (nk ck : Nat) (Bk : Nat → Prop) (w : World) (st : Int) (eof : Bool) (a1 a2 : Addr)
    (hS : S.size ≤ 65536) (hW : Wd T V w) (hT : Tb w) (h1 : ErrP w 0 a1 1) (h2 : ErrP w 1 a2 2) (hK : Row w Bk 1 A nk ck (keysV kd)) (hkn : kd.length ≤ 2147483647)
    (hp : places S = some root) (hl : Leads S root kd r) (hv : IsVal S r) (h5 : r.kind = 5) :
    Calls Tryz.prog 8 #[.string S, .slice A nk ck, .int .i64 st, .bool eof] w (JaPost S r.kids st eof w) := by
  obtain ⟨w1, hw1⟩ : ∃ w1, w.alloc (.cells #[.int .i64 st] 3) = w1 := ⟨_, rfl⟩
  obtain ⟨w2, hw2⟩ : ∃ w2, w1.alloc (.cells #[.bool eof] 4) = w2 := ⟨_, rfl⟩
  obtain ⟨w3, hw3⟩ : ∃ w3, w2.alloc (.cells #[.slice none 0 0] 30) = w3 := ⟨_, rfl⟩
  have hb1 : Below w.heap.size w w1 := by rw [← hw1]; exact below_alloc (Below.refl _ _) _
  have hb2 : Below w1.heap.size w1 w2 := by rw [← hw2]; exact below_alloc (Below.refl _ _) _
  have hb3 : Below w2.heap.size w2 w3 := by rw [← hw3]; exact below_alloc (Below.refl _ _) _
  have hz1 : w1.heap.size = w.heap.size + 1 := by rw [← hw1]; simp
  have hz2 : w2.heap.size = w.heap.size + 1 + 1 := by rw [← hw2]; simp [hz1]
  have hz3 : w3.heap.size = w.heap.size + 1 + 1 + 1 := by rw [← hw3]; simp [hz2]
  have hs1 : w1.heap[w.heap.size]? = some (.cells #[.int .i64 st] 3 (0, 0)) := by rw [← hw1]; exact heap_alloc_new w _
  have hs2 : w2.heap[w.heap.size + 1]? = some (.cells #[.bool eof] 4 (0, 0)) := by rw [← hw2, ← hz1]; exact heap_alloc_new w1 _
  have hs3 : w3.heap[w.heap.size + 1 + 1]? = some (.cells #[.slice none 0 0] 30 (0, 0)) := by rw [← hw3, ← hz2]; exact heap_alloc_new w2 _
  have hcv : (convert 9 59 (.string S)).run Tryz.prog w3 = .ok (.slice (some ⟨w3.heap.size, 0, none⟩) S.size (grownCap w3 S.size 0 5)) (Lib.bytesWorld w3 5 S) := Lib.run_convert_string_bytes w3 9 59 5 S Tryz.underlying9 Tryz.underlying59 Tryz.underlying5
  have hb4 := bytesWorld_below w3 5 S
  have hR4 := bytesWorld_rd w3 5 S
  have hC4 := bytesCap w3 5 S
  have hz4 : (Lib.bytesWorld w3 5 S).heap.size = w3.heap.size + 1 := by rw [Lib.bytesWorld_size]
  obtain ⟨w4, hw4⟩ : ∃ w4, Lib.bytesWorld w3 5 S = w4 := ⟨_, rfl⟩
  obtain ⟨cap, hcap⟩ : ∃ cc, grownCap w3 S.size 0 5 = cc := ⟨_, rfl⟩
  rw [hw4] at hcv hb4 hR4 hz4
  rw [hcap] at hcv hC4
  have hb23 := below_of hb1 (below_of hb2 hb3)
  have hB4 := below_of hb23 hb4
  have hs1' : w4.heap[w.heap.size]? = some (.cells #[.int .i64 st] 3 (0, 0)) := (hb4.block _ (by omega)).trans ((hb3.block _ (by omega)).trans ((hb2.block _ (by omega)).trans hs1))
  have hs2' : w4.heap[w.heap.size + 1]? = some (.cells #[.bool eof] 4 (0, 0)) := (hb4.block _ (by omega)).trans ((hb3.block _ (by omega)).trans hs2)
  have hs3' : w4.heap[w.heap.size + 1 + 1]? = some (.cells #[.slice none 0 0] 30 (0, 0)) := (hb4.block _ (by omega)).trans hs3
  have HEE := Lib.hid (eachErrO r.kids S st eof a2 (w.heap.size + 1 + 1) _ _ _ w4 (eachErrW T V S root r kd A nk ck Bk w w4 (w.heap.size + 1 + 1) w.heap.size (w.heap.size + 1) w3.heap.size cap st eof a1 a2 hS hB4 hW hT h1 h2 hK hkn hR4 hC4 hs3'
    (cell_of_row _ _ 0 _ _ _ hs1') (cell_of_row _ _ 0 _ _ _ hs2') (by omega) (by omega) (by omega) (by omega) (by omega) (by omega) (by omega) hp hl hv h5))
  have HB4 := Lib.hid hB4
  have HZ4 := Lib.hid (show w4.heap.size = w.heap.size + 1 + 1 + 1 + 1 by rw [hz4, hz3])
  rw [hz3] at hcv HEE
  have hmf : ∀ (fn : Fn) (first cap : Array Value) (w : World), (Instr.makeFunc fn first cap).run Tryz.prog w = .ok (.func fn first cap) w := fun _ _ _ _ => rfl
  clear hW hT h1 h2 hK hkn hp hl hv hb1 hb2 hb3 hb4 hR4 hC4 hz4 hb23 hB4 hs1 hs2 hs3 hs1' hs2' hs3' hw4 hcap
  go_enter Tryz.func8, Tryz.ntmps8
  go_wp2_with (first
    | (go_at_call 23; (with_reducible refine HEE.out.mono ?_); rintro e w5 ⟨cnt, rv, xs, rfl, hd, ⟨o1, o2, vv, o3, o4⟩, ht, hk⟩
       obtain ⟨A5, c5, rfl, hrow⟩ := Row.of_own o4
       have hc5 : w5.cell? ⟨w.heap.size + 1 + 1, 0, none⟩ = some (.slice A5 cnt c5) := cell_of_row w5 _ 0 _ _ _ o3
       replace hrow := Lib.hid hrow
       replace ht := Lib.hid ht
       replace hk := Lib.hid hk
       replace hd := Lib.hid hd
       clear o1 o2 o3 o4))
  have HFI := Lib.hid (show ∀ (is : Bool) (nd : Nat), DoneB r.kids st eof cnt is → JaPost S r.kids st eof w (.returned (.tuple #[.slice A5 cnt c5, .int .i64 (cnt : Int), .bool is])) (w5.drewN nd) from fun is nd hdb => by
    refine ⟨A5, cnt, c5, is, xs, rfl, hdb, (hrow.out.mono fun j _ hj => ?_).keep ⟨Nat.le_refl _, fun _ _ _ => rfl⟩, ht.out, ?_⟩
    · have := HZ4.out; simp only [From] at hj ⊢; omega
    · have hz := HZ4.out
      have hsz := hk.out.size
      have hsz2 := HB4.out.size
      refine (show Below w.heap.size w w5 from ⟨hk.out.os.trans HB4.out.os, hk.out.tape.trans HB4.out.tape, hk.out.output.trans HB4.out.output, by omega, fun j hj => (hk.out.block j ⟨by omega, by omega⟩ (by omega)).trans (HB4.out.block j hj)⟩).trans ⟨rfl, rfl, rfl, Nat.le_refl _, fun _ _ => rfl⟩)

  rcases hd.out with ⟨d1, rfl, d3⟩ | ⟨m, d1, d2, d3, d4⟩
  · have HD := Lib.hid (show DoneB r.kids st eof cnt true from .inl ⟨d1, rfl, d3⟩)
    clear d1 d3 hd
    go_quiet (fail)
    go_wp2
    (try simp only [Exit.inBlock, Exit.then])
    refine bodyPost_ret (results_tmp3 rfl _ _ _) rfl ?_
    exact HFI.out true _ HD.out
  · cases eof with
    | true =>
      obtain rfl : rv = .nilIface := by rw [d4, if_pos rfl]
      have HD := Lib.hid (show DoneB r.kids st true cnt true from .inr ⟨m, d1, d2, d3, rfl⟩)
      clear d1 d2 d3 d4 hd
      go_quiet (fail)
      go_wp2
      (try simp only [Exit.inBlock, Exit.then])
      refine bodyPost_ret (results_tmp3 rfl _ _ _) rfl ?_
      exact HFI.out true _ HD.out
    | false =>
      obtain rfl : rv = .iface 188 (.pointer (some a2)) := by rw [d4, if_neg (by decide)]
      have HD := Lib.hid (show DoneB r.kids st false cnt false from .inr ⟨m, d1, d2, d3, rfl⟩)
      clear d1 d2 d3 d4 hd
      go_quiet (fail)
      go_wp2
      (try simp only [Exit.inBlock, Exit.then])
      refine bodyPost_ret (results_tmp3 rfl _ _ _) rfl ?_
      exact HFI.out false _ HD.out
set_option maxRecDepth 100000 in
set_option maxHeartbeats 8000000 in
theorem lawAE (T : Nat → TypeId) (V : Nat → Value) (a1 a2 : Addr) (s : ByteArray) (A : Option Addr) (n c : Nat) (ks : List ByteArray) (st : Int) (eof : Bool) (w : World) (hs0 : s.size ≤ 140737488351232) (hR : Row w (fun _ => True) 1 A n c (keysV ks)) (hks : ∀ k ∈ ks, k.size ≤ 9223372036854775807) (hst : (Lit.int .i64 st).wf = true) (hW : Wd T V w) (hT : Tb w) (h1 : ErrP w 0 a1 1) (h2 : ErrP w 1 a2 2) :
    Calls Tryz.prog 3 #[.string s, .slice A n c, .int .i64 st, .bool eof] w fun e w' => e = .returned (.bool true) ∧ Below w.heap.size w w' := by
  have HW := Lib.hid hW
  have HT := Lib.hid hT
  have H1 := Lib.hid h1
  have H2 := Lib.hid h2
  have HR := Lib.hid hR
  have HKS := Lib.hid hks
  have HKL := Lib.hid (keys_len hR).1
  clear hW hT h1 h2 hR hks hst
  by_cases hbig : 2147483647 < s.size
  · go_enter Tryz.func3, Tryz.ntmps3
    go_wp2
    go_ret
    exact ⟨rfl, Below.refl _ _⟩
  have hd1 : decide (2147483647 < (s.size : Int)) = false := by simp; omega
  go_enter Tryz.func3, Tryz.ntmps3
  go_upto_region 3 with (first
    | (go_at_call 6; refine (fits1W A n c ks (fun _ => True) _ HR.out HKS.out).mono ?_; rintro e w1 ⟨rfl, b, rfl, hb⟩; replace hb := Lib.hid hb; cases b))
  · go_ret
    exact ⟨rfl, Below.refl _ _⟩
  · go_upto_region 4 with (first
      | (go_at_call 7; go_must (refine (jqFoundW s ks (fun _ => True) A n c _ HR.out (hb.out (by trivial)).2 (by omega)).mono ?_); rintro e w1 ⟨hb1, ⟨root, r, An, cn, Ak, ck, hsz, hpl, hld, hval, rfl, hpm⟩ | rfl⟩ <;> replace hb1 := Lib.hid hb1))
    · obtain ⟨w2, hw2⟩ : ∃ w2, w1.alloc (.cells #[.int .i64 (r.kind : Int), .int .i64 (r.b : Int), .int .i64 (r.e : Int), .slice An r.names.length cn, .slice Ak r.kids.length ck] 27) = w2 := ⟨_, rfl⟩
      rw [hw2]
      have hb2 : Below w1.heap.size w1 w2 := by rw [← hw2]; exact below_alloc (Below.refl _ _) _
      have hp2 : B5 w2 w1.heap.size (.int .i64 (r.kind : Int)) (.int .i64 (r.b : Int)) (.int .i64 (r.e : Int)) (.slice An r.names.length cn) (.slice Ak r.kids.length ck) := by rw [← hw2]; exact B5.new _ _ _ _ _ _
      have HP2 := Lib.hid hp2
      have HPM := Lib.hid (hpm.keep (Keeps.of_below hb2))
      have HB2 := Lib.hid (below_of hb1.out hb2)
      have HV := Lib.hid hval
      have hkn : ks.length ≤ 2147483647 := by have := (hb.out (by trivial)).1; have := HKL.out; omega
      have c0 := hp2.c0
      have c4 := hp2.c4
      by_cases h5 : r.kind = 5
      case neg =>
        have k5 : ((r.kind : Int) == 5) = false := beq_eq_false_iff_ne.2 (by omega)
        have k5b : ((r.kind : Int) != 5) = true := by rw [bne, k5]; rfl
        clear h5
        go_wp2
        go_ret
        exact ⟨rfl, HB2.out⟩
      have k5 : ((r.kind : Int) == 5) = true := by rw [beq_iff_eq]; omega
      have k5b : ((r.kind : Int) != 5) = false := by rw [bne, k5]; rfl
      have HKM := Lib.hid (kids_len hval h5)
      have HJA := Lib.hid (jqArrErrW T V s root r ks A n c _ w2 st eof a1 a2 (by omega) (HW.out.below HB2.out) (HT.out.below HB2.out) (H1.out.below HB2.out) (H2.out.below HB2.out) (HR.out.keep (.of_below HB2.out)) hkn hpl hld hval h5)
      have HIK := Lib.hid (isval_in hval).1
      obtain ⟨kk, hkk⟩ : ∃ kk, r.kids.length = kk := ⟨_, rfl⟩
      have HKK := Lib.hid hkk
      clear hb2 hp2 hw2 hpl hld hpm hval h5
      rw [hkk] at c4
      go_upto_region 8 with (first
        | (go_at_call 8; (with_reducible refine HJA.out.mono ?_); rintro e w3 ⟨Af, cnt, cf, is, xs, rfl, hdb, hrow, htold, hb3⟩
           replace hdb := Lib.hid hdb
           replace hrow := Lib.hid hrow
           replace htold := Lib.hid htold
           have HP3 := Lib.hid (B5.below HP2.out hb3)
           have c4 := HP3.out.c4
           rw [hkk] at c4
           have HPM3 := Lib.hid (HPM.out.keep (Keeps.of_below hb3))
           have HB3 := Lib.hid (below_of HB2.out hb3)
           clear hb3))
      have hkk16 : kk ≤ 16384 := by have := HKM.out; omega
      have hcl : cnt ≤ kk := by
        rcases hdb.out with ⟨d1, -, -⟩ | ⟨m, d1, -, d3, -⟩
        · have := HKK.out; omega
        · have := HKK.out; omega
      have HCL := Lib.hid hcl
      have hcases : (st < 0 ∧ cnt = kk ∧ is = true) ∨ (0 ≤ st ∧ (kk : Int) ≤ st ∧ cnt = kk ∧ is = true) ∨ (0 ≤ st ∧ st < (kk : Int) ∧ (cnt : Int) = st + 1 ∧ is = eof) := by
        rcases hdb.out with ⟨d1, d2, d3⟩ | ⟨m, d1, d2, d3, d4⟩
        · by_cases hs : st < 0
          · exact .inl ⟨hs, by rw [← HKK.out]; exact d1, d2⟩
          · by_cases hs2 : (kk : Int) ≤ st
            · exact .inr (.inl ⟨by omega, hs2, by rw [← HKK.out]; exact d1, d2⟩)
            · exact absurd (show ((st.toNat : Nat) : Int) = st by omega) (d3 st.toNat (by have := HKK.out; omega))
        · exact .inr (.inr ⟨by omega, by have := HKK.out; omega, by omega, d4⟩)
      clear hkk c0 k5 k5b
      have hcc : ((cnt : Int) == (cnt : Int)) = true := beq_self_eq_true _
      rcases hcases with ⟨s1, s3, rfl⟩ | ⟨s1, s2, s3, rfl⟩ | ⟨s1, s2, s3, rfl⟩
      focus
        have hs1 : decide (st < 0) = true := by simp; omega
        have hcq : ((cnt : Int) == (kk : Int)) = true := by rw [beq_iff_eq]; omega
        have hcq2 : ((cnt : Int) != (kk : Int)) = false := by rw [bne, hcq]; rfl
        have S3 := Lib.hid s3
        clear s3
        go_upto_region 13 with (fail)
      rotate_left
      focus
        have hs1 : decide (st < 0) = false := by simp; omega
        have hs2 : decide ((kk : Int) ≤ st) = true := by simp; omega
        have hcq : ((cnt : Int) == (kk : Int)) = true := by rw [beq_iff_eq]; omega
        have hcq2 : ((cnt : Int) != (kk : Int)) = false := by rw [bne, hcq]; rfl
        have S3 := Lib.hid s3
        clear s3
        go_upto_region 13 with (fail)
      rotate_left
      focus
        have hs1 : decide (st < 0) = false := by simp; omega
        have hs2 : decide ((kk : Int) ≤ st) = false := by simp; omega
        have es : IntKind.i64.wrap (st + 1) = (cnt : Int) := by rw [IntWalk.i64_in _ (by omega)]; omega
        have S3 := Lib.hid s3
        clear s3
        go_upto_region 13 with (fail)
      all_goals
        clear hs1
        (try clear hs2)
        go_wp2_with (fail)
        go_loopg [16] (cnt + 1) (fun d v16 wx => ∃ k : Nat, v16 = .int .i64 (k : Int) ∧ k ≤ cnt ∧ cnt < d + k ∧ Below w3.heap.size w3 wx)
        case atStart => exact ⟨0, rfl, by omega, by omega, Below.refl _ _⟩
        case round =>
          obtain ⟨k, rfl, hk, hd, hb⟩ := hrel
          have HD := Lib.hid hd
          have HB := Lib.hid hb
          clear hd hb
          by_cases hlt : k < cnt
          · have hkn2 : k < r.kids.length := by have := HKK.out; omega
            obtain ⟨q, hq⟩ : ∃ q, r.kids[k]? = some q := ⟨_, List.getElem?_eq_getElem hkn2⟩
            have hkq : (r.kids.take cnt)[k]? = some q := by rw [List.getElem?_take_of_lt hlt]; exact hq
            obtain ⟨ad, An', cn', Ak', ck', rfl, hlb, hik, d0, d1, d2, d3, d4, -⟩ := kidAt (HPM3.out.keep (Keeps.of_below HB.out)) hq
            obtain ⟨x, z0, z1, z2, z3⟩ := htold.out.at4 hkq
            obtain ⟨af, rfl, -, hfb, hfc⟩ := (hrow.out.keep (Keeps.of_below HB.out)).2.2.2 (by omega)
            have f0 := hfc _ _ z0
            have f1 := hfc _ _ z1
            have f2 := hfc _ _ z2
            have f3 := hfc _ _ z3
            rw [Nat.add_zero] at f0
            rw [← add_add, add_off _ _ (by omega)] at f1 f2 f3
            have hblk : (af.add (k * 4)).block < wr.heap.size := by rw [add_block]; exact hfb
            have hblk2 : (ad.add (k * 5)).block < wr.heap.size := by rw [add_block]; exact hlb
            have hblk1 : w1.heap.size < wr.heap.size := Nat.lt_of_lt_of_le HP3.out.lt HB.out.size
            have q4' : wr.cell? ⟨w1.heap.size, 4, none⟩ = some (.slice (some ad) kk ck) := (HB.out.cell (p := ⟨w1.heap.size, 4, none⟩) HP3.out.lt).trans c4
            have hvq := HIK.out q (List.mem_of_getElem? hq)
            obtain ⟨nv, off, hrd⟩ := hvq
            have o1 : q.b < q.e := hrd.2.2.2.2.2.1
            have o2 : q.e ≤ s.size := hrd.2.2.2.2.1
            have o3 : q.kind ≤ 6 := hrd.2.2.2.2.2.2.1
            have O4 := Lib.hid hrd.2.2.2.2.2.2.2
            obtain ⟨rw, hrw⟩ : ∃ rw, rawAt s q.kind q.b q.e = rw := ⟨_, rfl⟩
            obtain ⟨jx, hjx⟩ : ∃ jx : Int, (jk q.kind : Int) = jx := ⟨_, rfl⟩
            rw [hrw] at f1
            rw [hjx] at f2
            have HRW := Lib.hid hrw
            have HJX := Lib.hid hjx
            clear hq hkq z0 z1 z2 z3 hrw hjx hfc hrd c4
            have hltt : decide ((k : Int) < (cnt : Int)) = true := by simp; omega
            have hi0 : (0 : Int) ≤ (k : Int) := by omega
            have hi1 : (k : Int) < (cnt : Int) := by omega
            have hi2 : (k : Int) < (kk : Int) := by omega
            have ek : IntKind.i64.wrap ((k : Int) + 1) = (k : Int) + 1 := IntWalk.i64_in _ (by omega)
            go_wp2
            go_region_held3 (fun wz => wz.cell? (af.add (k * 4)) = some (.string ⟨#[]⟩) ∧ wz.cell? ⟨(af.add (k * 4)).block, (af.add (k * 4)).off + 1, none⟩ = some (.string rw) ∧ wz.cell? ⟨(af.add (k * 4)).block, (af.add (k * 4)).off + 2, none⟩ = some (.int .i64 jx) ∧ wz.cell? ⟨(af.add (k * 4)).block, (af.add (k * 4)).off + 3, none⟩ = some (.int .i64 x) ∧ wz.cell? ⟨w1.heap.size, 4, none⟩ = some (.slice (some ad) kk ck) ∧ wz.cell? (ad.add (k * 5)) = some (.int .i64 (q.kind : Int)) ∧ wz.cell? ⟨(ad.add (k * 5)).block, (ad.add (k * 5)).off + 1, none⟩ = some (.int .i64 (q.b : Int)) ∧ wz.cell? ⟨(ad.add (k * 5)).block, (ad.add (k * 5)).off + 2, none⟩ = some (.int .i64 (q.e : Int)) ∧ wz.cell? ⟨(ad.add (k * 5)).block, (ad.add (k * 5)).off + 3, none⟩ = some (.slice An' q.names.length cn') ∧ wz.cell? ⟨(ad.add (k * 5)).block, (ad.add (k * 5)).off + 4, none⟩ = some (.slice Ak' q.kids.length ck') ∧ Below wr.heap.size wr wz)
              (first | exact ⟨f0, f1, f2, f3, q4', d0, d1, d2, d3, d4, ⟨rfl, rfl, rfl, Nat.le_refl _, fun _ _ => rfl⟩⟩ | assumption | exact keep11 hblk hblk2 hblk1 ‹_› ‹_›)
              (first
                | (go_at_call 9; refine (sameYes s rw q.kind q.b q.e jx x _ _ _ _ (by omega) o1 o2 O4.out o3 HRW.out HJX.out.symm).mono ?_; rintro en wz ⟨rfl, hb3⟩))
            all_goals
              rename_i hH
              have HH := Lib.hid hH
              clear hH
              go_wp2
              go_roundg (gk - 1)
              case measure => have := HD.out; omega
              case rel => exact ⟨k + 1, by go_num, by omega, by have := HD.out; omega, below_of HB.out HH.out.2.2.2.2.2.2.2.2.2.2⟩
          · have hltt : decide ((k : Int) < (cnt : Int)) = false := by simp; omega
            go_wp2
            go_ret
            exact ⟨rfl, below_of HB3.out HB.out⟩
    · go_wp2
      go_ret
      exact ⟨rfl, below_alloc hb1.out _⟩
end
end Go.Proofs.YtkdkdhcjpgmjdaaGreatDoor.Jp
