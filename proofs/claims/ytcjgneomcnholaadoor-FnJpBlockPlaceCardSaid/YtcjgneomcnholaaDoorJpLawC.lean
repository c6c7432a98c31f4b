/- FnJrGetCut: the walk of the law. -/
import Derived.Test.YtcjgneomcnholaaDoorJpErr
import Derived.Test.YtcjgneomcnholaaDoorPlaces
import Derived.Laws.DeepStrings4
namespace Go.Proofs.YtcjgneomcnholaaDoor.Jp
open Go.RowKit L
set_option linter.unusedVariables false
set_option linter.unusedSimpArgs false

/-- The package's variables, the errors told apart. -/
structure WdP (a : Nat → Addr) (w : World) : Prop where
  errs : ErrsP a w
  wd : Wd (fun _ => 132) (fun k => .pointer (some (a k))) w
theorem WdP.below {a : Nat → Addr} {w w' : World} (h : WdP a w) (hb : Below w.heap.size w w') : WdP a w' := ⟨h.errs.below hb, h.wd.below hb⟩
/-- The number that JrGet gives. -/
def jrNum : Option (Nat × Gt) → Nat
  | none => 3
  | some (_, .ok _ _) => 0
  | some (_, .no _ e) => e
theorem gty_err {sq : Bool} {l : Tx} {dt err : Nat} (hl : l ≠ []) (h : gty sq l = .no dt err) : 2 ≤ err ∧ err ≤ 6 := by
  cases l with
  | nil => exact absurd rfl hl
  | cons x t =>
    unfold gty at h
    dsimp only at h
    repeat' split at h
    all_goals first
      | (injection h with _ h; omega)
      | (exfalso; cases h)
theorem getT_err {sq : Bool} {l : Tx} {d dt err : Nat} (h : getT sq l = some (d, .no dt err)) : 2 ≤ err ∧ err ≤ 6 := by
  unfold getT at h
  obtain ⟨d', hd, he⟩ := Option.map_eq_some_iff.1 h
  simp only [Prod.mk.injEq] at he
  obtain ⟨rfl, he⟩ := he
  refine gty_err (fun e => ?_) he
  have := nxt_lt hd
  have h2 := congrArg List.length e
  rw [List.length_drop] at h2
  simp only [List.length_nil] at h2
  omega
set_option maxRecDepth 100000 in
set_option maxHeartbeats 4000000 in
theorem jrGetW (a : Nat → Addr) (s : ByteArray) (x : Int) (w : World) (hW : WdP a w) (hs : s.size ≤ 1000000) (hx : x = (jrNum (getT false (tx s)) : Int)) :
    Calls Tryd.prog 24 #[.string s, .slice none 0 0] w fun e w' => e = .returned (.int .i64 x) ∧ Below w.heap.size w w' := by
  have HW := Lib.hid hW
  clear hW
  have hcv : (convert 9 77 (.string s)).run Tryd.prog w = .ok (.slice (some ⟨w.heap.size, 0, none⟩) s.size (grownCap w s.size 0 5)) (Lib.bytesWorld w 5 s) := Lib.run_convert_string_bytes w 9 77 5 s Tryd.underlying9 Tryd.underlying77 Tryd.underlying5
  have HB0 := Lib.hid (bytesWorld_below w 5 s)
  have HR0 := Lib.hid (bytesWorld_rd w 5 s)
  have HC0 := Lib.hid (bytesCap w 5 s)
  have HW0 := Lib.hid (HW.out.below HB0.out)
  obtain ⟨g, hg⟩ : ∃ g, getT false (tx s) = g := ⟨_, rfl⟩
  rw [hg] at hx
  have HG := Lib.hid hg
  rcases g with _ | ⟨d, ⟨dt, k⟩ | ⟨dt, err⟩⟩
  · obtain rfl : x = 3 := hx
    clear hg
    go_enter Tryd.func24, Tryd.ntmps24
    go_wp2_with (first
      | (go_at_call 44; refine (getW _ _ _ s _ _ _ HR0.out HW0.out.wd rfl hs HC0.out).mono ?_; rw [HG.out]; rintro e w1 ⟨rfl, hb1⟩; replace hb1 := Lib.hid hb1)
      | (go_at_call 48; refine (jrErr a 3 3 (by omega) rfl _ (HW0.out.errs.below hb1.out)).mono ?_; rintro e w2 ⟨rfl, rfl⟩))
    go_ret
    exact ⟨rfl, below_of HB0.out hb1.out⟩
  · obtain rfl : x = 0 := hx
    clear hg
    go_enter Tryd.func24, Tryd.ntmps24
    go_wp2_with (first
      | (go_at_call 44; refine (getW _ _ _ s _ _ _ HR0.out HW0.out.wd rfl hs HC0.out).mono ?_; rw [HG.out]; rintro e w1 ⟨⟨A2, n2, c2, rfl, h1, h2, h3, h4⟩, hb1⟩; replace hb1 := Lib.hid hb1; replace h1 := Lib.hid h1; replace h4 := Lib.hid h4)
      | (go_at_call 48; refine (jrNil _).mono ?_; rintro e w2 ⟨rfl, rfl⟩))
    go_ret
    exact ⟨rfl, below_of HB0.out hb1.out⟩
  · have he := getT_err hg
    have HX := Lib.hid (show x = (err : Int) from hx)
    clear hg hx
    go_enter Tryd.func24, Tryd.ntmps24
    go_wp2_with (first
      | (go_at_call 44; refine (getW _ _ _ s _ _ _ HR0.out HW0.out.wd rfl hs HC0.out).mono ?_; rw [HG.out]; rintro e w1 ⟨rfl, hb1⟩; replace hb1 := Lib.hid hb1)
      | (go_at_call 48; refine (jrErr a err x he HX.out _ (HW0.out.errs.below hb1.out)).mono ?_; rintro e w2 ⟨rfl, rfl⟩))
    go_ret
    exact ⟨rfl, below_of HB0.out hb1.out⟩
theorem jrCutW (k : Nat) (x y : Int) (hk : k ≤ 6) (hx : x = (k : Int)) (hy : y = (jrNum (some (0, cutGt k 0)) : Int)) (w : World) : Calls Tryd.prog 23 #[.int .i64 x] w fun e w' => e = .returned (.int .i64 y) ∧ w = w' := by
  rcases (by omega : k = 0 ∨ k = 1 ∨ k = 2 ∨ k = 3 ∨ k = 4 ∨ k = 5 ∨ k = 6) with rfl | rfl | rfl | rfl | rfl | rfl | rfl
  · obtain rfl : x = 0 := hx
    obtain rfl : y = 2 := hy
    go_enter Tryd.func23, Tryd.ntmps23
    go_wp2
    go_ret
    exact ⟨rfl, rfl⟩
  · obtain rfl : x = 1 := hx
    obtain rfl : y = 2 := hy
    go_enter Tryd.func23, Tryd.ntmps23
    go_wp2
    go_ret
    exact ⟨rfl, rfl⟩
  · obtain rfl : x = 2 := hx
    obtain rfl : y = 2 := hy
    go_enter Tryd.func23, Tryd.ntmps23
    go_wp2
    go_ret
    exact ⟨rfl, rfl⟩
  · obtain rfl : x = 3 := hx
    obtain rfl : y = 0 := hy
    go_enter Tryd.func23, Tryd.ntmps23
    go_wp2
    go_ret
    exact ⟨rfl, rfl⟩
  · obtain rfl : x = 4 := hx
    obtain rfl : y = 4 := hy
    go_enter Tryd.func23, Tryd.ntmps23
    go_wp2
    go_ret
    exact ⟨rfl, rfl⟩
  · obtain rfl : x = 5 := hx
    obtain rfl : y = 5 := hy
    go_enter Tryd.func23, Tryd.ntmps23
    go_wp2
    go_ret
    exact ⟨rfl, rfl⟩
  · obtain rfl : x = 6 := hx
    obtain rfl : y = 6 := hy
    go_enter Tryd.func23, Tryd.ntmps23
    go_wp2
    go_ret
    exact ⟨rfl, rfl⟩
theorem B5.below {w w' : World} {g : Nat} {v0 v1 v2 v3 v4 : Value} (h : B5 w g v0 v1 v2 v3 v4) (hb : Below w.heap.size w w') : B5 w' g v0 v1 v2 v3 v4 := (hb.block g h.lt).trans h
/-- What jpPlaces answers. -/
def JpPlPost (s : ByteArray) (w : World) (e : Ending) (w' : World) : Prop :=
  Below w.heap.size w w' ∧
  ((∃ p, s.size ≤ 65536 ∧ places s = some p ∧ ∃ (k b' e' : Int) (An : Option Addr) (nn cn : Nat) (Ak : Option Addr) (nk ck : Nat), e = .returned (.tuple #[.agg #[.int .i64 k, .int .i64 b', .int .i64 e', .slice An nn cn, .slice Ak nk ck], .bool true]) ∧
      PlC w' (From w.heap.size) p [.int .i64 k, .int .i64 b', .int .i64 e', .slice An nn cn, .slice Ak nk ck]) ∨
   (e = .returned (.tuple #[.agg #[.int .i64 0, .int .i64 0, .int .i64 0, .slice none 0 0, .slice none 0 0], .bool false])))
set_option maxRecDepth 100000 in
set_option maxHeartbeats 4000000 in
theorem jpPlacesW (s : ByteArray) (w : World) (hs : s.size ≤ 2147483648) : Calls Tryd.prog 14 #[.string s] w (JpPlPost s w) := by
  obtain ⟨w1, hw1⟩ : ∃ w1, w.alloc (.cells #[.int .i64 0, .int .i64 0, .int .i64 0, .slice none 0 0, .slice none 0 0] 27) = w1 := ⟨_, rfl⟩
  have HB1 := Lib.hid (show Below w.heap.size w w1 by rw [← hw1]; exact below_alloc (Below.refl _ _) _)
  have hp0 : B5 w1 w.heap.size (.int .i64 0) (.int .i64 0) (.int .i64 0) (.slice none 0 0) (.slice none 0 0) := by rw [← hw1]; exact B5.new _ _ _ _ _ _
  have HZ := Lib.hid (show w1.heap.size = w.heap.size + 1 by rw [← hw1]; simp)
  have q0 := hp0.c0
  have q1 := hp0.c1
  have q2 := hp0.c2
  have q3 := hp0.c3
  have q4 := hp0.c4
  have r0 := hp0.f 0
  have r1 := hp0.f 1
  have r2 := hp0.f 2
  have r3 := hp0.f 3
  have r4 := hp0.f 4
  have HP0 := Lib.hid hp0
  clear hp0
  by_cases hbig : 65536 < s.size
  · go_enter Tryd.func14, Tryd.ntmps14
    go_wp2
    refine bodyPost_ret (v := .tuple #[.agg #[.int .i64 0, .int .i64 0, .int .i64 0, .slice none 0 0, .slice none 0 0], .bool false]) (by simp [results, Tryd.results14, go_sem, q0, q1, q2, q3, q4]) rfl ?_
    refine ⟨?_, .inr rfl⟩
    iterate 5 with_reducible refine below_set ?_ (Nat.le_refl _) _
    exact HB1.out
  · cases hp : places s with
    | none =>
      have HP := Lib.hid hp
      clear hp
      go_enter Tryd.func14, Tryd.ntmps14
      go_wp2_with (first
        | (go_at_call 38; refine (placesW s _ hs).mono ?_; rintro e w2 ⟨hb2, ⟨p, hp, _⟩ | ⟨_, rfl⟩⟩; case inl => exact absurd (HP.out.symm.trans hp) (by simp)
           have hp2 := B5.below HP0.out hb2
           have q0 := hp2.c0
           have q1 := hp2.c1
           have q2 := hp2.c2
           have q3 := hp2.c3
           have q4 := hp2.c4
           have r0 := hp2.f 0
           have r1 := hp2.f 1
           have r2 := hp2.f 2
           have r3 := hp2.f 3
           have r4 := hp2.f 4
           clear hp2
           replace hb2 := Lib.hid hb2))
      refine bodyPost_ret (v := .tuple #[.agg #[.int .i64 0, .int .i64 0, .int .i64 0, .slice none 0 0, .slice none 0 0], .bool false]) (by simp [results, Tryd.results14, go_sem, q0, q1, q2, q3, q4]) rfl ?_
      refine ⟨?_, .inr rfl⟩
      iterate 5 with_reducible refine below_set ?_ (Nat.le_refl _) _
      exact below_of HB1.out hb2.out
    | some p =>
      have HP := Lib.hid hp
      clear hp
      go_enter Tryd.func14, Tryd.ntmps14
      go_wp2_with (first
        | (go_at_call 38; refine (placesW s _ hs).mono ?_; rintro e w2 ⟨hb2, ⟨p', hp, k, b', e', An, nn, cn, Ak, nk, ck, rfl, hPl⟩ | ⟨hp, _⟩⟩; case inr => exact absurd (HP.out.symm.trans hp) (by simp)
           obtain rfl : p = p' := Option.some.inj (HP.out.symm.trans hp)
           clear hp
           have hp2 := B5.below HP0.out hb2
           have q0 := hp2.c0
           have q1 := hp2.c1
           have q2 := hp2.c2
           have q3 := hp2.c3
           have q4 := hp2.c4
           have r0 := hp2.f 0
           have r1 := hp2.f 1
           have r2 := hp2.f 2
           have r3 := hp2.f 3
           have r4 := hp2.f 4
           clear hp2
           replace hb2 := Lib.hid hb2
           replace hPl := Lib.hid hPl))
      refine bodyPost_ret (v := .tuple #[.agg #[.int .i64 k, .int .i64 b', .int .i64 e', .slice An nn cn, .slice Ak nk ck], .bool true]) (by simp [results, Tryd.results14, go_sem, q0, q1, q2, q3, q4]) rfl ?_
      refine ⟨?_, .inl ⟨p, by omega, HP.out, k, b', e', An, nn, cn, Ak, nk, ck, rfl, (hPl.out.keep ?_).mono fun j _ hj => by have := HZ.out; simp only [From] at hj ⊢; omega⟩⟩
      · iterate 5 with_reducible refine below_set ?_ (Nat.le_refl _) _
        exact below_of HB1.out hb2.out
      · refine ⟨by simp [World.setCell], fun t ht _ => ?_⟩
        have := HZ.out
        simp only [From] at ht
        iterate 5 rw [Below.heap_setCell _ _ _ t (by simp; omega)]
theorem plc_vals {w : World} {B : Nat → Prop} {p : Pl} {k b e : Int} {s1 s2 : Value} (h : PlC w B p [.int .i64 k, .int .i64 b, .int .i64 e, s1, s2]) : k = (p.kind : Int) ∧ b = (p.b : Int) ∧ e = (p.e : Int) := by
  cases p with
  | mk kd b0 e0 ns ks =>
    simp only [PlC] at h
    obtain ⟨An, cn, Ak, ck, xs, h, -⟩ := h
    simp only [List.cons.injEq, Value.int.injEq, true_and] at h
    exact ⟨h.1, h.2.1, h.2.2.1⟩
theorem places_ok {s : ByteArray} {p : Pl} (h : places s = some p) : p.kind ≤ 6 ∧ p.b < p.e ∧ p.e ≤ s.size := by
  unfold places valAt at h
  split at h
  · cases h
  · rename_i j q hv
    split at h
    · injection h with h
      subst h
      have hk := vok _ _ _ _ (skip_top isBlank s (i := 0) (by omega)) hv
      obtain ⟨k1, k2, -, k4, k5, -, -, -, -, k6⟩ := hk
      exact ⟨k6, by omega, by omega⟩
    · cases h
theorem cut_num (k d m : Nat) : jrNum (some (d, cutGt k m)) = jrNum (some (0, cutGt k 0)) := by
  unfold cutGt
  split
  · rfl
  · split
    · rfl
    · split
      · rfl
      · split <;> rfl
set_option maxRecDepth 100000 in
set_option maxHeartbeats 4000000 in
theorem lawCut (a : Nat → Addr) (s : ByteArray) (c : Int) (w : World) (hs0 : s.size ≤ 140737488351232) (hc : (Lit.int .i64 c).wf = true) (hW : WdP a w) :
    Calls Tryd.prog 7 #[.string s, .int .i64 c] w fun e w' => e = .returned (.bool true) ∧ Below w.heap.size w w' := by
  have HW := Lib.hid hW
  have HC := Lib.hid hc
  clear hW hc
  by_cases hbig : 2147483647 < s.size
  · go_enter Tryd.func7, Tryd.ntmps7
    go_wp2
    all_goals go_ret
    all_goals exact ⟨rfl, Below.refl _ _⟩
  have hs : s.size ≤ 2147483647 := by omega
  have hd1 : decide (2147483647 < (s.size : Int)) = false := by simp; omega
  clear hbig hs0
  go_enter Tryd.func7, Tryd.ntmps7
  go_upto_region 4 with (first
    | (go_at_call 14; refine (jpPlacesW s _ (by omega)).mono ?_; rintro e w1 ⟨hb1, ⟨p, hsz, hp, k, b', e', An, nn, cn, Ak, nk, ck, rfl, hPl⟩ | rfl⟩ <;> replace hb1 := Lib.hid hb1))
  · obtain ⟨rfl, rfl, rfl⟩ := plc_vals hPl
    obtain ⟨hk6, hbe, hes⟩ := places_ok hp
    obtain ⟨wp, hwp⟩ : ∃ wp, w1.alloc (.cells #[.int .i64 (p.kind : Int), .int .i64 (p.b : Int), .int .i64 (p.e : Int), .slice An nn cn, .slice Ak nk ck] 27) = wp := ⟨_, rfl⟩
    rw [hwp]
    have hbp : Below w1.heap.size w1 wp := by rw [← hwp]; exact below_alloc (Below.refl _ _) _
    have hp5 : B5 wp w1.heap.size (.int .i64 (p.kind : Int)) (.int .i64 (p.b : Int)) (.int .i64 (p.e : Int)) (.slice An nn cn) (.slice Ak nk ck) := by rw [← hwp]; exact B5.new _ _ _ _ _ _
    have q0 := hp5.c0
    have q1 := hp5.c1
    have q2 := hp5.c2
    have HBP := Lib.hid (below_of hb1.out hbp)
    have HWP := Lib.hid (HW.out.below HBP.out)
    have HP := Lib.hid hp
    clear hp5 hbp hwp hPl hp
    by_cases hc0 : c < 0
    · go_wp2
      go_ret
      exact ⟨rfl, HBP.out⟩
    by_cases hce : (p.e : Int) ≤ c
    · go_wp2
      go_ret
      exact ⟨rfl, HBP.out⟩
    obtain ⟨m, rfl⟩ : ∃ m : Nat, c = (m : Int) := ⟨c.toNat, by omega⟩
    obtain ⟨g1, g2, -⟩ := getT_cut false HP.out (m := m) (by omega)
    obtain ⟨t, ht⟩ : ∃ t, s.extract 0 m = t := ⟨_, rfl⟩
    have htx : tx t = (tx s).take m := by rw [← ht, tx_cut, List.drop_zero, Nat.sub_zero]
    have hts : t.size ≤ 1000000 := by rw [← ht, size_ext]; omega
    rw [← htx] at g1 g2
    have HT := Lib.hid ht
    have he0 : jrNum (getT false (tx ⟨#[]⟩)) = 3 := rfl
    have HE0 := Lib.hid (show (3 : Int) = (jrNum (getT false (tx ⟨#[]⟩)) : Int) by rw [he0]; rfl)
    obtain ⟨y, hy⟩ : ∃ y : Int, (jrNum (some (0, cutGt p.kind 0)) : Int) = y := ⟨_, rfl⟩
    have HY := Lib.hid hy
    clear hy ht he0 htx
    have hyy : (y == y) = true := beq_self_eq_true y
    by_cases hmb : m ≤ p.b
    · have HG := Lib.hid (show (3 : Int) = (jrNum (getT false (tx t)) : Int) by rw [g1 hmb]; rfl)
      clear g1 g2
      go_wp2_with (first
        | (go_at_call 23; (with_reducible refine (jrCutW p.kind _ y hk6 rfl HY.out.symm _).mono ?_); rintro e w3 ⟨rfl, rfl⟩)
        | (go_at_call 24; rw [HT.out]; (with_reducible refine (jrGetW a t 3 _ HWP.out hts HG.out).mono ?_); rintro e w4 ⟨rfl, hb4⟩; replace hb4 := Lib.hid hb4)
        | (go_at_call 24; (with_reducible refine (jrGetW a ⟨#[]⟩ 3 _ (HWP.out.below hb4.out) (by decide) HE0.out).mono ?_); rintro e w5 ⟨rfl, hb5⟩; replace hb5 := Lib.hid hb5))
      go_ret
      exact ⟨rfl, below_of (below_of HBP.out hb4.out) hb5.out⟩
    · have HG := Lib.hid (show y = (jrNum (getT false (tx t)) : Int) by rw [g2 (by omega), cut_num, HY.out])
      clear g1 g2
      go_wp2_with (first
        | (go_at_call 23; (with_reducible refine (jrCutW p.kind _ y hk6 rfl HY.out.symm _).mono ?_); rintro e w3 ⟨rfl, rfl⟩)
        | (go_at_call 24; rw [HT.out]; (with_reducible refine (jrGetW a t y _ HWP.out hts HG.out).mono ?_); rintro e w4 ⟨rfl, hb4⟩; replace hb4 := Lib.hid hb4)
        | (go_at_call 24; (with_reducible refine (jrGetW a ⟨#[]⟩ 3 _ (HWP.out.below hb4.out) (by decide) HE0.out).mono ?_); rintro e w5 ⟨rfl, hb5⟩; replace hb5 := Lib.hid hb5))
      go_ret
      exact ⟨rfl, below_of (below_of HBP.out hb4.out) hb5.out⟩
  · go_wp2
    go_ret
    exact ⟨rfl, below_alloc hb1.out _⟩
/-- The variables, the errors told apart, as a row lists them. -/
theorem wdp_of {L : List (String × DataW Unit)} {W : World} (h : laidMet Tryd.prog L W)
    (m0 : ("pub-tetrapla/pub/jsonparser.DefaultConfig", .agg [.lit (.bool false), .lit (.bool false), .lit (.int .i64 0)]) ∈ L)
    (m1 : ("pub-tetrapla/pub/jsonparser.KeyPathNotFoundError", .iface "*errors.errorString" (.ptr (.agg [.lit (.string (etx 1))]))) ∈ L)
    (m2 : ("pub-tetrapla/pub/jsonparser.UnknownValueTypeError", .iface "*errors.errorString" (.ptr (.agg [.lit (.string (etx 2))]))) ∈ L)
    (m3 : ("pub-tetrapla/pub/jsonparser.MalformedJsonError", .iface "*errors.errorString" (.ptr (.agg [.lit (.string (etx 3))]))) ∈ L)
    (m4 : ("pub-tetrapla/pub/jsonparser.MalformedStringError", .iface "*errors.errorString" (.ptr (.agg [.lit (.string (etx 4))]))) ∈ L)
    (m5 : ("pub-tetrapla/pub/jsonparser.MalformedArrayError", .iface "*errors.errorString" (.ptr (.agg [.lit (.string (etx 5))]))) ∈ L)
    (m6 : ("pub-tetrapla/pub/jsonparser.MalformedObjectError", .iface "*errors.errorString" (.ptr (.agg [.lit (.string (etx 6))]))) ∈ L) : ∃ a, WdP a W := by
  obtain ⟨c1, c2, c3, c4⟩ := cfg_of (Lib.laidMet.reads h m0)
  obtain ⟨a1, g1⟩ := errp_of h 1 rfl m1 (g := 1) (by kernel_rfl) (by kernel_rfl)
  obtain ⟨a2, g2⟩ := errp_of h 2 rfl m2 (g := 2) (by kernel_rfl) (by kernel_rfl)
  obtain ⟨a3, g3⟩ := errp_of h 3 rfl m3 (g := 3) (by kernel_rfl) (by kernel_rfl)
  obtain ⟨a4, g4⟩ := errp_of h 4 rfl m4 (g := 4) (by kernel_rfl) (by kernel_rfl)
  obtain ⟨a5, g5⟩ := errp_of h 5 rfl m5 (g := 5) (by kernel_rfl) (by kernel_rfl)
  obtain ⟨a6, g6⟩ := errp_of h 6 rfl m6 (g := 6) (by kernel_rfl) (by kernel_rfl)
  have he : ErrsP (fun k => [a1, a1, a2, a3, a4, a5, a6].getD k a1) W := ⟨g1, g2, g3, g4, g5, g6⟩
  exact ⟨_, he, he.errs, c1, c2, c3, c4⟩
end Go.Proofs.YtcjgneomcnholaaDoor.Jp
