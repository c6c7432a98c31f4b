/- FnPrType: the plain law and the walks. -/
import Derived.Test.YtloegbicgopmpaaPlaces
import Derived.Deep.RegionHeld3
namespace Go.Proofs.Ytloegbicgopmpaa.L
open Go.RowKit
set_option linter.unusedVariables false
set_option linter.unusedSimpArgs false

/-! ### the plain law -/
def gt (c : Int) : Int := if c = 34 then 3 else if c = 102 then 1 else if c = 116 then 4 else if c = 110 then 0 else if c = 91 then 5 else if c = 123 then 5 else 2
def gk (k : Int) : Int := if k = 1 then 1 else if k = 3 then 2 else if k = 4 then 3 else if k = 2 then 4 else if k = 5 then 5 else if k = 6 then 5 else 0
theorem word_head {s t : ByteArray} {i : Nat} (h : wordAt s i t = true) (ht : 0 < t.size) : bt s i = bt t 0 := by
  unfold wordAt at h
  simp only [Bool.and_eq_true, decide_eq_true_eq] at h
  have := bt_ext s i (i + t.size) 0 (by omega) (by rw [h.2]; omega)
  rw [h.2] at this
  simpa using this.symm
theorem val_kind {s : ByteArray} {n i j : Nat} {p : Pl} (h : valN s (n + 1) i = some (j, p)) : p.b = i ∧ gk p.kind = gt (bt s i) := by
  unfold valN at h
  split at h
  · rename_i hc
    simp only [Option.map_eq_some_iff, Prod.mk.injEq] at h
    obtain ⟨_, _, _, rfl⟩ := h
    exact ⟨rfl, by rw [hc]; rfl⟩
  · split at h
    · rename_i hc
      simp only [Option.map_eq_some_iff, Prod.mk.injEq] at h
      obtain ⟨_, _, _, rfl⟩ := h
      exact ⟨rfl, by rw [hc]; rfl⟩
    · split at h
      · rename_i hc
        simp only [Option.map_eq_some_iff, Prod.mk.injEq] at h
        obtain ⟨_, _, _, rfl⟩ := h
        exact ⟨rfl, by rw [hc]; rfl⟩
      · split at h
        · rename_i hc
          simp only [Option.map_eq_some_iff, Prod.mk.injEq] at h
          obtain ⟨_, _, _, rfl⟩ := h
          refine ⟨rfl, ?_⟩
          show (2 : Int) = _
          unfold gt
          iterate 6 rw [if_neg (by omega)]
        · split at h
          · rename_i hc
            simp only [Option.some.injEq, Prod.mk.injEq] at h
            obtain ⟨_, rfl⟩ := h
            exact ⟨rfl, by rw [word_head hc (by decide)]; rfl⟩
          · split at h
            · rename_i hc
              simp only [Option.some.injEq, Prod.mk.injEq] at h
              obtain ⟨_, rfl⟩ := h
              exact ⟨rfl, by rw [word_head hc (by decide)]; rfl⟩
            · split at h
              · rename_i hc
                simp only [Option.some.injEq, Prod.mk.injEq] at h
                obtain ⟨_, rfl⟩ := h
                exact ⟨rfl, by rw [word_head hc (by decide)]; rfl⟩
              · cases h
theorem places_kind {s : ByteArray} {p : Pl} (h : places s = some p) (hb : p.b = 0) : 0 < s.size ∧ gk p.kind = gt (bt s 0) := by
  unfold places at h
  split at h
  · cases h
  · rename_i j q hq
    split at h
    · injection h with h
      subst h
      have h1 := val_kind hq
      rw [h1.1] at hb
      rw [hb] at h1 hq
      have h2 := valN_fwd s _ _ _ _ (Nat.zero_le _) hq
      exact ⟨by omega, h1.2⟩
    · cases h

/-! ### the walks -/
theorem plC_head {w : World} {B : Nat → Prop} {p : Pl} {k b' : Int} {e An Ak : Value} (h : PlC w B p [.int .i64 k, .int .i64 b', e, An, Ak]) : k = p.kind ∧ b' = p.b := by
  cases p
  simp only [PlC] at h
  obtain ⟨_, _, _, _, _, h, _⟩ := h
  simp only [List.cons.injEq, Value.int.injEq, true_and] at h
  exact ⟨h.1, h.2.1⟩
theorem gjKind (k : Int) (w : World) : Calls Try.prog 15 #[.int .i64 k] w fun e w' => e = .returned (.int .i64 (gk k)) ∧ w' = w := by
  by_cases a1 : k = 1
  · subst a1
    go_enter Try.func15, Try.ntmps15
    go_wp2
    go_ret
    exact ⟨rfl, rfl⟩
  · by_cases a2 : k = 3
    · subst a2
      go_enter Try.func15, Try.ntmps15
      go_wp2
      go_ret
      exact ⟨rfl, rfl⟩
    · by_cases a3 : k = 4
      · subst a3
        go_enter Try.func15, Try.ntmps15
        go_wp2
        go_ret
        exact ⟨rfl, rfl⟩
      · by_cases a4 : k = 2
        · subst a4
          go_enter Try.func15, Try.ntmps15
          go_wp2
          go_ret
          exact ⟨rfl, rfl⟩
        · by_cases a5 : k = 5
          · subst a5
            go_enter Try.func15, Try.ntmps15
            go_wp2
            go_ret
            exact ⟨rfl, rfl⟩
          · by_cases a6 : k = 6
            · subst a6
              go_enter Try.func15, Try.ntmps15
              go_wp2
              go_ret
              exact ⟨rfl, rfl⟩
            · have e0 : gk k = 0 := by
                unfold gk
                rw [if_neg a1, if_neg a2, if_neg a3, if_neg a4, if_neg a5, if_neg a6]
              rw [e0]
              clear e0
              go_enter Try.func15, Try.ntmps15
              go_wp2
              go_ret
              exact ⟨rfl, rfl⟩
theorem getjtype (ad : Addr) (n c : Nat) (x : Int) (w : World) (hn : 0 < n) (hc : w.cell? ad = some (.int .u8 x)) : Calls Try.prog 47 #[.slice (some ad) n c] w fun e w' => e = .returned (.int .i64 (gt x)) ∧ w' = w := by
  have hne : ((n : Int) == 0) = false := by simp; omega
  have hlt : (0 : Nat) < n := hn
  by_cases a1 : x = 34
  · subst a1
    go_enter Try.func47, Try.ntmps47
    go_wp2
    go_ret
    exact ⟨rfl, rfl⟩
  · by_cases a2 : x = 102
    · subst a2
      go_enter Try.func47, Try.ntmps47
      go_wp2
      go_ret
      exact ⟨rfl, rfl⟩
    · by_cases a3 : x = 116
      · subst a3
        go_enter Try.func47, Try.ntmps47
        go_wp2
        go_ret
        exact ⟨rfl, rfl⟩
      · by_cases a4 : x = 110
        · subst a4
          go_enter Try.func47, Try.ntmps47
          go_wp2
          go_ret
          exact ⟨rfl, rfl⟩
        · by_cases a5 : x = 91
          · subst a5
            go_enter Try.func47, Try.ntmps47
            go_wp2
            go_ret
            exact ⟨rfl, rfl⟩
          · by_cases a6 : x = 123
            · subst a6
              go_enter Try.func47, Try.ntmps47
              go_wp2
              go_ret
              exact ⟨rfl, rfl⟩
            · have e0 : gt x = 2 := by
                unfold gt
                rw [if_neg a1, if_neg a2, if_neg a3, if_neg a4, if_neg a5, if_neg a6]
              rw [e0]
              clear e0
              go_enter Try.func47, Try.ntmps47
              go_wp2
              go_ret
              exact ⟨rfl, rfl⟩
theorem doorType (s : ByteArray) (w : World) (hn : 0 < s.size) : Calls Try.prog 34 #[.string s] w fun e w' => e = .returned (.int .i64 (gt (bt s 0))) ∧ Below w.heap.size w w' := by
  have hcv : (convert 9 29 (.string s)).run Try.prog w = .ok (.slice (some ⟨w.heap.size, 0, none⟩) s.size (grownCap w s.size 0 5)) (Lib.bytesWorld w 5 s) := Lib.run_convert_string_bytes w 9 29 5 s Try.underlying9 Try.underlying29 Try.underlying5
  have hb := bytesWorld_below w 5 s
  obtain ⟨ad, had, hc⟩ := (bytesWorld_rd w 5 s).at_ hn
  injection had with had
  subst had
  have hc' : (Lib.bytesWorld w 5 s).cell? ⟨w.heap.size, 0, none⟩ = some (.int .u8 (bt s 0)) := hc
  generalize Lib.bytesWorld w 5 s = w1 at *
  clear hc
  go_enter Try.func34, Try.ntmps34
  go_wp2_with fail
  refine (getjtype _ s.size _ _ w1 hn hc').mono ?_
  rintro e w2 ⟨rfl, rfl⟩
  go_wp2
  go_ret
  exact ⟨rfl, hb⟩
theorem prType (s : ByteArray) (w : World) (hn : 0 < s.size) : Calls Try.prog 14 #[.string s] w fun e w' => e = .returned (.int .i64 (gt (bt s 0))) ∧ Below w.heap.size w w' := by
  go_enter Try.func14, Try.ntmps14
  go_wp2_with fail
  refine (doorType s w hn).mono ?_
  rintro e w2 ⟨rfl, hb⟩
  go_wp2
  go_ret
  exact ⟨rfl, hb⟩

/-- What prPlaces answers. -/
def PrPost (w : World) (s : ByteArray) (e : Ending) (w' : World) : Prop :=
  Below w.heap.size w w' ∧ ∃ (k b' e' : Int) (An : Option Addr) (nn cn : Nat) (Ak : Option Addr) (nk ck : Nat) (ok : Bool),
    e = .returned (.tuple #[.agg #[.int .i64 k, .int .i64 b', .int .i64 e', .slice An nn cn, .slice Ak nk ck], .bool ok]) ∧ (ok = true → b' = 0 → 0 < s.size ∧ gk k = gt (bt s 0)) ∧ 0 ≤ b'
theorem prPlaces (s : ByteArray) (w : World) (hs : s.size ≤ 2147483648) : Calls Try.prog 13 #[.string s] w (PrPost w s) := by
  by_cases hbig : 4096 < s.size
  · have hN := B5.new w (.int .i64 0) (.int .i64 0) (.int .i64 0) (.slice none 0 0) (.slice none 0 0)
    have e0 := hN.f 0
    have e1 := hN.f 1
    have e2 := hN.f 2
    have e3 := hN.f 3
    have e4 := hN.f 4
    have q0 := hN.c0
    have q1 := hN.c1
    have q2 := hN.c2
    have q3 := hN.c3
    have q4 := hN.c4
    clear hN
    go_enter Try.func13, Try.ntmps13
    go_wp2
    refine bodyPost_ret (v := .tuple #[.agg #[.int .i64 0, .int .i64 0, .int .i64 0, .slice none 0 0, .slice none 0 0], .bool false]) (by simp [results, Try.results13, go_sem, q0, q1, q2, q3, q4]) rfl ?_
    refine ⟨?_, 0, 0, 0, none, 0, 0, none, 0, 0, false, rfl, fun h => (by cases h), by omega⟩
    exact below_alloc (Below.refl _ _) _
  · have HN := Lib.hid (B5.new w (.int .i64 0) (.int .i64 0) (.int .i64 0) (.slice none 0 0) (.slice none 0 0))
    go_enter Try.func13, Try.ntmps13
    go_wp2_with fail
    refine (placesW s _ hs).mono ?_
    rintro e w1 ⟨hb, h⟩
    have hX : ∃ (k b' e' : Int) (An : Option Addr) (nn cn : Nat) (Ak : Option Addr) (nk ck : Nat) (ok : Bool), e = .returned (.tuple #[.agg #[.int .i64 k, .int .i64 b', .int .i64 e', .slice An nn cn, .slice Ak nk ck], .bool ok]) ∧ (ok = true → b' = 0 → 0 < s.size ∧ gk k = gt (bt s 0)) ∧ 0 ≤ b' := by
      rcases h with ⟨p, hp, k, b', e', An, nn, cn, Ak, nk, ck, rfl, hpl⟩ | ⟨hp, rfl⟩
      · have hh := plC_head hpl
        refine ⟨k, b', e', An, nn, cn, Ak, nk, ck, true, rfl, fun _ h0 => ?_, by omega⟩
        have := places_kind hp (by omega)
        rw [hh.1]
        exact this
      · exact ⟨_, _, _, _, _, _, _, _, _, false, rfl, fun h => (by cases h), by omega⟩
    clear h
    obtain ⟨k, b', e', An, nn, cn, Ak, nk, ck, ok, rfl, hok, h0⟩ := hX
    have HOK := Lib.hid hok
    have HB := Lib.hid (below_step (below_alloc (Below.refl _ w) _) hb)
    have hN : B5 w1 w.heap.size (.int .i64 0) (.int .i64 0) (.int .i64 0) (.slice none 0 0) (.slice none 0 0) := (hb.block _ HN.out.lt).trans HN.out
    clear hok hb
    have e0 := hN.f 0
    have e1 := hN.f 1
    have e2 := hN.f 2
    have e3 := hN.f 3
    have e4 := hN.f 4
    have q0 := hN.c0
    have q1 := hN.c1
    have q2 := hN.c2
    have q3 := hN.c3
    have q4 := hN.c4
    clear hN
    go_wp2
    refine bodyPost_ret (v := .tuple #[.agg #[.int .i64 k, .int .i64 b', .int .i64 e', .slice An nn cn, .slice Ak nk ck], .bool ok]) (by simp [results, Try.results13, go_sem, q0, q1, q2, q3, q4]) rfl ?_
    refine ⟨?_, k, b', e', An, nn, cn, Ak, nk, ck, ok, rfl, HOK.out, h0⟩
    iterate 5 with_reducible refine below_set ?_ (by simp) _
    exact HB.out

theorem keepT {g : Nat} {v0 v1 : Value} {w w1 w2 : World} (h : w1.cell? ⟨g, 0, none⟩ = some v0 ∧ w1.cell? ⟨g, 1, none⟩ = some v1 ∧ g < w1.heap.size ∧ Below w.heap.size w w1) (hb : Below w1.heap.size w1 w2) :
    w2.cell? ⟨g, 0, none⟩ = some v0 ∧ w2.cell? ⟨g, 1, none⟩ = some v1 ∧ g < w2.heap.size ∧ Below w.heap.size w w2 := by
  obtain ⟨h0, h1, hg, hB⟩ := h
  have hc := (bcell hb).1
  refine ⟨?_, ?_, Nat.lt_of_lt_of_le hg hb.size, below_step hB hb⟩ <;> rw [hc _ _ hg] <;> assumption

theorem lawT (s : ByteArray) (w : World) (hs : s.size ≤ 140737488351232) : Calls Try.prog 5 #[.string s] w fun e w' => e = .returned (.bool true) ∧ Below w.heap.size w w' := by
  by_cases hbig : 2147483647 < s.size
  · go_enter Try.func5, Try.ntmps5
    go_wp2
    go_ret
    exact ⟨rfl, Below.refl _ _⟩
  · go_enter Try.func5, Try.ntmps5
    go_wp2_with fail
    refine (prPlaces s _ (by omega)).mono ?_
    rintro e w1 ⟨hb, k, b', e', An, nn, cn, Ak, nk, ck, ok, rfl, hok, h0⟩
    have HOK := Lib.hid hok
    have HB := Lib.hid hb
    have hN := B5.new w1 (.int .i64 k) (.int .i64 b') (.int .i64 e') (.slice An nn cn) (.slice Ak nk ck)
    have hB2 := Lib.hid (below_alloc hb (.cells #[.int .i64 k, .int .i64 b', .int .i64 e', .slice An nn cn, .slice Ak nk ck] 34))
    have e0 := hN.c0
    have e1 := hN.c1
    clear hok hb hN
    cases ok with
    | false =>
      go_wp2
      go_quiet (fail)
      go_wp2
      go_ret
      exact ⟨rfl, below_drewN hB2.out _⟩
    | true =>
      by_cases hp : 0 < b'
      · have hd : decide (0 < b') = true := by simp [hp]
        go_wp2
        go_quiet (fail)
        go_wp2
        go_ret
        exact ⟨rfl, below_drewN hB2.out _⟩
      · obtain rfl : b' = 0 := by omega
        obtain ⟨hn, hk⟩ := HOK.out rfl rfl
        have HK := Lib.hid hk
        clear hk
        go_wp2
        have hlt : w1.heap.size < (w1.alloc (Obj.cells #[Value.int IntKind.i64 k, Value.int IntKind.i64 0, Value.int IntKind.i64 e', Value.slice An nn cn, Value.slice Ak nk ck] 34)).heap.size := by simp
        have hB2' := hB2.out
        generalize w1.alloc (Obj.cells #[Value.int IntKind.i64 k, Value.int IntKind.i64 0, Value.int IntKind.i64 e', Value.slice An nn cn, Value.slice Ak nk ck] 34) = W2 at *
        have hW : W2.drew.cell? ⟨w1.heap.size, 0, none⟩ = some (.int .i64 k) ∧ W2.drew.cell? ⟨w1.heap.size, 1, none⟩ = some (.int .i64 0) ∧ w1.heap.size < W2.drew.heap.size ∧ Below w.heap.size w W2.drew := ⟨e0, e1, hlt, ⟨hB2'.os, hB2'.tape, hB2'.output, hB2'.size, hB2'.block⟩⟩
        go_region_held3 (fun w2 => w2.cell? ⟨w1.heap.size, 0, none⟩ = some (.int .i64 k) ∧ w2.cell? ⟨w1.heap.size, 1, none⟩ = some (.int .i64 0) ∧ w1.heap.size < w2.heap.size ∧ Below w.heap.size w w2)
          (first | exact hW | assumption | exact keepT ‹_› ‹_›)
          (first | (go_at_call 14; refine (prType s _ hn).mono ?_; rintro en w3 ⟨rfl, hb3⟩) | (go_at_call 15; refine (gjKind k _).mono ?_; rintro en w3 ⟨rfl, rfl⟩))
        all_goals
          go_wp2
          go_ret
          exact ⟨by simp [HK.out], by simp_all⟩
end Go.Proofs.Ytloegbicgopmpaa.L
