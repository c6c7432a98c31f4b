/- FnJqEscape: the walk of jsonparser.Escape. -/
import Derived.Test.YtloegbicgopmpaaQuote
import Derived.Deep.RegionHeld3
namespace Go.Proofs.Ytloegbicgopmpaa.L
open Go.RowKit
set_option linter.unusedVariables false
set_option linter.unusedSimpArgs false

/-- What the loop of Escape keeps: the bytes up to i are written, but for a plain run from st on. -/
structure Run (s : ByteArray) (i st : Nat) (o : ByteArray) : Prop where
  le : st ≤ i
  top : i ≤ s.size
  eq : escP s i = o ++ s.extract st i
theorem Run.osize {s : ByteArray} {i st : Nat} {o : ByteArray} (h : Run s i st o) : o.size ≤ 1 + 6 * i := by
  have h1 := escP_size s i
  rw [h.eq, ByteArray.size_append] at h1
  omega
theorem ext_succ (s : ByteArray) (p k : Nat) (hp : p ≤ k) (hk : k < s.size) : s.extract p (k + 1) = s.extract p k ++ strOfNums [bt s k] := by
  have hr := bt_range s k
  refine eq_of_bt (by rw [ByteArray.size_append, size_ext, size_ext, strOfNums_size]; simp; omega) fun j hj => ?_
  rw [size_ext] at hj
  rw [bt_ext _ _ _ _ (by omega) (by rw [size_ext]; omega)]
  by_cases h : p + j < k
  · rw [bt_app_left _ _ _ (by omega) (by rw [size_ext]; omega), bt_ext _ _ _ _ (by omega) (by rw [size_ext]; omega)]
  · rw [bt_app_right _ _ _ (by rw [size_ext]; omega)]
    have e : (j : Int) - ((s.extract p k).size : Int) = ((0 : Nat) : Int) := by rw [size_ext]; omega
    rw [e, bt_nums [bt s k] 0 (by simp) (by simpa using hr)]
    have e2 : ((p : Int) + (j : Int)) = (k : Int) := by omega
    rw [e2]
    rfl
theorem app_assoc (a b c : ByteArray) : a ++ b ++ c = a ++ (b ++ c) := ByteArray.append_assoc
theorem app_empty (a b : ByteArray) (h : b.size = 0) : a ++ b = a := by
  refine eq_of_bt (by rw [ByteArray.size_append]; omega) fun k hk => ?_
  rw [ByteArray.size_append] at hk
  rw [bt_app_left _ _ _ (by omega) (by omega)]
theorem Run.plain {s : ByteArray} {i st : Nat} {o : ByteArray} (h : Run s i st o) (hi : i < s.size) (he : eb (bt s i) = [bt s i]) : Run s (i + 1) st o :=
  ⟨by have := h.le; omega, by omega, by
    show escP s i ++ strOfNums (eb (bt s i)) = _
    rw [he, h.eq, ext_succ s st i h.le hi, app_assoc]⟩
theorem Run.special {s : ByteArray} {i st : Nat} {o r : ByteArray} (h : Run s i st o) (hi : i < s.size) (he : r = (o ++ s.extract st i) ++ strOfNums (eb (bt s i))) : Run s (i + 1) (i + 1) r :=
  ⟨Nat.le_refl _, by omega, by
    show escP s i ++ strOfNums (eb (bt s i)) = _
    rw [he, h.eq, app_empty _ (s.extract (i + 1) (i + 1)) (by rw [size_ext]; omega)]⟩

theorem start_own (s : ByteArray) (w : World) (cur : Array Value) (h0 : cur.toList.take 1 = [.int .u8 34]) (hz : cur.size = 64) (o : Obj) : Own ((w.alloc (.cells cur 74)).alloc o) w.heap.size (.slice (some ⟨w.heap.size, 0, none⟩) 1 64) (escP s 0) := by
  refine .inr ⟨w.heap.size, 64, cur, 74, rfl, Nat.le_refl _, ?_, ?_, by omega, by decide, ?_⟩
  · exact (Below.heap_alloc _ o _ (by simp)).trans (heap_alloc_new w _)
  · simp [escP, strOfNums_size]
  · have : (escP s 0).size = 1 := rfl
    rw [this, h0]
    rfl

theorem below_drew {B : Nat} {w W : World} (h : Below B w W) : Below B w W.drew := ⟨h.os, h.tape, h.output, h.size, h.block⟩
theorem and15 (c : Int) (h0 : 0 ≤ c) (h1 : c < 32) : bits .and .u8 c 15 = c % 16 := by
  have h : ∀ n : Fin 32, bits .and .u8 ((n.val : Nat) : Int) 15 = ((n.val : Nat) : Int) % 16 := by decide
  have := h ⟨c.toNat, by omega⟩
  simpa [Int.toNat_of_nonneg h0] using this
def hexS : ByteArray := ⟨#[48, 49, 50, 51, 52, 53, 54, 55, 56, 57, 97, 98, 99, 100, 101, 102]⟩
theorem hexS_bt (d : Int) (h0 : 0 ≤ d) (h1 : d < 16) : bt hexS d = hexd d := by
  have h : ∀ n : Fin 16, bt hexS ((n.val : Nat) : Int) = hexd ((n.val : Nat) : Int) := by decide +kernel
  have := h ⟨d.toNat, by omega⟩
  simpa [Int.toNat_of_nonneg h0] using this
theorem bt_at' (s : ByteArray) (i : Int) : ∀ h : i.toNat < s.size, ((s[i.toNat]'h).toNat : Int) = bt s i := fun h => by simp [bt, h]

set_option maxRecDepth 100000 in
set_option maxHeartbeats 4000000 in
theorem escape (s : ByteArray) (w : World) (hs : s.size ≤ 16384) : Calls Try.prog 35 #[.string s] w fun e w' => ∃ v, e = .returned v ∧ Own w' w.heap.size v (esc s) ∧ Below w.heap.size w w' := by
  go_enter Try.func35, Try.ntmps35
  go_wp2_with fail
  go_loopg [4, 5, 6] s.size (fun d v4 v5 v6 wr => ∃ (i st : Nat) (o : ByteArray), v6 = .int .i64 i ∧ v5 = .int .i64 st ∧ i + d = s.size ∧ Run s i st o ∧ Own wr w.heap.size v4 o ∧ Below w.heap.size w wr)
  case atStart => exact ⟨0, 0, escP s 0, rfl, rfl, by omega, ⟨Nat.le_refl _, by omega, (app_empty _ _ (by rw [size_ext]; omega)).symm⟩, start_own s w _ rfl rfl _, below_alloc (below_alloc (Below.refl _ _) _) _⟩
  case round =>
    obtain ⟨i, st, o, rfl, rfl, hd, hR, hO, hB⟩ := hrel
    have hz := hR.osize
    have hle := hR.le
    by_cases hlt : i < s.size
    · have hx : ∀ h : i < s.size, ((s[i]'h).toNat : Int) = bt s i := bt_at s i
      have hr := bt_range s i
      have HP := Lib.hid (fun he => hR.plain hlt he)
      have HS := Lib.hid (fun (r : ByteArray) he => hR.special (r := r) hlt he)
      have HD := Lib.hid hd
      clear hR hd
      generalize hc : bt s i = c at *
      clear hc
      have g1 : (0 : Int) ≤ (st : Int) := by omega
      have g2 : (st : Int) ≤ (i : Int) := by omega
      have g3 : (i : Int) ≤ (s.size : Int) := by omega
      have hsl : ∀ W : World, (Instr.slice 9 (.string s) (some (.int .i64 (st : Int))) (some (.int .i64 (i : Int))) none).run Try.prog W = .ok (.string (s.extract st i)) W := fun W => by
        rw [run_slice_string W 9 s .i64 .i64 st i Try.underlying9 g1 g2 g3]
        simp
      by_cases hn : NoShort c
      · by_cases h32 : c < 32
        · have tok1 : True := trivial
          obtain ⟨n1, n2, n3, n4, n5, n6, n7⟩ := hn
          have m1 : (c == 8) = false := by simpa using n1
          have m2 : (c == 12) = false := by simpa using n2
          have m3 : (c == 10) = false := by simpa using n3
          have m4 : (c == 13) = false := by simpa using n4
          have m5 : (c == 9) = false := by simpa using n5
          have m6 : (c == 34) = false := by simpa using n6
          have m7 : (c == 92) = false := by simpa using n7
          go_wp2_with (first
            | (at_builtin; clear tok1; go_must (refine app_str _ rfl (.tmp 31) (.tmp 35) rfl w.heap.size _ o (s.extract st i) rfl rfl hO (by rw [size_ext]; omega) hB.size ?_); intro v1 w1 hO1 hg1 hat1
               have hB1 : Below w.heap.size w w1 := hB.grown hg1 hB.size (fun j hj => (hO.block j hj).1)
               obtain ⟨r1, HR1, hO1⟩ : ∃ r1, Hid (r1 = o ++ s.extract st i) ∧ Own w1 w.heap.size v1 r1 := ⟨_, Lib.hid rfl, hO1⟩
               have hz1 : r1.size ≤ 1 + 6 * i + i := by rw [HR1.out, ByteArray.size_append, size_ext]; omega))
          have hand := and15 c hr.1 h32
          have i0 : 0 ≤ c / 16 := by omega
          have i1 : c / 16 < 16 := by omega
          have i2 : 0 ≤ c % 16 := by omega
          have i3 : c % 16 < 16 := by omega
          have x1 : ∀ h, ((hexS[(c / 16).toNat]'h).toNat : Int) = hexd (c / 16) := fun h => (bt_at' hexS (c / 16) h).trans (hexS_bt _ i0 i1)
          have x2 : ∀ h, ((hexS[(c % 16).toNat]'h).toNat : Int) = hexd (c % 16) := fun h => (bt_at' hexS (c % 16) h).trans (hexS_bt _ i2 i3)
          unfold hexS at x1 x2
          have hx1 := hexd_range i0 i1
          have hx2 := hexd_range i2 i3
          have hxs : ∀ x ∈ [92, 117, 48, 48, hexd (c / 16), hexd (c % 16)], 0 ≤ x ∧ x ≤ 255 := by simp; omega
          have HXS := Lib.hid hxs
          clear hxs
          go_region_held3 (fun _ => True) (trivial)
            (first | (refine step_app_rd _ rfl (.tmp 38) (.tmp 45) rfl w.heap.size v1 r1 (strOfNums [92, 117, 48, 48, hexd (c / 16), hexd (c % 16)]) (some ⟨w1.heap.size, 0, none⟩) 6 6 rfl rfl (by rw [strOfNums_size]; rfl) ((hO1.alloc _).drew) ((rd_lit w1 5 _ HXS.out).drew) (by rw [strOfNums_size]; simp; omega) (Nat.le_trans hB1.size (by simp)) ?_; intro v' w' hO' hg' hat'))
          all_goals
            go_wp2
            go_roundg (gk - 1)
            case measure => have := HD.out; omega
            case rel =>
              have hd := HD.out
              refine ⟨i + 1, i + 1, r1 ++ _, by go_num, by go_num, by omega, HS.out _ ?_, hO', (below_drew (below_alloc hB1 _)).grown hg' (Nat.le_trans hB1.size (by simp)) (fun j hj => (hO1.block j hj).1)⟩
              rw [HR1.out, eb_low ⟨n1, n2, n3, n4, n5, n6, n7⟩ (by omega)]
              have e48 : hexd (c / 16) = 48 + c / 16 := by unfold hexd; rw [if_pos (by omega)]
              rw [e48]
        · obtain ⟨n1, n2, n3, n4, n5, n6, n7⟩ := hn
          have m6 : (c != 34) = true := by simpa using n6
          have m7 : (c != 92) = true := by simpa using n7
          go_wp2
          go_roundg (gk - 1)
          case measure => have := HD.out; omega
          case rel =>
            have hd := HD.out
            exact ⟨i + 1, st, o, by go_num, rfl, by omega, HP.out (eb_plain ⟨n1, n2, n3, n4, n5, n6, n7⟩ (by omega)), hO, hB⟩
      · rcases short_or c with ⟨l, hl⟩ | hn2
        · have hl0 := hl
          have tok1 : True := trivial
          cases hl
          · go_wp2_with (first
            | (at_builtin; clear tok1; go_must (refine app_str _ rfl (.tmp 31) (.tmp 35) rfl w.heap.size _ o (s.extract st i) rfl rfl hO (by rw [size_ext]; omega) hB.size ?_); intro v1 w1 hO1 hg1 hat1
               have hB1 : Below w.heap.size w w1 := hB.grown hg1 hB.size (fun j hj => (hO.block j hj).1)
               obtain ⟨r1, HR1, hO1⟩ : ∃ r1, Hid (r1 = o ++ s.extract st i) ∧ Own w1 w.heap.size v1 r1 := ⟨_, Lib.hid rfl, hO1⟩
               have hz1 : r1.size ≤ 1 + 6 * i + i := by rw [HR1.out, ByteArray.size_append, size_ext]; omega)
            | (at_builtin; go_must (refine app_rd _ rfl (.tmp 56) (.tmp 57) rfl w.heap.size _ r1 (strOfNums [92, 98]) _ 2 2 rfl rfl (by rw [strOfNums_size]; rfl) (hO1.alloc _) (rd_lit _ 5 [92, 98] (by decide)) (by rw [strOfNums_size]; simp; omega) (Nat.le_trans hB1.size (by simp)) ?_); intro v' w' hO' hg' hat'))
            go_roundg (gk - 1)
            case measure => have := HD.out; omega
            case rel =>
              have hd := HD.out
              refine ⟨i + 1, i + 1, r1 ++ _, by go_num, by go_num, by omega, HS.out _ (by rw [HR1.out]; rfl), hO', (below_alloc hB1 _).grown hg' (Nat.le_trans hB1.size (by simp)) (fun j hj => (hO1.block j hj).1)⟩
          · go_wp2_with (first
            | (at_builtin; clear tok1; go_must (refine app_str _ rfl (.tmp 31) (.tmp 35) rfl w.heap.size _ o (s.extract st i) rfl rfl hO (by rw [size_ext]; omega) hB.size ?_); intro v1 w1 hO1 hg1 hat1
               have hB1 : Below w.heap.size w w1 := hB.grown hg1 hB.size (fun j hj => (hO.block j hj).1)
               obtain ⟨r1, HR1, hO1⟩ : ∃ r1, Hid (r1 = o ++ s.extract st i) ∧ Own w1 w.heap.size v1 r1 := ⟨_, Lib.hid rfl, hO1⟩
               have hz1 : r1.size ≤ 1 + 6 * i + i := by rw [HR1.out, ByteArray.size_append, size_ext]; omega)
            | (at_builtin; go_must (refine app_rd _ rfl (.tmp 61) (.tmp 62) rfl w.heap.size _ r1 (strOfNums [92, 102]) _ 2 2 rfl rfl (by rw [strOfNums_size]; rfl) (hO1.alloc _) (rd_lit _ 5 [92, 102] (by decide)) (by rw [strOfNums_size]; simp; omega) (Nat.le_trans hB1.size (by simp)) ?_); intro v' w' hO' hg' hat'))
            go_roundg (gk - 1)
            case measure => have := HD.out; omega
            case rel =>
              have hd := HD.out
              refine ⟨i + 1, i + 1, r1 ++ _, by go_num, by go_num, by omega, HS.out _ (by rw [HR1.out]; rfl), hO', (below_alloc hB1 _).grown hg' (Nat.le_trans hB1.size (by simp)) (fun j hj => (hO1.block j hj).1)⟩
          · go_wp2_with (first
            | (at_builtin; clear tok1; go_must (refine app_str _ rfl (.tmp 31) (.tmp 35) rfl w.heap.size _ o (s.extract st i) rfl rfl hO (by rw [size_ext]; omega) hB.size ?_); intro v1 w1 hO1 hg1 hat1
               have hB1 : Below w.heap.size w w1 := hB.grown hg1 hB.size (fun j hj => (hO.block j hj).1)
               obtain ⟨r1, HR1, hO1⟩ : ∃ r1, Hid (r1 = o ++ s.extract st i) ∧ Own w1 w.heap.size v1 r1 := ⟨_, Lib.hid rfl, hO1⟩
               have hz1 : r1.size ≤ 1 + 6 * i + i := by rw [HR1.out, ByteArray.size_append, size_ext]; omega)
            | (at_builtin; go_must (refine app_rd _ rfl (.tmp 66) (.tmp 67) rfl w.heap.size _ r1 (strOfNums [92, 110]) _ 2 2 rfl rfl (by rw [strOfNums_size]; rfl) (hO1.alloc _) (rd_lit _ 5 [92, 110] (by decide)) (by rw [strOfNums_size]; simp; omega) (Nat.le_trans hB1.size (by simp)) ?_); intro v' w' hO' hg' hat'))
            go_roundg (gk - 1)
            case measure => have := HD.out; omega
            case rel =>
              have hd := HD.out
              refine ⟨i + 1, i + 1, r1 ++ _, by go_num, by go_num, by omega, HS.out _ (by rw [HR1.out]; rfl), hO', (below_alloc hB1 _).grown hg' (Nat.le_trans hB1.size (by simp)) (fun j hj => (hO1.block j hj).1)⟩
          · go_wp2_with (first
            | (at_builtin; clear tok1; go_must (refine app_str _ rfl (.tmp 31) (.tmp 35) rfl w.heap.size _ o (s.extract st i) rfl rfl hO (by rw [size_ext]; omega) hB.size ?_); intro v1 w1 hO1 hg1 hat1
               have hB1 : Below w.heap.size w w1 := hB.grown hg1 hB.size (fun j hj => (hO.block j hj).1)
               obtain ⟨r1, HR1, hO1⟩ : ∃ r1, Hid (r1 = o ++ s.extract st i) ∧ Own w1 w.heap.size v1 r1 := ⟨_, Lib.hid rfl, hO1⟩
               have hz1 : r1.size ≤ 1 + 6 * i + i := by rw [HR1.out, ByteArray.size_append, size_ext]; omega)
            | (at_builtin; go_must (refine app_rd _ rfl (.tmp 71) (.tmp 72) rfl w.heap.size _ r1 (strOfNums [92, 114]) _ 2 2 rfl rfl (by rw [strOfNums_size]; rfl) (hO1.alloc _) (rd_lit _ 5 [92, 114] (by decide)) (by rw [strOfNums_size]; simp; omega) (Nat.le_trans hB1.size (by simp)) ?_); intro v' w' hO' hg' hat'))
            go_roundg (gk - 1)
            case measure => have := HD.out; omega
            case rel =>
              have hd := HD.out
              refine ⟨i + 1, i + 1, r1 ++ _, by go_num, by go_num, by omega, HS.out _ (by rw [HR1.out]; rfl), hO', (below_alloc hB1 _).grown hg' (Nat.le_trans hB1.size (by simp)) (fun j hj => (hO1.block j hj).1)⟩
          · go_wp2_with (first
            | (at_builtin; clear tok1; go_must (refine app_str _ rfl (.tmp 31) (.tmp 35) rfl w.heap.size _ o (s.extract st i) rfl rfl hO (by rw [size_ext]; omega) hB.size ?_); intro v1 w1 hO1 hg1 hat1
               have hB1 : Below w.heap.size w w1 := hB.grown hg1 hB.size (fun j hj => (hO.block j hj).1)
               obtain ⟨r1, HR1, hO1⟩ : ∃ r1, Hid (r1 = o ++ s.extract st i) ∧ Own w1 w.heap.size v1 r1 := ⟨_, Lib.hid rfl, hO1⟩
               have hz1 : r1.size ≤ 1 + 6 * i + i := by rw [HR1.out, ByteArray.size_append, size_ext]; omega)
            | (at_builtin; go_must (refine app_rd _ rfl (.tmp 76) (.tmp 77) rfl w.heap.size _ r1 (strOfNums [92, 116]) _ 2 2 rfl rfl (by rw [strOfNums_size]; rfl) (hO1.alloc _) (rd_lit _ 5 [92, 116] (by decide)) (by rw [strOfNums_size]; simp; omega) (Nat.le_trans hB1.size (by simp)) ?_); intro v' w' hO' hg' hat'))
            go_roundg (gk - 1)
            case measure => have := HD.out; omega
            case rel =>
              have hd := HD.out
              refine ⟨i + 1, i + 1, r1 ++ _, by go_num, by go_num, by omega, HS.out _ (by rw [HR1.out]; rfl), hO', (below_alloc hB1 _).grown hg' (Nat.le_trans hB1.size (by simp)) (fun j hj => (hO1.block j hj).1)⟩
          · go_wp2_with (first
            | (at_builtin; clear tok1; go_must (refine app_str _ rfl (.tmp 31) (.tmp 35) rfl w.heap.size _ o (s.extract st i) rfl rfl hO (by rw [size_ext]; omega) hB.size ?_); intro v1 w1 hO1 hg1 hat1
               have hB1 : Below w.heap.size w w1 := hB.grown hg1 hB.size (fun j hj => (hO.block j hj).1)
               obtain ⟨r1, HR1, hO1⟩ : ∃ r1, Hid (r1 = o ++ s.extract st i) ∧ Own w1 w.heap.size v1 r1 := ⟨_, Lib.hid rfl, hO1⟩
               have hz1 : r1.size ≤ 1 + 6 * i + i := by rw [HR1.out, ByteArray.size_append, size_ext]; omega)
            | (at_builtin; go_must (refine app_rd _ rfl (.tmp 50) (.tmp 52) rfl w.heap.size _ r1 (strOfNums [92, 34]) _ 2 2 rfl rfl (by rw [strOfNums_size]; rfl) (hO1.alloc _) (rd_lit _ 5 [92, 34] (by decide)) (by rw [strOfNums_size]; simp; omega) (Nat.le_trans hB1.size (by simp)) ?_); intro v' w' hO' hg' hat'))
            go_roundg (gk - 1)
            case measure => have := HD.out; omega
            case rel =>
              have hd := HD.out
              refine ⟨i + 1, i + 1, r1 ++ _, by go_num, by go_num, by omega, HS.out _ (by rw [HR1.out]; rfl), hO', (below_alloc hB1 _).grown hg' (Nat.le_trans hB1.size (by simp)) (fun j hj => (hO1.block j hj).1)⟩
          · go_wp2_with (first
            | (at_builtin; clear tok1; go_must (refine app_str _ rfl (.tmp 31) (.tmp 35) rfl w.heap.size _ o (s.extract st i) rfl rfl hO (by rw [size_ext]; omega) hB.size ?_); intro v1 w1 hO1 hg1 hat1
               have hB1 : Below w.heap.size w w1 := hB.grown hg1 hB.size (fun j hj => (hO.block j hj).1)
               obtain ⟨r1, HR1, hO1⟩ : ∃ r1, Hid (r1 = o ++ s.extract st i) ∧ Own w1 w.heap.size v1 r1 := ⟨_, Lib.hid rfl, hO1⟩
               have hz1 : r1.size ≤ 1 + 6 * i + i := by rw [HR1.out, ByteArray.size_append, size_ext]; omega)
            | (at_builtin; go_must (refine app_rd _ rfl (.tmp 50) (.tmp 52) rfl w.heap.size _ r1 (strOfNums [92, 92]) _ 2 2 rfl rfl (by rw [strOfNums_size]; rfl) (hO1.alloc _) (rd_lit _ 5 [92, 92] (by decide)) (by rw [strOfNums_size]; simp; omega) (Nat.le_trans hB1.size (by simp)) ?_); intro v' w' hO' hg' hat'))
            go_roundg (gk - 1)
            case measure => have := HD.out; omega
            case rel =>
              have hd := HD.out
              refine ⟨i + 1, i + 1, r1 ++ _, by go_num, by go_num, by omega, HS.out _ (by rw [HR1.out]; rfl), hO', (below_alloc hB1 _).grown hg' (Nat.le_trans hB1.size (by simp)) (fun j hj => (hO1.block j hj).1)⟩
        · exact absurd hn2 hn
    · have hk : i = s.size := by omega
      have HK := Lib.hid hk
      have HR := Lib.hid hR
      have hil : i ≤ s.size := by omega
      clear hd hk hR
      have g1 : (0 : Int) ≤ (st : Int) := by omega
      have g2 : (st : Int) ≤ (s.size : Int) := by omega
      have hsl : ∀ W : World, (Instr.slice 9 (.string s) (some (.int .i64 (st : Int))) none none).run Try.prog W = .ok (.string (s.extract st s.size)) W := fun W => by
        rw [run_slice_string_l W 9 s Try.underlying9 .i64 st g1 g2]
        simp
      have tok1 : True := trivial
      go_wp2_with (first
        | (at_builtin; clear tok1; go_must (refine app_str _ rfl (.tmp 81) (.tmp 84) rfl w.heap.size _ o (s.extract st s.size) rfl rfl hO (by rw [size_ext]; omega) hB.size ?_); intro v1 w1 hO1 hg1 hat1
           have hB1 : Below w.heap.size w w1 := hB.grown hg1 hB.size (fun j hj => (hO.block j hj).1)
           obtain ⟨r1, HR1, hO1⟩ : ∃ r1, Hid (r1 = o ++ s.extract st s.size) ∧ Own w1 w.heap.size v1 r1 := ⟨_, Lib.hid rfl, hO1⟩
           have hz1 : r1.size ≤ 1 + 6 * i + s.size := by rw [HR1.out, ByteArray.size_append, size_ext]; omega)
        | (at_builtin; go_must (refine app_rd _ rfl (.tmp 86) (.tmp 87) rfl w.heap.size _ r1 (strOfNums [34]) _ 1 1 rfl rfl (by rw [strOfNums_size]; rfl) (hO1.alloc _) (rd_lit _ 5 [34] (by decide)) (by rw [strOfNums_size]; simp; omega) (Nat.le_trans hB1.size (by simp)) ?_); intro v' w' hO' hg' hat'))
      go_ret
      have hk := HK.out
      subst hk
      refine ⟨_, rfl, ?_, (below_alloc hB1 _).grown hg' (Nat.le_trans hB1.size (by simp)) (fun j hj => (hO1.block j hj).1)⟩
      unfold esc
      rw [HR.out.eq, ← HR1.out]
      exact hO'
end Go.Proofs.Ytloegbicgopmpaa.L
