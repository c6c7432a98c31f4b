/- The walk of gjson's unescape over a string that spec.Quote wrote. -/
import Derived.Test.YtnhnkpgbdpbafaaDoorGlP
import Derived.Test.YtnhnkpgbdpbafaaDoorP64
import Derived.Test.YtnhnkpgbdpbafaaDoorQuote
import Derived.Laws.MakeOwn
namespace Go.Proofs.YtnhnkpgbdpbafaaDoor.L
open Go.RowKit X64
set_option linter.unusedVariables false
set_option linter.unusedSimpArgs false

set_option maxRecDepth 100000 in
set_option maxHeartbeats 4000000 in
theorem parse64 (s : ByteArray) (w : World) (hs : s.size = 4) (hx : hexAll s = true) :
    Calls Tryd.prog 32 #[.string s, .int .i64 16, .int .i64 64] w fun e w' => e = .returned (.tuple #[.int .u64 (X64.hexN s 4), .nilIface]) ∧ Below w.heap.size w w' := by
  have HS := Lib.hid hs
  have HX := Lib.hid hx
  clear hs hx
  go_enter Tryd.func32, Tryd.ntmps32
  go_wp2_with (first
    | (go_at_call 39; go_must (refine (inner16 s _ HS.out).mono ?_); rintro e w' ⟨hin, hb⟩; obtain ⟨-, rfl⟩ | ⟨hno, rfl⟩ := hin; case inr => exact absurd HX.out (by rw [hno]; simp)))
  go_ret2
  exact ⟨rfl, hb⟩
theorem surrW (r : Int) (h0 : 0 ≤ r) (h1 : r < 32) (w : World) : Calls Tryd.prog 24 #[.int .i32 r] w fun e w' => e = .returned (.bool false) ∧ w = w' := by
  go_enter Tryd.func24, Tryd.ntmps24
  go_wp2
  go_ret
  exact ⟨rfl, rfl⟩
/-- The four digits of a small number. -/
theorem four_hex {t : ByteArray} {c : Int} (h0 : 0 ≤ c) (h1 : c < 32) (hs : t.size = 4) (b0 : bt t (0 : Nat) = 48) (b1 : bt t (1 : Nat) = 48) (b2 : bt t (2 : Nat) = 48 + c / 16) (b3 : bt t (3 : Nat) = hexd (c % 16)) : hexAll t = true ∧ X64.hexN t 4 = c := by
  have e2 : c / 16 = 0 ∨ c / 16 = 1 := by omega
  have e3 : 0 ≤ c % 16 ∧ c % 16 < 16 := by omega
  have hx3 : isHex (hexd (c % 16)) = true ∧ X64.hexV (hexd (c % 16)) = c % 16 := by
    generalize c % 16 = d at e3
    unfold hexd X64.hexV isHex isDigit
    split
    · constructor
      · simp; omega
      · rw [if_pos (by omega)]; omega
    · constructor
      · simp; omega
      · rw [if_neg (by omega), if_pos (by omega)]; omega
  have hx2 : isHex (48 + c / 16) = true ∧ X64.hexV (48 + c / 16) = c / 16 := by
    rcases e2 with e | e <;> rw [e] <;> exact ⟨by decide, by decide⟩
  constructor
  · unfold hexAll
    have a0 : bt t 0 = 48 := b0
    have a1 : bt t 1 = 48 := b1
    have a2 : bt t 2 = 48 + c / 16 := b2
    have a3 : bt t 3 = hexd (c % 16) := b3
    rw [a0, a1, a2, a3, hx2.1, hx3.1]; decide
  · show (((0 * 16 + X64.hexV (bt t (0 : Nat))) * 16 + X64.hexV (bt t (1 : Nat))) * 16 + X64.hexV (bt t (2 : Nat))) * 16 + X64.hexV (bt t (3 : Nat)) = c
    rw [b0, b1, b2, b3, hx2.2, hx3.2, show X64.hexV 48 = 0 by decide]
    omega
set_option maxRecDepth 100000 in
set_option maxHeartbeats 4000000 in
theorem runeW (t : ByteArray) (c : Int) (w : World) (hs : 4 ≤ t.size) (hm : t.size ≤ 1000000) (h0 : 0 ≤ c) (h1 : c < 32) (b0 : bt t (0 : Nat) = 48) (b1 : bt t (1 : Nat) = 48) (b2 : bt t (2 : Nat) = 48 + c / 16) (b3 : bt t (3 : Nat) = hexd (c % 16)) :
    Calls Tryd.prog 23 #[.string t] w fun e w' => e = .returned (.int .i32 c) ∧ Below w.heap.size w w' := by
  have hz : (t.extract 0 4).size = 4 := by rw [size_ext]; omega
  have hb : ∀ k : Nat, k < 4 → bt (t.extract 0 4) (k : Nat) = bt t (k : Nat) := fun k hk => by rw [bt_ext _ _ _ _ (by omega) (by omega)]; congr 1; omega
  obtain ⟨x1, x2⟩ := four_hex h0 h1 hz ((hb 0 (by omega)).trans b0) ((hb 1 (by omega)).trans b1) ((hb 2 (by omega)).trans b2) ((hb 3 (by omega)).trans b3)
  have HZ := Lib.hid hz
  have HX1 := Lib.hid x1
  have HX2 := Lib.hid x2
  clear hz hb x1 x2 b0 b1 b2 b3
  go_enter Tryd.func23, Tryd.ntmps23
  go_wp2_with (first
    | (go_at_call 32; go_must (refine (parse64 _ _ HZ.out HX1.out).mono ?_); rw [HX2.out]; rintro e w' ⟨rfl, hb⟩))
  go_ret
  exact ⟨rfl, hb⟩
set_option maxRecDepth 100000 in
set_option maxHeartbeats 4000000 in
theorem encAscii (g off len cap : Nat) (r : Int) (v0 : Value) (w : World) (h0 : 0 ≤ r) (h1 : r < 128) (hl : 1 ≤ len) (hc : w.cell? ⟨g, off, none⟩ = some v0) (hf : w.frozen? ⟨g, off, none⟩ = false) :
    Calls Tryd.prog 26 #[.slice (some ⟨g, off, none⟩) len cap, .int .i32 r] w fun e w' => e = .returned (.int .i64 1) ∧ w' = w.setCell ⟨g, off, none⟩ (.int .u8 r) := by
  go_enter Tryd.func26, Tryd.ntmps26
  go_wp2
  go_ret
  exact ⟨rfl, rfl⟩
/-- Eight zeros behind, the first one written over, seven cut off. -/
theorem own_eight {w : World} {base : Nat} {v : Value} {a : ByteArray} {c : Int} (h : Own w base v (a ++ strOfNums [0, 0, 0, 0, 0, 0, 0, 0])) :
    ∃ g cap, v = .slice (some ⟨g, 0, none⟩) (a.size + 8) cap ∧ a.size + 8 ≤ cap ∧ base ≤ g ∧ g < w.heap.size ∧ (∃ u, w.cell? ⟨g, a.size, none⟩ = some u) ∧ w.frozen? ⟨g, a.size, none⟩ = false ∧
      (0 ≤ c → c ≤ 255 → Own (w.setCell ⟨g, a.size, none⟩ (.int .u8 c)) base (.slice (some ⟨g, 0, none⟩) (a.size + 1) cap) (a ++ strOfNums [c])) := by
  have hz : (a ++ strOfNums [0, 0, 0, 0, 0, 0, 0, 0]).size = a.size + 8 := by rw [ByteArray.size_append, strOfNums_size]; rfl
  rcases h with ⟨_, h0⟩ | ⟨g, cap, cur, q, rfl, hbg, hg, hn, hc, hm, ht⟩
  · omega
  · rw [hz] at hn ht
    have hlt : a.size < cur.size := by omega
    refine ⟨g, cap, by rw [hz], hn, hbg, (Array.getElem?_eq_some_iff.1 hg).1, ⟨cur[a.size], by rw [cell_of_row w g a.size _ _ _ hg]; simp [hlt]⟩, by simp [World.frozen?, hg], fun c0 c1 => ?_⟩
    have hz1 : (a ++ strOfNums [c]).size = a.size + 1 := by rw [ByteArray.size_append, strOfNums_size]; rfl
    refine .inr ⟨g, cap, cur.setIfInBounds a.size (.int .u8 c), q, by rw [hz1], hbg, by simp [World.setCell, Array.getElem?_modify, hg], by omega, by simp; exact hc, hm, ?_⟩
    rw [hz1, bv_append] 
    have hta : cur.toList.take a.size = bv a := by
      have e := congrArg (List.take a.size) ht
      rw [List.take_take, bv_append, Nat.min_eq_left (by omega)] at e
      rw [e, List.take_left' (bv_length a)]
    apply List.ext_getElem?
    intro j
    rw [List.getElem?_take, List.getElem?_append, bv_length, bv_get]
    by_cases hj : j < a.size
    · rw [if_pos (by omega), if_pos hj, if_pos hj]
      have e := congrArg (fun l => l[j]?) hta
      simp only [List.getElem?_take, if_pos hj, bv_get] at e
      rw [← e]
      simp [Array.getElem?_setIfInBounds, show ¬ a.size = j by omega]
    · rw [if_neg hj]
      by_cases hj2 : j = a.size
      · subst hj2
        rw [if_pos (by omega), Nat.sub_self, bv_get, if_pos (by rw [strOfNums_size]; simp)]
        have hbn := bt_nums [c] 0 (by simp) ⟨c0, c1⟩
        simp only [List.getElem_cons_zero] at hbn
        rw [hbn]
        simp [Array.getElem?_setIfInBounds, hlt]
      · rw [if_neg (by omega), bv_get, if_neg (by rw [strOfNums_size]; simp; omega)]
theorem ext_snoc {s : ByteArray} {k : Nat} (h : k < s.size) : s.extract 0 (k + 1) = s.extract 0 k ++ strOfNums [bt s (k : Nat)] := by
  have hr := bt_range s (k : Nat)
  refine eq_of_bt (by rw [ByteArray.size_append, strOfNums_size, size_ext, size_ext]; simp; omega) fun j hj => ?_
  rw [size_ext] at hj
  rw [bt_ext _ _ _ _ (by omega) (by rw [size_ext]; omega)]
  by_cases hjk : j < k
  · rw [bt_app_left _ _ _ (by omega) (by rw [size_ext]; omega), bt_ext _ _ _ _ (by omega) (by rw [size_ext]; omega)]
  · obtain rfl : j = k := by omega
    rw [bt_app_right _ _ _ (by rw [size_ext]; omega), size_ext, show ((j : Int) - ((min j s.size - 0 : Nat) : Int)) = ((0 : Nat) : Int) by omega]
    have hbn := bt_nums [bt s (j : Nat)] 0 (by simp) hr
    simp only [List.getElem_cons_zero] at hbn
    rw [hbn]; congr 1; omega
theorem make_bytes (w : World) (n : Nat) (h : n ≤ 140737488355328) : ∃ w1, (Instr.makeSlice 35 (.int .i64 0) (.int .i64 (n : Int))).run Tryd.prog w = .ok (.slice (some ⟨w.heap.size, 0, none⟩) 0 n) w1 ∧ Own w1 w.heap.size (.slice (some ⟨w.heap.size, 0, none⟩) 0 n) ByteArray.empty ∧ Below w.heap.size w w1 := by
  obtain ⟨i, hi, hz, hz1, hz2⟩ := info_parts info_u8
  have hr := run_make (P := Tryd.prog) w 35 5 i (.int .u8 0) Tryd.underlying35 hi hz .i64 .i64 0 n (Int.le_refl _) (by omega) (by rw [hz2]; omega) (by omega)
  simp only [Int.toNat_zero, Int.toNat_natCast, hz1] at hr
  refine ⟨_, hr, .inr ⟨w.heap.size, n, _, _, rfl, Nat.le_refl _, heap_alloc_new w _, Nat.zero_le _, by rw [size_madeCells]; omega, by simp only [maxLen]; omega, rfl⟩, below_alloc (Below.refl _ _) _⟩
set_option maxRecDepth 100000 in
set_option maxHeartbeats 8000000 in
theorem unescW (s : ByteArray) (w : World) (hs : s.size ≤ 16384) : Calls Tryd.prog 20 #[.string (ins s)] w fun e w' => e = .returned (.string s) ∧ Below w.heap.size w w' := by
  have hz := ins_size s
  have hzz := escP_size s s.size
  have hat : ∀ k j p : Nat, k < s.size → p + 1 = (escP s k).size → (hj : j < (eb (bt s k)).length) → p + j < (ins s).size ∧ bt (ins s) ((p + j : Nat) : Int) = (eb (bt s k))[j] := fun k j p hk hp hj => ins_at hk hp hj
  have htm : (ins s).size ≤ 100000 := by omega
  obtain ⟨t, ht⟩ : ∃ t, ins s = t := ⟨_, rfl⟩
  rw [ht] at hz hat htm ⊢
  have HAT := Lib.hid hat
  have HZ := Lib.hid hz
  clear hat hz hzz ht
  obtain ⟨w1, hmk, hO1, hB1⟩ := make_bytes w t.size (by omega)
  have HO1 := Lib.hid hO1
  have HB1 := Lib.hid hB1
  clear hO1 hB1
  go_enter Tryd.func20, Tryd.ntmps20
  go_wp2
  clear hmk
  go_loopg [3, 4] t.size (fun d v3 v4 wr => ∃ k p : Nat, v4 = .int .i64 (p : Int) ∧ p + 1 = (escP s k).size ∧ k ≤ s.size ∧ t.size - p ≤ d ∧ Own wr w.heap.size v3 (s.extract 0 k) ∧ Below w.heap.size w wr)
  case atStart => exact ⟨0, 0, rfl, (pos_zero s).symm, by omega, by omega, by rw [show s.extract 0 0 = ByteArray.empty from ByteArray.ext (by simp)]; exact HO1.out, HB1.out⟩
  case round =>
    obtain ⟨k, p, rfl, hp, hk, hd, hO, hB⟩ := hrel
    have HP := Lib.hid hp
    have HD := Lib.hid hd
    have HO := Lib.hid hO
    have HB := Lib.hid hB
    have hBs := Nat.le_trans hB.size (Nat.le_refl wr.heap.size)
    clear hp hd hO hB
    by_cases hlt : k < s.size
    · have hext := ext_snoc hlt
      have hza : (s.extract 0 k).size = k := by rw [size_ext]; omega
      have hps := pos_succ s k
      have hr := bt_range s k
      have hA := fun j hj => HAT.out k j p hlt HP.out hj
      have hmore : 1 ≤ (eb (bt s k)).length := by
        unfold eb; repeat' split
        all_goals simp
      obtain ⟨c, hc⟩ : ∃ c, bt s (k : Nat) = c := ⟨_, rfl⟩
      rw [hc] at hext hps hr hA hmore
      rw [← HP.out] at hps
      have HE := Lib.hid hext
      have HPS := Lib.hid hps
      have HA := Lib.hid hA
      have HZA := Lib.hid hza
      clear hext hps hA hza hc
      rcases short_or c with ⟨l, hl⟩ | hn
      · have he := eb_short hl
        have h0 := HA.out 0 (by rw [he]; simp)
        have h1 := HA.out 1 (by rw [he]; simp)
        simp only [he, List.getElem_cons_zero, List.getElem_cons_succ, Nat.add_zero] at h0 h1
        obtain ⟨i0, b0⟩ := h0
        obtain ⟨i1, b1⟩ := h1
        have HPS2 := Lib.hid (show p + 2 + 1 = (escP s (k + 1)).size by have := HPS.out; rw [he] at this; simp at this; omega)
        have x0 : ∀ h : p < t.size, ((t[p]'h).toNat : Int) = bt t p := bt_at t p
        have x1 : ∀ h : p + 1 < t.size, ((t[p + 1]'h).toNat : Int) = bt t (p + 1 : Nat) := bt_at t (p + 1)
        rw [b0] at x0
        rw [b1] at x1
        clear b0 b1 he
        cases hl
        · go_wp2_with (first
            | (at_builtin; go_must (refine app_rd _ rfl (.tmp 59) (.tmp 60) rfl w.heap.size _ (s.extract 0 k) (strOfNums [8]) _ 1 1 rfl rfl (by rw [strOfNums_size]; rfl) (HO.out.alloc _) (rd_lit _ 5 [8] (by simp)) (by rw [strOfNums_size, size_ext]; simp; omega) (Nat.le_trans HB.out.size (by simp)) ?_); intro v' w' hO' hg' hat'))
          go_roundg (gk - 1)
          case measure => have := HD.out; omega
          case rel =>
            refine ⟨k + 1, p + 2, by go_num, HPS2.out, by omega, by have := HD.out; omega, ?_, (below_alloc HB.out _).grown hg' (Nat.le_trans HB.out.size (by simp)) (fun j hj => (HO.out.block j hj).1)⟩
            rw [HE.out]
            exact hO'
        · go_wp2_with (first
            | (at_builtin; go_must (refine app_rd _ rfl (.tmp 64) (.tmp 65) rfl w.heap.size _ (s.extract 0 k) (strOfNums [12]) _ 1 1 rfl rfl (by rw [strOfNums_size]; rfl) (HO.out.alloc _) (rd_lit _ 5 [12] (by simp)) (by rw [strOfNums_size, size_ext]; simp; omega) (Nat.le_trans HB.out.size (by simp)) ?_); intro v' w' hO' hg' hat'))
          go_roundg (gk - 1)
          case measure => have := HD.out; omega
          case rel =>
            refine ⟨k + 1, p + 2, by go_num, HPS2.out, by omega, by have := HD.out; omega, ?_, (below_alloc HB.out _).grown hg' (Nat.le_trans HB.out.size (by simp)) (fun j hj => (HO.out.block j hj).1)⟩
            rw [HE.out]
            exact hO'
        · go_wp2_with (first
            | (at_builtin; go_must (refine app_rd _ rfl (.tmp 69) (.tmp 70) rfl w.heap.size _ (s.extract 0 k) (strOfNums [10]) _ 1 1 rfl rfl (by rw [strOfNums_size]; rfl) (HO.out.alloc _) (rd_lit _ 5 [10] (by simp)) (by rw [strOfNums_size, size_ext]; simp; omega) (Nat.le_trans HB.out.size (by simp)) ?_); intro v' w' hO' hg' hat'))
          go_roundg (gk - 1)
          case measure => have := HD.out; omega
          case rel =>
            refine ⟨k + 1, p + 2, by go_num, HPS2.out, by omega, by have := HD.out; omega, ?_, (below_alloc HB.out _).grown hg' (Nat.le_trans HB.out.size (by simp)) (fun j hj => (HO.out.block j hj).1)⟩
            rw [HE.out]
            exact hO'
        · go_wp2_with (first
            | (at_builtin; go_must (refine app_rd _ rfl (.tmp 74) (.tmp 75) rfl w.heap.size _ (s.extract 0 k) (strOfNums [13]) _ 1 1 rfl rfl (by rw [strOfNums_size]; rfl) (HO.out.alloc _) (rd_lit _ 5 [13] (by simp)) (by rw [strOfNums_size, size_ext]; simp; omega) (Nat.le_trans HB.out.size (by simp)) ?_); intro v' w' hO' hg' hat'))
          go_roundg (gk - 1)
          case measure => have := HD.out; omega
          case rel =>
            refine ⟨k + 1, p + 2, by go_num, HPS2.out, by omega, by have := HD.out; omega, ?_, (below_alloc HB.out _).grown hg' (Nat.le_trans HB.out.size (by simp)) (fun j hj => (HO.out.block j hj).1)⟩
            rw [HE.out]
            exact hO'
        · go_wp2_with (first
            | (at_builtin; go_must (refine app_rd _ rfl (.tmp 79) (.tmp 80) rfl w.heap.size _ (s.extract 0 k) (strOfNums [9]) _ 1 1 rfl rfl (by rw [strOfNums_size]; rfl) (HO.out.alloc _) (rd_lit _ 5 [9] (by simp)) (by rw [strOfNums_size, size_ext]; simp; omega) (Nat.le_trans HB.out.size (by simp)) ?_); intro v' w' hO' hg' hat'))
          go_roundg (gk - 1)
          case measure => have := HD.out; omega
          case rel =>
            refine ⟨k + 1, p + 2, by go_num, HPS2.out, by omega, by have := HD.out; omega, ?_, (below_alloc HB.out _).grown hg' (Nat.le_trans HB.out.size (by simp)) (fun j hj => (HO.out.block j hj).1)⟩
            rw [HE.out]
            exact hO'
        · go_wp2_with (first
            | (at_builtin; go_must (refine app_rd _ rfl (.tmp 84) (.tmp 85) rfl w.heap.size _ (s.extract 0 k) (strOfNums [34]) _ 1 1 rfl rfl (by rw [strOfNums_size]; rfl) (HO.out.alloc _) (rd_lit _ 5 [34] (by simp)) (by rw [strOfNums_size, size_ext]; simp; omega) (Nat.le_trans HB.out.size (by simp)) ?_); intro v' w' hO' hg' hat'))
          go_roundg (gk - 1)
          case measure => have := HD.out; omega
          case rel =>
            refine ⟨k + 1, p + 2, by go_num, HPS2.out, by omega, by have := HD.out; omega, ?_, (below_alloc HB.out _).grown hg' (Nat.le_trans HB.out.size (by simp)) (fun j hj => (HO.out.block j hj).1)⟩
            rw [HE.out]
            exact hO'
        · go_wp2_with (first
            | (at_builtin; go_must (refine app_rd _ rfl (.tmp 49) (.tmp 50) rfl w.heap.size _ (s.extract 0 k) (strOfNums [92]) _ 1 1 rfl rfl (by rw [strOfNums_size]; rfl) (HO.out.alloc _) (rd_lit _ 5 [92] (by simp)) (by rw [strOfNums_size, size_ext]; simp; omega) (Nat.le_trans HB.out.size (by simp)) ?_); intro v' w' hO' hg' hat'))
          go_roundg (gk - 1)
          case measure => have := HD.out; omega
          case rel =>
            refine ⟨k + 1, p + 2, by go_num, HPS2.out, by omega, by have := HD.out; omega, ?_, (below_alloc HB.out _).grown hg' (Nat.le_trans HB.out.size (by simp)) (fun j hj => (HO.out.block j hj).1)⟩
            rw [HE.out]
            exact hO'
      · by_cases h32 : c < 32
        · have he := eb_low hn h32
          have h0 := HA.out 0 (by rw [he]; simp)
          have h1 := HA.out 1 (by rw [he]; simp)
          have h2 := HA.out 2 (by rw [he]; simp)
          have h3 := HA.out 3 (by rw [he]; simp)
          have h4 := HA.out 4 (by rw [he]; simp)
          have h5 := HA.out 5 (by rw [he]; simp)
          simp only [he, List.getElem_cons_zero, List.getElem_cons_succ, Nat.add_zero] at h0 h1 h2 h3 h4 h5
          obtain ⟨i0, b0⟩ := h0
          obtain ⟨i1, b1⟩ := h1
          obtain ⟨-, b2⟩ := h2
          obtain ⟨-, b3⟩ := h3
          obtain ⟨-, b4⟩ := h4
          obtain ⟨i5, b5⟩ := h5
          have HPS6 := Lib.hid (show p + 6 + 1 = (escP s (k + 1)).size by have := HPS.out; rw [he] at this; simp at this; omega)
          have x0 : ∀ h : p < t.size, ((t[p]'h).toNat : Int) = bt t p := bt_at t p
          have x1 : ∀ h : p + 1 < t.size, ((t[p + 1]'h).toNat : Int) = bt t (p + 1 : Nat) := bt_at t (p + 1)
          rw [b0] at x0
          rw [b1] at x1
          have hq : ∀ j : Nat, j < 4 → bt (t.extract (p + 2) t.size) (j : Nat) = bt t ((p + (2 + j) : Nat) : Int) := fun j hj => by
            rw [bt_ext _ _ _ _ (by omega) (by rw [size_ext]; omega)]
            congr 1
            omega
          have Q0 := Lib.hid ((hq 0 (by omega)).trans b2)
          have Q1 := Lib.hid ((hq 1 (by omega)).trans b3)
          have Q2 := Lib.hid ((hq 2 (by omega)).trans b4)
          have Q3 := Lib.hid ((hq 3 (by omega)).trans b5)
          clear b0 b1 b2 b3 b4 b5 he hq
          obtain ⟨hr0, hr1⟩ := hr
          go_wp2_with (first
            | (go_at_call 23; go_must (refine (runeW (t.extract (p + 2) t.size) c _ (by rw [size_ext]; omega) (by rw [size_ext]; omega) hr0 h32 Q0.out Q1.out Q2.out Q3.out).mono ?_); rintro e w2 ⟨rfl, hb2⟩; replace hb2 := Lib.hid hb2)
            | (go_at_call 24; go_must (refine (surrW c hr0 h32 _).mono ?_); rintro e w3 ⟨rfl, rfl⟩)
            | (at_builtin; go_must (refine app_rd _ rfl (.tmp 132) (.tmp 133) rfl w.heap.size _ (s.extract 0 k) (strOfNums [0, 0, 0, 0, 0, 0, 0, 0]) _ 8 8 rfl rfl (by rw [strOfNums_size]; rfl) ((HO.out.below hb2.out).alloc _) (rd_lit _ 5 [0, 0, 0, 0, 0, 0, 0, 0] (by simp)) (by rw [strOfNums_size, size_ext]; simp; omega) (by have := hb2.out.size; simp; omega) ?_); intro v' w' hO' hg' hat'
               obtain ⟨g, cap, rfl, hcap, hbg, hgl, ⟨u0, hu0⟩, hfz, hO2⟩ := own_eight (c := c) hO'
               rw [HZA.out] at hcap hu0 hfz hO2 ⊢
               replace hO2 := Lib.hid hO2
               replace hg' := Lib.hid hg'
               clear hO' hat')
            | (go_at_call 26; go_must (refine (encAscii g k 8 (cap - k) c u0 _ hr0 (by omega) (by omega) hu0 hfz).mono ?_); rintro e w5 ⟨rfl, rfl⟩))
          go_roundg (gk - 1)
          case measure => have := HD.out; omega
          case rel =>
            refine ⟨k + 1, p + 6, by go_num, HPS6.out, by omega, by have := HD.out; omega, by rw [HE.out]; exact hO2.out hr0 (by omega), ?_⟩
            exact ((below_alloc (below_step HB.out hb2.out) _).grown hg'.out (by have := hb2.out.size; simp; omega) (fun j hj => ((HO.out.below hb2.out).block j hj).1)).setCell hbg _
        · have he := eb_plain hn h32
          have h0 := HA.out 0 (by rw [he]; simp)
          simp only [he, List.getElem_cons_zero, List.getElem_cons_succ, Nat.add_zero] at h0
          obtain ⟨i0, b0⟩ := h0
          have HPS1 := Lib.hid (show p + 1 + 1 = (escP s (k + 1)).size by have := HPS.out; rw [he] at this; simp at this; omega)
          have x0 : ∀ h : p < t.size, ((t[p]'h).toNat : Int) = bt t p := bt_at t p
          rw [b0] at x0
          have h92 : ¬ c = 92 := hn.2.2.2.2.2.2
          have hc0 : 0 ≤ c := hr.1
          have hc1 : c ≤ 255 := hr.2
          clear b0 he hr hn
          go_wp2_with (first
            | (at_builtin; go_must (refine app_rd _ rfl (.tmp 16) (.tmp 20) rfl w.heap.size _ (s.extract 0 k) (strOfNums [c]) _ 1 1 rfl rfl (by rw [strOfNums_size]; rfl) (HO.out.alloc _) (rd_lit _ 5 [c] (by simp; omega)) (by rw [strOfNums_size, size_ext]; simp; omega) (Nat.le_trans HB.out.size (by simp)) ?_); intro v' w' hO' hg' hat'))
          go_roundg (gk - 1)
          case measure => have := HD.out; omega
          case rel =>
            refine ⟨k + 1, p + 1, by go_num, HPS1.out, by omega, by have := HD.out; omega, ?_, (below_alloc HB.out _).grown hg' (Nat.le_trans HB.out.size (by simp)) (fun j hj => (HO.out.block j hj).1)⟩
            rw [HE.out]
            exact hO'
    · have hks : k = s.size := by omega
      have hpt : p = t.size := by have := HZ.out; have := HP.out; rw [hks] at this; omega
      have HKS := Lib.hid hks
      have hge : ¬ p < t.size := by omega
      clear hks hpt
      obtain ⟨r', HR', hO'⟩ : ∃ r', Hid (r' = s.extract 0 k) ∧ Own wr w.heap.size _ r' := ⟨_, Lib.hid rfl, HO.out⟩
      obtain ⟨A', c', rfl, hcc', hr'⟩ := hO'.rd
      have hcv := hr'.string (c := c') Tryd.underlying35 Tryd.underlying5 Tryd.underlying9
      clear hr' hcc'
      go_wp2
      go_ret
      exact ⟨by rw [HR'.out, HKS.out, show s.extract 0 s.size = s from ext_all s]; rfl, HB.out⟩
end Go.Proofs.YtnhnkpgbdpbafaaDoor.L
