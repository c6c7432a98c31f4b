/- strconv.AppendQuote from the nil slice. -/
import Derived.Test.YtdcmiggpjjdocaaDoorFqV
import Derived.Test.YtdcmiggpjjdocaaDoorShelf
import Derived.Lib.QuoteLoop
import Derived.Lib.BufSteps
import Derived.OwnWalk
import Derived.Laws.CopyOwn
import Derived.Laws.DeepStrings4
namespace Go.Proofs.YtdcmiggpjjdocaaDoor.L
open Go.RowKit
set_option linter.unusedVariables false
set_option linter.unusedSimpArgs false

theorem hbyte8 : (Tryd.prog.info? 5).map (fun i => (i.zero, i.size, i.bytes)) = some (some (.int .u8 0), 1, 1) := by kernel_rfl
abbrev Ptab (T : Lib.PrintTabs) (w : World) : Prop := Lib.PrintTabsAt 2 3 4 5 T w
abbrev Utab (w : World) : Prop := Lib.Utf8Tabs 0 1 w
theorem zero_sub (n : Nat) (h : 0 < n) : (0 : Int) < (n : Int) := by omega
set_option maxHeartbeats 8000000 in
set_option maxRecDepth 1000000 in
/-- strconv.appendQuotedWith(nil, s, '"', false, false), s not empty. -/
theorem quoteNil (T : Lib.PrintTabs) (s : ByteArray) (W0 w : World) (hbw : Below W0.heap.size W0 w) (hsz0 : W0.heap.size ≤ w.heap.size) (hs0 : 0 < s.size) (hs : s.size ≤ 1000000) (hT0 : Ptab T W0) (hU0 : Utab W0) :
    Calls Tryd.prog 32 #[.slice none 0 0, .string s, .int .u8 34, .bool false, .bool false] w fun e w' => ∃ v', e = .returned v' ∧ Lib.OwnBuf W0.heap.size 5 v' (Lib.quoteZ T s).length (Lib.intCells (Lib.quoteZ T s)) W0 w' := by
  obtain ⟨i0, hi, hz0, hz1, hz2⟩ := info_parts hbyte8
  obtain ⟨B, hB⟩ : ∃ B, B = W0.heap.size := ⟨_, rfl⟩
  have HB : Hid (B = W0.heap.size) := hB
  rw [← hB] at hbw hsz0 ⊢
  have HBW := Lib.hid hbw
  have HBS := Lib.hid hsz0
  clear hB hbw hsz0
  have e1 : IntKind.i64.wrap (1 + (s.size : Int)) = 1 + (s.size : Int) := IntWalk.i64_in _ (by omega)
  have e2 : IntKind.i64.wrap (1 + (s.size : Int) + 1) = 1 + (s.size : Int) + 1 := IntWalk.i64_in _ (by omega)
  go_enter Tryd.func32, Tryd.ntmps32
  go_upto_region 3 with (first
      | (at_make; refine wpList_make_own _ rfl _ _ 26 rfl B 5 i0 (.int .u8 0) 1 Tryd.underlying26 hi hz0 hz1 _ _ _ (s.size + 2) rfl rfl (by first | rfl | omega | (go_num) | (simp; omega)) (by rw [hz2]; omega) (by unfold maxLen; omega) HBS.out ?_; intro w1 hown hg
         have hb := Lib.hid (show Lib.OwnBuf B 5 (.slice (some ⟨w.heap.size, 0, none⟩) 0 (s.size + 2)) 0 [] W0 w1 from ⟨World.ownsRowF_of hown, HBW.out.grown hg HBS.out (by intro k hk; cases hk), Nat.le_trans HBS.out hg.size⟩)
         clear hown hg))
  have hcp : (Builtin.copy_ #[26, 26] 3 #[.slice (some ⟨w.heap.size, 0, none⟩) 0 (s.size + 2), .slice none 0 0]).run Tryd.prog w1 = .ok (goInt 0) w1 := run_copy_none (P := Tryd.prog) w1 26 26 3 5 (some ⟨w.heap.size, 0, none⟩) none 0 (s.size + 2) 0 0 Tryd.underlying26 (by kernel_rfl) rfl
  go_upto_region 4 with (fail)
  replace hb := hb.out
  go_wp2_with (at_builtin; first
      | (refine Lib.wpList_append_byte rfl _ _ 26 rfl B 5 i0 Tryd.underlying26 hi hz0 hz1 hz2 _ _ _ rfl W0 _ _ (by assumption) rfl (by first | omega | (simp only [Lib.size_two]; omega)) ?_; intro _ _ hb)
      | (refine Lib.wpList_append_text rfl _ _ 26 9 rfl B 5 i0 Tryd.underlying26 Tryd.underlying9 hi hz0 hz1 hz2 _ _ _ rfl W0 (by assumption) _ rfl (by first | omega | (simp only [Lib.size_two]; omega)) ?_; intro _ _ hb))
  have HT : Hid (Ptab T W0) := hT0
  have HU : Hid (Utab W0) := hU0
  have Hb0 := hb
  clear hT0 hU0
  go_loopw [0, 1, 12, 13] (fun vb vs _ _ wr => ∃ (rest : ByteArray) (acc : List Int) (f : Nat), vs = .string rest ∧ rest.size ≤ f ∧ Hid (Lib.OwnBuf B 5 vb (0 + 1 + acc.length) ([] ++ [.int .u8 34] ++ Lib.intCells acc) W0 wr) ∧ Hid (acc ++ Lib.quoteFrom T f rest = Lib.quoteFrom T s.size s) ∧ acc.length + 10 * rest.size ≤ 10 * s.size)
    (fun _ vs _ _ _ => match vs with | .string r => r.size | _ => 0)
  case atStart => exact ⟨s, [], s.size, rfl, Nat.le_refl _, by simpa [Hid, Lib.intCells] using Hb0, rfl, by simp⟩
  case round =>
    obtain ⟨rest, acc, f, rfl, hf, hbr, hq, hl⟩ := hrel
    have hBel : Below W0.heap.size W0 wr := by have := hbr.out.2.1; rwa [HB.out] at this
    by_cases h0 : 0 < rest.size
    · have h0' : (0 : Int) < (rest.size : Int) := by omega
      obtain ⟨R, hR⟩ : ∃ R, R = (Utf8.decode rest 0).1 := ⟨_, rfl⟩
      obtain ⟨K, hK⟩ : ∃ K, K = (Utf8.decode rest 0).2 := ⟨_, rfl⟩
      have hK1 : 1 ≤ K := by rw [hK]; exact Lib.width_pos _ _
      have hK2 : K ≤ rest.size := by rw [hK]; exact Lib.width_le _ h0
      have hRv : Lib.validRune (R : Int) = true := by rw [hR]; exact Lib.rune_valid _
      have cD : Calls Tryd.prog 38 #[.string rest] wr fun e w' => e = .returned (.tuple #[.int .i32 R, .int .i64 K]) ∧ Below wr.heap.size wr w' := by
        have e : Lib.decodeGo rest = (R, K) := by
          have hne : ¬ rest.size = 0 := by omega
          rw [hR, hK]; simp [Lib.decodeGo, hne]
        have := Tryd.utf8_DecodeRuneInString rest wr (Utf8Tabs_below HU.out hBel)
        rwa [e] at this
      have HR : Hid (R = (Utf8.decode rest 0).1) := hR
      have HK : Hid (K = (Utf8.decode rest 0).2) := hK
      clear hR hK
      go_wp2_with (fail)
      go_at_call 38
      refine cD.mono ?_
      rintro e w1 ⟨rfl, hbl⟩
      have hb1 := buf_below hbr.out hbl
      have hT1 : Ptab T w1 := printTabs_below HT.out (by have := hb1.2.1; rwa [HB.out] at this)
      have hlenA : 0 + 1 + acc.length + 10 ≤ 140737488355328 := by omega
      have hsz : (rest.extract K rest.size).size = rest.size - K := Lib.size_rest rest K
      by_cases hbad : K = 1 ∧ R = 65533
      · obtain ⟨rfl, rfl⟩ := hbad
        have hx255 := UInt8.toNat_lt (rest[0]'h0)
        have hx16 : 0 ≤ (((rest[0]'h0).toNat : Nat) : Int) / 16 ∧ (((rest[0]'h0).toNat : Nat) : Int) / 16 < 16 := by omega
        have hst := Lib.quoteStep_bad T rest h0 HK.out HR.out
        go_wp2_with (at_builtin; first
          | (refine Lib.wpList_append_byte rfl _ _ 26 rfl B 5 i0 Tryd.underlying26 hi hz0 hz1 hz2 _ _ _ rfl W0 _ _ (by assumption) rfl (by first | omega | (simp only [Lib.size_two]; omega)) ?_; intro _ _ hb)
          | (refine Lib.wpList_append_text rfl _ _ 26 9 rfl B 5 i0 Tryd.underlying26 Tryd.underlying9 hi hz0 hz1 hz2 _ _ _ rfl W0 (by assumption) _ rfl (by first | omega | (simp only [Lib.size_two]; omega)) ?_; intro _ _ hb))
        go_roundw
        case rel =>
          refine ⟨_, acc ++ Lib.quoteStep T rest, f - 1, rfl, by omega, ?_, ?_, ?_⟩
          · rw [hst]
            simpa [Hid, Lib.intCells, Lib.strCells, Lib.size_two, Lib.lowerhex_at, List.append_assoc, Nat.add_assoc] using hb
          · show acc ++ Lib.quoteStep T rest ++ Lib.quoteFrom T (f - 1) (rest.extract 1 rest.size) = _
            rw [← hq.out, Lib.quoteFrom_step T f rest h0 hf, ← HK.out, List.append_assoc]
          · have := Lib.quoteStep_length_le T rest
            simp only [List.length_append]; omega
        case measure => simp only []; omega
      · have hst : Lib.quoteStep T rest = Lib.escRune T (R : Int) := by
          rw [HR.out]; exact Lib.quoteStep_good T rest (by rw [← HK.out, ← HR.out]; exact hbad)
        have cE : ∀ u0 : Value, Lib.OwnBuf B 5 u0 (0 + 1 + acc.length) ([] ++ [.int .u8 34] ++ Lib.intCells acc) W0 w1 → Calls Tryd.prog 39 #[u0, .int .i32 R, .int .u8 34, .bool false, .bool false] w1 fun e w' => ∃ v', e = .returned v' ∧ Lib.OwnBuf B 5 v' (0 + 1 + acc.length + (Lib.escRune T R).length) ([] ++ [.int .u8 34] ++ Lib.intCells acc ++ Lib.intCells (Lib.escRune T R)) W0 w' :=
          fun u0 hb1 => Tryd.strconv_appendEscapedRune T B u0 _ _ R W0 w1 hb1 hlenA hT1 hRv
        have HE := Lib.hid (cE _ hb1)
        clear hT1 hRv cE
        by_cases hK1e : K = 1
        · subst hK1e
          have hR' : ¬ (R : Int) = 65533 := by omega
          go_wp2_with (go_at_call 39; refine HE.out.mono ?_; rintro e w2 ⟨v2, rfl, hb2⟩)
          all_goals (
            go_roundw
            case rel =>
              refine ⟨_, acc ++ Lib.quoteStep T rest, f - 1, rfl, by omega, ?_, ?_, ?_⟩
              · rw [hst]
                simpa [Hid, Lib.intCells, List.append_assoc, Nat.add_assoc] using hb2
              · show acc ++ Lib.quoteStep T rest ++ Lib.quoteFrom T (f - 1) (rest.extract 1 rest.size) = _
                rw [← hq.out, Lib.quoteFrom_step T f rest h0 hf, ← HK.out, List.append_assoc]
              · have := Lib.quoteStep_length_le T rest
                simp only [List.length_append]; omega
            case measure => simp only []; omega)
        · have hK2' : (K : Int) ≤ (rest.size : Int) := by omega
          have hK1' : ¬ (K : Int) = 1 := by omega
          go_wp2_with (go_at_call 39; refine HE.out.mono ?_; rintro e w2 ⟨v2, rfl, hb2⟩)
          all_goals (
            go_roundw
            case rel =>
              refine ⟨_, acc ++ Lib.quoteStep T rest, f - 1, rfl, by omega, ?_, ?_, ?_⟩
              · rw [hst]
                simpa [Hid, Lib.intCells, List.append_assoc, Nat.add_assoc] using hb2
              · show acc ++ Lib.quoteStep T rest ++ Lib.quoteFrom T (f - 1) (rest.extract K rest.size) = _
                rw [← hq.out, Lib.quoteFrom_step T f rest h0 hf, ← HK.out, List.append_assoc]
              · have := Lib.quoteStep_length_le T rest
                simp only [List.length_append]; omega
            case measure => simp only []; omega)
    · have h0' : ¬ (0 : Int) < (rest.size : Int) := by omega
      have hbx := hbr.out
      have hlenA : 0 + 1 + acc.length + 10 ≤ 140737488355328 := by omega
      go_wp2_with (at_builtin; first
          | (refine Lib.wpList_append_byte rfl _ _ 26 rfl B 5 i0 Tryd.underlying26 hi hz0 hz1 hz2 _ _ _ rfl W0 _ _ (by assumption) rfl (by first | omega | (simp only [Lib.size_two]; omega)) ?_; intro _ _ hb)
          | (refine Lib.wpList_append_text rfl _ _ 26 9 rfl B 5 i0 Tryd.underlying26 Tryd.underlying9 hi hz0 hz1 hz2 _ _ _ rfl W0 (by assumption) _ rfl (by first | omega | (simp only [Lib.size_two]; omega)) ?_; intro _ _ hb))
      go_ret
      refine ⟨_, rfl, ?_⟩
      have hqe : Lib.quoteFrom T s.size s = acc := by rw [← hq.out, Lib.quoteFrom_end T f rest h0]; simp
      have hlenq : (Lib.quoteZ T s).length = 0 + 1 + acc.length + 1 := by simp [Lib.quoteZ, hqe]; omega
      have hcells : Lib.intCells (Lib.quoteZ T s) = [] ++ [.int .u8 34] ++ Lib.intCells acc ++ [.int .u8 34] := by simp [Lib.quoteZ, hqe, Lib.intCells]
      rw [hlenq, hcells]
      simpa using hb
end Go.Proofs.YtdcmiggpjjdocaaDoor.L
