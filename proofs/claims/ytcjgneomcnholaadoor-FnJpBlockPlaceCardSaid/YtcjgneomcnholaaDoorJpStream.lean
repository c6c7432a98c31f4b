/- The walk of spec.Stream. -/
import Derived.Test.YtcjgneomcnholaaDoorPlaces
import Derived.Test.YtcjgneomcnholaaDoorJpStreamP
import Derived.Deep.DeepCutAuto
import Derived.Deep.CutBlock
namespace Go.Proofs.YtcjgneomcnholaaDoor.Jp
open Go.RowKit L
set_option linter.unusedVariables false
set_option linter.unusedSimpArgs false

/-- What Stream answers. -/
def StreamPost (w : World) (s : ByteArray) (e : Ending) (w' : World) : Prop :=
  Below w.heap.size w w' ∧
  ((∃ ps, stream s = some ps ∧ ∃ (A : Option Addr) (n c : Nat) (xs : List Value), e = .returned (.tuple #[.slice A n c, .bool true]) ∧ n = ps.length ∧ Row w' (From w.heap.size) 5 A n c xs ∧ PlsC w' (From w.heap.size) ps xs) ∨
   (stream s = none ∧ e = .returned (.tuple #[.slice none 0 0, .bool false])))
section
variable {s : ByteArray} {k i : Nat} {acc : List Pl}
theorem st_end (h : ¬ L.skip isBlank s i < s.size) : streamN s (k + 1) i acc = some acc := by unfold streamN; rw [if_neg h]
theorem st_fail (h : L.skip isBlank s i < s.size) (hv : valN s (s.size + 1) (L.skip isBlank s i) = none) : streamN s (k + 1) i acc = none := by unfold streamN; rw [if_pos h, hv]
theorem st_more {j : Nat} {p : Pl} (h : L.skip isBlank s i < s.size) (hv : valN s (s.size + 1) (L.skip isBlank s i) = some (j, p)) : streamN s (k + 1) i acc = streamN s k j (acc ++ [p]) := by rw [streamN, if_pos h, hv]
end
set_option maxRecDepth 100000 in
set_option maxHeartbeats 4000000 in
theorem streamW (s : ByteArray) (w : World) (hs : s.size ≤ 2147483648) : Calls Tryd.prog 17 #[.string s] w (StreamPost w s) := by
  have hs2 : s.size ≤ 140737488351232 := by omega
  have hv := valC_all hs (s.size + 1)
  have HV := Lib.hid hv
  clear hv
  have HB0 := Lib.hid (below_alloc (Below.refl w.heap.size w) (.cells #[.string s, .int .i64 0] 81))
  have HR0 := Lib.hid (new_rd w s)
  have HL0 := Lib.hid (show (w.alloc (.cells #[.string s, .int .i64 0] 81)).heap.size = w.heap.size + 1 by simp)
  go_enter Tryd.func17, Tryd.ntmps17
  go_upto_block 0 with (first
    | (go_at_call 42; go_must (refine (blanks w.heap.size s 0 _ HR0.out hs2 (by omega)).mono ?_); rintro e w1 ⟨rfl, hM1⟩))
  have HM0 := Lib.hid hM1
  clear hM1
  obtain ⟨W0, hW0⟩ : ∃ W0, w.alloc (.cells #[.string s, .int .i64 0] 81) = W0 := ⟨_, rfl⟩
  rw [hW0] at HB0 HR0 HL0 HM0
  clear hW0
  go_cut [5] (fun v5 wx => ∃ ps xs, stream s = some ps ∧ L.Kids wx (w.heap.size + 1) v5 none ps xs ∧ Below w.heap.size w wx)
  case first =>
    go_wp2_with (fail)
    go_loopg [5] (s.size + 1) (fun d v5 wx => ∃ (i z : Nat) (ps : List Pl) (xs : List Value), Mv W0 wx w.heap.size s z ∧ L.skip isBlank s i = z ∧ i ≤ s.size ∧ z ≤ s.size ∧ s.size - i < d ∧ ps.length ≤ i ∧ streamN s d i ps = stream s ∧ L.Kids wx (w.heap.size + 1) v5 none ps xs)
    case atStart => exact ⟨0, _, [], [], HM0.out, rfl, by omega, skip_top _ _ (by omega), by omega, by simp, rfl, L.Kids.nil _ _ _⟩
    case round =>
      obtain ⟨i, z, ps, xs, hM, hz, hi, hzs, hfu, hpl, hst, hK⟩ := hrel
      obtain ⟨d, rfl⟩ : ∃ d, gk = d + 1 := ⟨gk - 1, by omega⟩
      have hzi := skip_le isBlank s i
      rw [hz] at hzi
      have HM := Lib.hid hM
      have HS := Lib.hid hst
      have HK := Lib.hid hK
      have HZ := Lib.hid hz
      have c0 := hM.rd.c0
      have c1 := hM.rd.c1
      have hWr := hM.gr.size
      clear hM hst hK hz
      by_cases hlt : z < s.size
      · have hlt2 : decide ((z : Int) < (s.size : Int)) = true := by simp; omega
        cases hr : valN s (s.size + 1) z with
        | none =>
          have HE := Lib.hid ((st_fail (k := d) (acc := ps) (by rw [HZ.out]; exact hlt) (by rw [HZ.out]; exact hr)).symm.trans HS.out)
          have HR := Lib.hid hr
          clear hr
          go_wp2_with (first
            | (go_at_call 43; go_must (refine (val_no HV.out w.heap.size z _ HM.out.rd hzs (by omega) HR.out).mono ?_); rintro e w3 ⟨j, k', b', e', An, nn, cn, Ak, nk, ck, hj, hM3, rfl⟩))
          go_ret2
          refine ⟨below_of_new (below_of_new HB0.out HM.out.gr (Nat.le_refl _) |> fun h => below_alloc (below_of_new h hM3.gr (Nat.le_refl _)) _) (World.grownBy.refl _ _) (Nat.le_refl _), .inr ⟨HE.out.symm, rfl⟩⟩
        | some jp =>
          obtain ⟨j, p⟩ := jp
          have HE := Lib.hid ((st_more (k := d) (acc := ps) (by rw [HZ.out]; exact hlt) (by rw [HZ.out]; exact hr)).symm.trans HS.out)
          have hj := valN_fwd s _ z j p hzs hr
          have HR := Lib.hid hr
          obtain ⟨i0, hi0, hz0, hz1, hz2⟩ := info_parts info_pl
          have HI := Lib.hid hi0
          have HZ0 := Lib.hid hz0
          have HZ1 := Lib.hid hz1
          have HZ2 := Lib.hid hz2
          clear hr hi0 hz0 hz1 hz2
          go_upto_region 5 with (first
            | (go_at_call 43; go_must (refine (val_yes HV.out w.heap.size z _ HM.out.rd hzs (by omega) HR.out).mono ?_); rintro e w3 ⟨k', b', e', An, nn, cn, Ak, nk, ck, hM3, rfl, hP⟩
               have HM3 := Lib.hid hM3
               have HP := Lib.hid hP
               clear hM3 hP)
            | (at_builtin; go_must (refine wpList_append_own_at _ rfl (.tmp 23) (.tmp 25) 25 rfl (w.heap.size + 1) 27 i0 _ 5 72 Tryd.underlying25 HI.out HZ0.out HZ1.out HZ2.out rfl (by decide) _ ps.length xs rfl (((HK.out.keep HM3.out.gr (by omega)).own.alloc _).alloc _) ⟨w3.heap.size + 1, 0, none⟩ 1 1 [.int .i64 k', .int .i64 b', .int .i64 e', .slice An nn cn, .slice Ak nk ck] rfl rfl (World.news_of_block (cs := #[.int .i64 k', .int .i64 b', .int .i64 e', .slice An nn cn, .slice Ak nk ck]) (t := 27) (fr := (0, 0)) (by rw [show w3.heap.size + 1 = (w3.alloc _).heap.size from (by simp)]; exact heap_alloc_new _ _)) (by simp [Value.oneCell']) (by simp only [maxLen]; omega) (by omega) (by have := HM3.out.gr.size; have := HL0.out; simp; omega) ?_)
               intro v5 w5 hO5 hg5 _ hat5))
          have hKk := HK.out.keep HM3.out.gr (show w.heap.size < w.heap.size + 1 by omega)
          have hM4 : Mv W0 ((w3.alloc (Obj.cells #[.int .i64 k', .int .i64 b', .int .i64 e', .slice An nn cn, .slice Ak nk ck] 27)).alloc (Obj.cells #[.int .i64 k', .int .i64 b', .int .i64 e', .slice An nn cn, .slice Ak nk ck] 27)) w.heap.size s j :=
            ⟨((HM.out.trans HM3.out).rd.alloc _).alloc _, grown_alloc (grown_alloc (HM.out.trans HM3.out).gr _) _⟩
          have hKa : L.Kids ((w3.alloc (Obj.cells #[.int .i64 k', .int .i64 b', .int .i64 e', .slice An nn cn, .slice Ak nk ck] 27)).alloc (Obj.cells #[.int .i64 k', .int .i64 b', .int .i64 e', .slice An nn cn, .slice Ak nk ck] 27)) (w.heap.size + 1) u5 none ps xs :=
            hKk.below (below_alloc (below_alloc (Below.refl _ _) _) _)
          have hown : ∀ j, u5.ownBlock = some j → w.heap.size + 1 ≤ j ∧ j < wr.heap.size := fun j hj => HK.out.own.lt j hj
          have hM5 : Mv W0 w5 w.heap.size s j := ⟨hM4.rd.grown hg5 (fun e => by have := (hown _ e.symm).1; omega), grown_new hM4.gr hg5 (fun l hl => .inr (by have := (hown l hl).1; have := HL0.out; omega))⟩
          have hP3 : PlC ((w3.alloc (Obj.cells #[.int .i64 k', .int .i64 b', .int .i64 e', .slice An nn cn, .slice Ak nk ck] 27)).alloc (Obj.cells #[.int .i64 k', .int .i64 b', .int .i64 e', .slice An nn cn, .slice Ak nk ck] 27)) (From wr.heap.size) p [.int .i64 k', .int .i64 b', .int .i64 e', .slice An nn cn, .slice Ak nk ck] :=
            (HP.out.keep (.alloc _ _ _)).keep (.alloc _ _ _)
          have HM5 := Lib.hid hM5
          have HK5 := Lib.hid (hKa.snoc hP3 (fun l hl => (hown l hl).2) (fun l hl => by cases hl) (by have := HL0.out; omega) hO5 hg5 hat5)
          clear hKk hM4 hKa hown hM5 hP3 hO5 hg5 hat5 HK HP HM3 HM HI HZ0 HZ1 HZ2 c0 c1
          have hz1 := skip_top isBlank s hj.2
          go_wp2_with (first
            | (go_at_call 42; go_must (refine (blanks w.heap.size s j _ HM5.out.rd hs2 hj.2).mono ?_); rintro e w6 ⟨rfl, hM6⟩; replace hM6 := Lib.hid hM6))
          go_roundg d
          case measure => omega
          case rel => exact ⟨j, _, ps ++ [p], _, HM5.out.trans hM6.out, rfl, hj.2, hz1, by omega, by simp; omega, HE.out, HK5.out.keep hM6.out.gr (by omega)⟩
      · have hlt2 : decide ((z : Int) < (s.size : Int)) = false := by simp; omega
        have HE := Lib.hid ((st_end (k := d) (acc := ps) (by rw [HZ.out]; exact hlt)).symm.trans HS.out)
        go_wp2
        go_meet
        case rel => exact ⟨ps, xs, HE.out.symm, HK.out, below_of_new HB0.out HM.out.gr (Nat.le_refl _)⟩
  case rest =>
    obtain ⟨ps, xs, hst, hK, hB⟩ := hcut
    obtain ⟨A5, c5, rfl, hrow⟩ := Row.of_own hK.own
    have HS := Lib.hid hst
    have HK := Lib.hid hK
    have HB := Lib.hid hB
    have HROW := Lib.hid hrow
    clear hst hK hB hrow
    go_wp2
    go_ret2
    exact ⟨HB.out, .inl ⟨ps, HS.out, A5, ps.length, c5, xs, rfl, rfl, HROW.out.mono fun j _ hj => by simp only [From] at hj ⊢; omega, HK.out.pls.mono fun j _ hj => by have := hj.1; simp only [From]; omega⟩⟩
end Go.Proofs.YtcjgneomcnholaaDoor.Jp
