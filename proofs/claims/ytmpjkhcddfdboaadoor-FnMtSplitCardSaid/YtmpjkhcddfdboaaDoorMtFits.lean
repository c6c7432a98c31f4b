/- The walk of spec.Fits. -/
import Derived.Test.YtmpjkhcddfdboaaDoorMtDp
import Derived.Test.YtmpjkhcddfdboaaDoorMtTop
import Derived.RegionTactic
import Derived.ChangeAlike
namespace Go.Proofs.YtmpjkhcddfdboaaDoor.M
open Go.Lib Go.RowKit Go.Proofs.YtmpjkhcddfdboaaDoorW.PrintWords Go.Proofs.YtmpjkhcddfdboaaDoorW.PrintLast Go.Proofs.YtmpjkhcddfdboaaDoorW.PrintMore Go.Proofs.YtmpjkhcddfdboaaDoor.PFnMtSplit
set_option linter.unusedVariables false
set_option linter.unusedSimpArgs false
def natI (l : List Nat) : List Int := l.map fun (n : Nat) => (n : Int)
theorem grown_below {w w1 : World} (h : w.grownBy w1 none) : Below w.heap.size w w1 := ⟨h.os, h.tape, h.output, h.size, fun i hi => h.block i hi (by simp)⟩
theorem blk_far {w : World} {g g' : Nat} {o : Obj} (hne : g ≠ g') (h : w.heap[g]? = some o) (j : Nat) (u : Value) : (w.setCell ⟨g', j, none⟩ u).heap[g]? = some o := (Below.heap_setCell w ⟨g', j, none⟩ u g hne).trans h
/-- A slice of bools of the call's own: block g, its elements xs. -/
def Bl (w : World) (base g cap : Nat) (xs : List Bool) : Prop := Kd.bool.R 4 w base (fun _ => True) (.slice (some ⟨g, 0, none⟩) xs.length cap) xs
theorem Bl.cell {w : World} {base g cap : Nat} {xs : List Bool} (h : Bl w base g cap xs) {i : Nat} (hi : i < xs.length) : w.cell? ⟨g, i, none⟩ = some (.bool (xs.getD i false)) ∧ w.frozen? ⟨g, i, none⟩ = false := by
  have := Kd.R_cell (enc := Value.bool) (h1 := fun _ => rfl) false h (i : Int) (by omega) (by omega)
  simpa [rdOf] using this
theorem Bl.put {w : World} {base g cap : Nat} {xs : List Bool} (h : Bl w base g cap xs) (i : Nat) (x : Bool) : Bl (w.setCell ⟨g, i, none⟩ (.bool x)) base g cap (xs.set i x) := by
  have := (Kd.R_put (enc := Value.bool) (h1 := fun _ => rfl) h (i : Int) x).1
  unfold Bl
  rw [List.length_set]
  exact this
theorem Bl.own {w : World} {base g cap : Nat} {xs : List Bool} (h : Bl w base g cap xs) : base ≤ g ∧ g < w.heap.size := ⟨Kd.R_base h g rfl, Kd.R_lt h g rfl⟩
theorem Bl.below {w w1 : World} {base g cap : Nat} {xs : List Bool} (h : Bl w base g cap xs) (hb : Below w.heap.size w w1) : Bl w1 base g cap xs := Kd.R_below h hb
theorem Bl.far {w : World} {base g cap : Nat} {xs : List Bool} (h : Bl w base g cap xs) {g' : Nat} (hne : g ≠ g') (j : Nat) (u : Value) : Bl (w.setCell ⟨g', j, none⟩ u) base g cap xs :=
  Kd.R_mono (Kd.R_far (p := ⟨g', j, none⟩) (Kd.R_tight (d := Kd.bool) rfl h) (fun k hk => by
    have : some k = some g := hk
    injection this with this
    show k ≠ g'
    omega) u) (fun _ _ => trivial)
theorem Bl.made {W w1 : World} {base n : Nat} {v : Value} {m : Int} (hm : m = ((n + 1 : Nat) : Int)) (h : Kd.bool.R 4 w1 base (fun _ => True) v (List.replicate m.toNat false)) (hn : ∃ b, v.ownBlock = some b ∧ W.heap.size ≤ b) :
    ∃ g cap, v = .slice (some ⟨g, 0, none⟩) (n + 1) cap ∧ Bl w1 base g cap (List.replicate (n + 1) false) ∧ W.heap.size ≤ g := by
  subst hm
  rw [Int.toNat_natCast] at h
  obtain ⟨g, cap, rfl, _, _, _⟩ := Kd.R_form h (by simp)
  obtain ⟨b, hb, hle⟩ := hn
  have hb2 : some g = some b := hb
  injection hb2 with hb2
  refine ⟨g, cap, by simp, h, by omega⟩
theorem Bl.drew {w : World} {base g cap : Nat} {xs : List Bool} (h : Bl w base g cap xs) : Bl w.drew base g cap xs := Kd.R_drew h
theorem chars_at {w : World} {A : Option Addr} {cs : List Nat} (h : Kd.C (Kd.int .i64) w A cs.length (natI cs)) {k : Nat} (hk : k < cs.length) : ∃ ad, A = some ad ∧ w.cell? (ad.add k) = some (.int .i64 ((cs.getD k 0 : Nat) : Int)) := by
  obtain ⟨ad, c, e, _, hK, hc⟩ := Kd.C_get h (0 : Int) (k : Int) (by omega) (by omega)
  have hK2 : c = [.int .i64 ((natI cs).getD k 0)] := hK
  refine ⟨ad, e, ?_⟩
  have := hc 0 _ (by rw [hK2]; rfl)
  simp only [Int.toNat_natCast, Nat.add_zero] at this
  have e2 : (natI cs).getD k 0 = ((cs.getD k 0 : Nat) : Int) := by
    unfold natI
    rw [List.getD_eq_getElem?_getD, List.getElem?_map, List.getD_eq_getElem?_getD, List.getElem?_eq_getElem hk]; rfl
  rw [← e2]
  simpa [Kd.int, Kd.scalar] using this
set_option maxRecDepth 100000 in
set_option maxHeartbeats 4000000 in
theorem fitsW (A0 : Option Addr) (c0 : Nat) (cs : List Nat) (A1 : Option Addr) (c1 : Nat) (ts : List Gl) (w : World) (hcs : cs.length ≤ 65536) (hts : ts.length ≤ 65536)
    (hr0 : Kd.C (Kd.int .i64) w A0 cs.length (natI cs)) (hc0 : cs.length ≤ c0) (hr1 : Kd.C k39 w A1 ts.length (ts.map gS)) (hc1 : ts.length ≤ c1) :
    Calls Tryd.prog 13 #[.slice A0 cs.length c0, .slice A1 ts.length c1] w fun e w' => e = .returned (.bool (fitB cs ts)) ∧ Below w.heap.size w w' := by
  have HR0 := Aside0.mk hr0
  have HR1 := Aside0.mk hr1
  have HB := Aside0.mk (Below.refl w.heap.size w)
  clear hr0 hr1
  have hl1 : (0 : Int) ≤ (cs.length : Int) + 1 := by omega
  have hl2 : ((cs.length : Int) + 1).toNat = cs.length + 1 := by omega
  go_enter Tryd.func13, Tryd.ntmps13
  go_wp2_with (first | ((with_reducible refine gate_dst (N := 13) rfl ?_); refine Kd.R_make Kd.bool w.heap.size 4 rfl (N := 13) rfl 40 _ _ rfl ((cs.length : Int) + 1) rfl rfl Tryd.underlying40 (.bool false) 1 info4 rfl (by decide) (by omega) false (ok := fun _ => True) (okp := fun _ => True) rfl (fun _ hk => hk) trivial (by omega) (by omega) (Below.refl _ _) (Nat.le_refl _) ?_; intro v5 w1 ho hb hg hn; obtain ⟨g5, cap5, rfl, hL5, _⟩ := Bl.made (n := cs.length) (by omega) ho hn; obtain ⟨hc5, hf5⟩ := hL5.cell (i := 0) (by simp); have HL5 := Aside0.mk hL5; have HB1 := Aside0.mk hb; clear ho hb hg hn HB hL5))
  go_loopg [5, 18] (ts.length) (fun d v5 v18 wr => ∃ j g cap : Nat, v5 = .slice (some ⟨g, 0, none⟩) (cs.length + 1) cap ∧ v18 = .int .i64 (j : Int) ∧ j ≤ ts.length ∧ ts.length - j ≤ d ∧ Bl wr w.heap.size g cap (reach cs (ts.take j)) ∧ Below w.heap.size w wr)
  case atStart =>
    exact ⟨0, g5, cap5, rfl, rfl, by omega, by omega, by rw [List.take_zero, ← reach_start]; exact HL5.out.put 0 true, HB1.out.setCell HL5.out.own.1 _⟩
  case round =>
    clear hc5 hf5 HL5 HB1
    obtain ⟨j, g, cap, rfl, rfl, hj, hd, hL, hB⟩ := hrel
    have HD := Aside0.mk hd
    have HL := Aside0.mk hL
    have HB := Aside0.mk hB
    clear hd hL hB
    obtain ⟨G, rfl⟩ : ∃ G, G = gk := ⟨_, rfl⟩
    by_cases hlt : j < ts.length
    · obtain ⟨ad, rfl, x0, x1, x2⟩ := at_T39 (xs := ts.map gS) (by simpa using HR1.out) (j : Int) (by omega) (by simpa using hlt)
      replace x0 := (HB.out.cell (World.block_lt_of_cell? w _ x0)).trans x0
      replace x1 := (HB.out.cell (World.block_lt_of_cell? w _ x1)).trans x1
      replace x2 := (HB.out.cell (World.block_lt_of_cell? w _ x2)).trans x2
      obtain ⟨t, ht⟩ : ∃ t, ts[j] = t := ⟨_, rfl⟩
      have hrd : rd_T39 (ts.map gS) (j : Int) = gS t := by
        unfold rd_T39
        rw [Int.toNat_natCast, List.getD_eq_getElem?_getD, List.getElem?_map, List.getElem?_eq_getElem hlt, ht]
        rfl
      rw [hrd, Int.toNat_natCast] at x0 x1 x2
      obtain ⟨f0, f1, f2, hf⟩ : ∃ f0 f1 f2, gS t = ⟨f0, f1, f2⟩ := ⟨_, _, _, rfl⟩
      rw [hf] at x0 x1 x2
      have HF := Aside0.mk hf
      clear hf
      have HT := Aside0.mk ht
      clear ht hrd
      go_wp2_with (first | ((with_reducible refine gate_dst (N := 25) rfl ?_); refine Kd.R_make Kd.bool (w0 := w) w.heap.size 4 rfl (N := 25) rfl 40 _ _ rfl ((cs.length : Int) + 1) rfl rfl Tryd.underlying40 (.bool false) 1 info4 rfl (by decide) (by omega) false (ok := fun _ => True) (okp := fun _ => True) rfl (fun _ hk => hk) trivial (by omega) (by omega) (Go.Proofs.YtmpjkhcddfdboaaDoorW.PrintWords.below_alloc HB.out _) (Nat.le_trans HB.out.size (by simp)) ?_; intro v8 w2 ho hb hg hn; obtain ⟨g8, cap8, rfl, hL8, hle8⟩ := Bl.made (n := cs.length) (by omega) ho hn; have HL8 := Aside0.mk hL8; have HB2 := Aside0.mk hb; have HG8 := Aside0.mk hg; have HLE8 := Aside0.mk hle8; clear ho hb hg hn hL8 hle8))
      have hBX : w2.heap[wr.heap.size]? = some (.cells #[.bool f0, .bool f1, .int .i64 f2] 39 (0, 0)) := (grown_below HG8.out).block _ (by simp) |>.trans (blk_new wr _)
      have hL2 : Bl w2 w.heap.size g cap (reach cs (ts.take j)) := (HL.out.below (below_alloc (Below.refl _ _) _)).below (grown_below HG8.out)
      have hne1 : g ≠ g8 := by have h1 := HLE8.out; have h2 := HL.out.own; simp at h1; omega
      have hne2 : wr.heap.size ≠ g8 := by have h1 := HLE8.out; simp at h1; omega
      have HBX := Aside0.mk hBX
      have HL2 := Aside0.mk hL2
      have HNE1 := Aside0.mk hne1
      have HNE2 := Aside0.mk hne2
      clear hBX hL2 hne1 hne2 x0 x1 x2
      go_loopg [9] (cs.length + 1) (fun d v9 wq => ∃ k : Nat, v9 = .int .i64 (k : Int) ∧ k ≤ cs.length + 1 ∧ cs.length + 1 - k ≤ d ∧ Bl wq w.heap.size g cap (reach cs (ts.take j)) ∧ Bl wq w.heap.size g8 cap8 (upTo cs (ts.take j ++ [t]) k) ∧ wq.heap[wr.heap.size]? = some (.cells #[.bool f0, .bool f1, .int .i64 f2] 39 (0, 0)) ∧ Below w.heap.size w wq)
      case atStart => exact ⟨0, rfl, by omega, by omega, HL2.out, by rw [upTo_zero]; exact HL8.out, HBX.out, HB2.out⟩
      case round =>
        clear HL2 HL8 HBX HB2
        obtain ⟨k, rfl, hk, hd2, hL2, hL8, hBX, hB2⟩ := hrel
        have HD2 := Aside0.mk hd2
        have HL2 := Aside0.mk hL2
        have HL8 := Aside0.mk hL8
        have HBX := Aside0.mk hBX
        have HB2 := Aside0.mk hB2
        clear hd2 hL2 hL8 hBX hB2
        have b0 := blk_cell HBX.out 0
        have b1 := blk_cell HBX.out 1
        have b2 := blk_cell HBX.out 2
        by_cases hkl : k ≤ cs.length
        · have hrk := HL2.out.cell (i := k) (by rw [reach_len]; omega)
          rw [reach_at cs _ hkl] at hrk
          obtain ⟨hnk1, hnk2⟩ := HL8.out.cell (i := k) (by rw [upTo_len]; omega)
          obtain ⟨o, ho⟩ : ∃ o, (upTo cs (ts.take j ++ [t]) k).getD k false = o := ⟨_, rfl⟩
          rw [ho] at hnk1
          clear ho
          obtain ⟨hrk1, hrk2⟩ := hrk
          cases t with
          | star =>
            obtain ⟨rfl, rfl, rfl⟩ : f0 = true ∧ f1 = false ∧ f2 = 0 := by have := HF.out; simp [gS] at this; simp [this]
            obtain ⟨r, hr⟩ : ∃ r, fitB (cs.take k) (ts.take j) = r := ⟨_, rfl⟩
            rw [hr] at hrk1
            cases k with
            | zero =>
              have HV := Aside0.mk (show r = fitB (cs.take 0) (ts.take j ++ [.star]) by rw [dp_star0, hr])
              clear hr
              cases r
              all_goals
                go_wp2
                go_roundg (gk - 1)
                case measure => have := HD2.out; omega
                case rel => exact ⟨0 + 1, by go_num, by omega, by have := HD2.out; omega, HL2.out.far HNE1.out _ _, by rw [← upTo_set cs _ hkl (b := _) HV.out]; exact HL8.out.put _ _, blk_far HNE2.out HBX.out _ _, HB2.out.setCell HL8.out.own.1 _⟩
            | succ k =>
              have hpk := (HL8.out.cell (i := k) (by rw [upTo_len]; omega)).1
              rw [upTo_at cs _ (by omega) (by omega)] at hpk
              obtain ⟨b, hb⟩ : ∃ b, fitB (cs.take k) (ts.take j ++ [.star]) = b := ⟨_, rfl⟩
              rw [hb] at hpk
              have hv : fitB (cs.take (k + 1)) (ts.take j ++ [.star]) = (r || b) := by rw [dp_star cs _ (by omega), hr, hb]
              clear hr hb
              have e1 : ((k + 1 : Nat) : Int) - 1 = (k : Int) := by omega
              cases r
              · have HV := Aside0.mk (show b = fitB (cs.take (k + 1)) (ts.take j ++ [.star]) by rw [hv]; rfl)
                clear hv
                go_wp2
                go_roundg (gk - 1)
                case measure => have := HD2.out; omega
                case rel => exact ⟨k + 1 + 1, by go_num, by omega, by have := HD2.out; omega, HL2.out.far HNE1.out _ _, by rw [← upTo_set cs _ hkl (b := _) HV.out]; exact HL8.out.put _ _, blk_far HNE2.out HBX.out _ _, HB2.out.setCell HL8.out.own.1 _⟩
              · have HV := Aside0.mk (show true = fitB (cs.take (k + 1)) (ts.take j ++ [.star]) by rw [hv]; rfl)
                clear hv
                go_wp2
                go_roundg (gk - 1)
                case measure => have := HD2.out; omega
                case rel => exact ⟨k + 1 + 1, by go_num, by omega, by have := HD2.out; omega, HL2.out.far HNE1.out _ _, by rw [← upTo_set cs _ hkl (b := _) HV.out]; exact HL8.out.put _ _, blk_far HNE2.out HBX.out _ _, HB2.out.setCell HL8.out.own.1 _⟩
          | one =>
            obtain ⟨rfl, rfl, rfl⟩ : f0 = false ∧ f1 = true ∧ f2 = 0 := by have := HF.out; simp [gS] at this; simp [this]
            cases k with
            | zero =>
              have HV := Aside0.mk (show fitB (cs.take 0) (ts.take j ++ [.one]) = false from dp_one0 cs _)
              go_wp2
              go_roundg (gk - 1)
              case measure => have := HD2.out; omega
              case rel => exact ⟨0 + 1, by go_num, by omega, by have := HD2.out; omega, HL2.out, by rw [← upTo_skip cs _ hkl HV.out]; exact HL8.out, HBX.out, HB2.out⟩
            | succ k =>
              have hpk := (HL2.out.cell (i := k) (by rw [reach_len]; omega)).1
              rw [reach_at cs _ (by omega)] at hpk
              obtain ⟨b, hb⟩ : ∃ b, fitB (cs.take k) (ts.take j) = b := ⟨_, rfl⟩
              rw [hb] at hpk
              have e1 : ((k + 1 : Nat) : Int) - 1 = (k : Int) := by omega
              have hv : fitB (cs.take (k + 1)) (ts.take j ++ [.one]) = b := by rw [dp_one cs _ (by omega), hb]
              clear hb
              cases b
              · have HV := Aside0.mk hv
                clear hv
                go_wp2
                go_roundg (gk - 1)
                case measure => have := HD2.out; omega
                case rel => exact ⟨k + 1 + 1, by go_num, by omega, by have := HD2.out; omega, HL2.out, by rw [← upTo_skip cs _ hkl HV.out]; exact HL8.out, HBX.out, HB2.out⟩
              · have HV := Aside0.mk hv.symm
                clear hv
                go_wp2
                go_region
                all_goals
                  go_wp2
                  go_roundg (gk - 1)
                  case measure => have := HD2.out; omega
                  case rel => exact ⟨k + 1 + 1, by go_num, by omega, by have := HD2.out; omega, (HL2.out.far HNE1.out _ _).drew, by rw [← upTo_set cs _ hkl (b := _) HV.out]; exact (HL8.out.put _ _).drew, blk_drew (blk_far HNE2.out HBX.out _ _), below_drew (HB2.out.setCell HL8.out.own.1 _)⟩
          | chr x =>
            obtain ⟨rfl, rfl, rfl⟩ : f0 = false ∧ f1 = false ∧ f2 = (x : Int) := by have := HF.out; simp [gS] at this; simp [this]
            cases k with
            | zero =>
              have HV := Aside0.mk (show fitB (cs.take 0) (ts.take j ++ [.chr x]) = false from dp_chr0 cs _ x)
              go_wp2
              go_roundg (gk - 1)
              case measure => have := HD2.out; omega
              case rel => exact ⟨0 + 1, by go_num, by omega, by have := HD2.out; omega, HL2.out, by rw [← upTo_skip cs _ hkl HV.out]; exact HL8.out, HBX.out, HB2.out⟩
            | succ k =>
              have hpk := (HL2.out.cell (i := k) (by rw [reach_len]; omega)).1
              rw [reach_at cs _ (by omega)] at hpk
              obtain ⟨b, hb⟩ : ∃ b, fitB (cs.take k) (ts.take j) = b := ⟨_, rfl⟩
              rw [hb] at hpk
              have e1 : ((k + 1 : Nat) : Int) - 1 = (k : Int) := by omega
              have hv : fitB (cs.take (k + 1)) (ts.take j ++ [.chr x]) = (b && decide (x = cs.getD k 0)) := by rw [dp_chr cs _ x (by omega), hb]
              clear hb
              cases b
              · have HV := Aside0.mk (hv.trans (by rfl))
                clear hv
                go_wp2
                go_roundg (gk - 1)
                case measure => have := HD2.out; omega
                case rel => exact ⟨k + 1 + 1, by go_num, by omega, by have := HD2.out; omega, HL2.out, by rw [← upTo_skip cs _ hkl HV.out]; exact HL8.out, HBX.out, HB2.out⟩
              · obtain ⟨a0, hA0, hcc⟩ := chars_at HR0.out (show k < cs.length by omega)
                subst hA0
                replace hcc := (HB2.out.cell (World.block_lt_of_cell? w _ hcc)).trans hcc
                by_cases hx : x = cs.getD k 0
                · have hq : ((x : Int) == ((cs.getD k 0 : Nat) : Int)) = true := beq_yes hx
                  have HV := Aside0.mk (show true = fitB (cs.take (k + 1)) (ts.take j ++ [.chr x]) by rw [hv, decide_eq_true hx]; rfl)
                  clear hv hx
                  obtain ⟨y, hy⟩ : ∃ y, cs.getD k 0 = y := ⟨_, rfl⟩
                  rw [hy] at hcc hq
                  clear hy
                  go_wp2
                  go_region
                  all_goals
                    go_wp2
                    go_roundg (gk - 1)
                    case measure => have := HD2.out; omega
                    case rel => exact ⟨k + 1 + 1, by go_num, by omega, by have := HD2.out; omega, (HL2.out.far HNE1.out _ _).drew, by rw [← upTo_set cs _ hkl (b := _) HV.out]; exact (HL8.out.put _ _).drew, blk_drew (blk_far HNE2.out HBX.out _ _), below_drew (HB2.out.setCell HL8.out.own.1 _)⟩
                · have hq : ((x : Int) == ((cs.getD k 0 : Nat) : Int)) = false := beq_no hx
                  have HV := Aside0.mk (show false = fitB (cs.take (k + 1)) (ts.take j ++ [.chr x]) by rw [hv, decide_eq_false hx]; rfl)
                  clear hv hx
                  obtain ⟨y, hy⟩ : ∃ y, cs.getD k 0 = y := ⟨_, rfl⟩
                  rw [hy] at hcc hq
                  clear hy
                  go_wp2
                  go_region
                  all_goals
                    go_wp2
                    go_roundg (gk - 1)
                    case measure => have := HD2.out; omega
                    case rel => exact ⟨k + 1 + 1, by go_num, by omega, by have := HD2.out; omega, (HL2.out.far HNE1.out _ _).drew, by rw [← upTo_set cs _ hkl (b := _) HV.out]; exact (HL8.out.put _ _).drew, blk_drew (blk_far HNE2.out HBX.out _ _), below_drew (HB2.out.setCell HL8.out.own.1 _)⟩
        · obtain rfl : k = cs.length + 1 := by omega
          go_wp2
          go_roundg (G - 1)
          case measure => have := HD.out; omega
          case rel => exact ⟨j + 1, g8, cap8, rfl, by go_num, by omega, by have := HD.out; omega, by
            rw [List.take_succ_eq_append_getElem hlt, HT.out, ← upTo_all]; exact HL8.out, HB2.out⟩
    · obtain rfl : j = ts.length := by omega
      obtain ⟨hcl, _⟩ := HL.out.cell (i := cs.length) (by rw [reach_len]; omega)
      have hv : (reach cs (ts.take ts.length)).getD cs.length false = fitB cs ts := by rw [reach_end, List.take_length]
      rw [hv] at hcl
      clear hv
      go_wp2
      go_ret
      exact ⟨rfl, HB.out⟩
end Go.Proofs.YtmpjkhcddfdboaaDoor.M
