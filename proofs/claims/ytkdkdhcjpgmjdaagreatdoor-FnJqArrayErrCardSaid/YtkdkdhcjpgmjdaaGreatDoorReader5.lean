/- The walks of spec's reader, fifth part: value, Places. -/
import Derived.Test.YtkdkdhcjpgmjdaaGreatDoorReader4
import Derived.Deep.CutBlock
namespace Go.Proofs.YtkdkdhcjpgmjdaaGreatDoor.L
open Go.RowKit
set_option linter.unusedVariables false
set_option linter.unusedSimpArgs false

/-- Block b holds just these five cells (a Place in memory). -/
def B5 (w : World) (b : Nat) (v0 v1 v2 v3 v4 : Value) : Prop := w.heap[b]? = some (.cells #[v0, v1, v2, v3, v4] 27 (0, 0))
section
variable {w w' : World} {b : Nat} {v0 v1 v2 v3 v4 : Value}
theorem B5.lt (h : B5 w b v0 v1 v2 v3 v4) : b < w.heap.size := (Array.getElem?_eq_some_iff.1 h).1
theorem B5.c0 (h : B5 w b v0 v1 v2 v3 v4) : w.cell? ⟨b, 0, none⟩ = some v0 := cell_of_row w b 0 _ _ _ h
theorem B5.c1 (h : B5 w b v0 v1 v2 v3 v4) : w.cell? ⟨b, 1, none⟩ = some v1 := cell_of_row w b 1 _ _ _ h
theorem B5.c2 (h : B5 w b v0 v1 v2 v3 v4) : w.cell? ⟨b, 2, none⟩ = some v2 := cell_of_row w b 2 _ _ _ h
theorem B5.c3 (h : B5 w b v0 v1 v2 v3 v4) : w.cell? ⟨b, 3, none⟩ = some v3 := cell_of_row w b 3 _ _ _ h
theorem B5.c4 (h : B5 w b v0 v1 v2 v3 v4) : w.cell? ⟨b, 4, none⟩ = some v4 := cell_of_row w b 4 _ _ _ h
theorem B5.f (h : B5 w b v0 v1 v2 v3 v4) (j : Nat) : w.frozen? ⟨b, j, none⟩ = false := by unfold B5 at h; simp [World.frozen?, h]
theorem B5.drewN (h : B5 w b v0 v1 v2 v3 v4) (n : Nat) : B5 (w.drewN n) b v0 v1 v2 v3 v4 := h
theorem B5.alloc (h : B5 w b v0 v1 v2 v3 v4) (o : Obj) : B5 (w.alloc o) b v0 v1 v2 v3 v4 := (Below.heap_alloc w o b h.lt).trans h
theorem B5.new (w : World) (v0 v1 v2 v3 v4 : Value) : B5 (w.alloc (.cells #[v0, v1, v2, v3, v4] 27)) w.heap.size v0 v1 v2 v3 v4 := heap_alloc_new w _
theorem B5.far (h : B5 w b v0 v1 v2 v3 v4) {p : Addr} (hp : b ≠ p.block) (u : Value) : B5 (w.setCell p u) b v0 v1 v2 v3 v4 := (Below.heap_setCell w p u b hp).trans h
theorem B5.grown {row : Option Nat} (h : B5 w b v0 v1 v2 v3 v4) (hb : w.grownBy w' row) (hg : some b ≠ row) : B5 w' b v0 v1 v2 v3 v4 := (hb.block b h.lt hg).trans h
theorem B5.set0 (h : B5 w b v0 v1 v2 v3 v4) (u : Value) : B5 (w.setCell ⟨b, 0, none⟩ u) b u v1 v2 v3 v4 := by
  unfold B5 at h ⊢; simp [World.setCell, Array.getElem?_modify, h]
theorem B5.set2 (h : B5 w b v0 v1 v2 v3 v4) (u : Value) : B5 (w.setCell ⟨b, 2, none⟩ u) b v0 v1 u v3 v4 := by
  unfold B5 at h ⊢; simp [World.setCell, Array.getElem?_modify, h]
theorem B5.set3 (h : B5 w b v0 v1 v2 v3 v4) (u : Value) : B5 (w.setCell ⟨b, 3, none⟩ u) b v0 v1 v2 u v4 := by
  unfold B5 at h ⊢; simp [World.setCell, Array.getElem?_modify, h]
theorem B5.set4 (h : B5 w b v0 v1 v2 v3 v4) (u : Value) : B5 (w.setCell ⟨b, 4, none⟩ u) b v0 v1 v2 v3 u := by
  unfold B5 at h ⊢; simp [World.setCell, Array.getElem?_modify, h]
end

/-- What the switch of value leaves: the reader's place, whether there was a value, the place's cells. -/
def Sw (w : World) (g : Nat) (s : ByteArray) (i : Nat) (r : Option (Nat × Pl)) (ok : Bool) (wc : World) : Prop :=
  ∃ (j : Nat) (k : Int) (An : Option Addr) (nn cn : Nat) (Ak : Option Addr) (nk ck : Nat), j ≤ s.size ∧ Mv w wc g s j ∧
    B5 wc (w.heap.size + 1) (.int .i64 k) (.int .i64 (i : Int)) (.int .i64 0) (.slice An nn cn) (.slice Ak nk ck) ∧
    B5 wc w.heap.size (.int .i64 0) (.int .i64 0) (.int .i64 0) (.slice none 0 0) (.slice none 0 0) ∧ ok = r.isSome ∧
    (∀ l p, r = some (l, p) → j = l ∧ PlC wc (From (w.heap.size + 2)) p [.int .i64 k, .int .i64 (i : Int), .int .i64 (j : Int), .slice An nn cn, .slice Ak nk ck])

theorem word_yes (g : Nat) (s : ByteArray) (i : Nat) (t : ByteArray) (w : World) (h : RdS w g s i) (hs : s.size ≤ 140737488351232) (hi : i ≤ s.size) (ht : t.size ≤ 1000) (hw : wordAt s i t = true) :
    Calls Tryz.prog 62 #[rp g, .string t] w fun e w' => e = .returned (.bool true) ∧ Mv w w' g s (i + t.size) := by
  have := word g s i t w h hs hi ht
  rw [hw, if_pos rfl] at this
  exact this
theorem word_no (g : Nat) (s : ByteArray) (i : Nat) (t : ByteArray) (w : World) (h : RdS w g s i) (hs : s.size ≤ 140737488351232) (hi : i ≤ s.size) (ht : t.size ≤ 1000) (hw : wordAt s i t = false) :
    Calls Tryz.prog 62 #[rp g, .string t] w fun e w' => e = .returned (.bool false) ∧ Mv w w' g s i := by
  have := word g s i t w h hs hi ht
  rw [hw, if_neg (by simp)] at this
  exact this
theorem wordEnd {w W0 w1 : World} {g : Nat} {s : ByteArray} {i z : Nat} {r : Option (Nat × Pl)} (k : Nat) (hM0 : Mv w W0 g s i) (hM1 : Mv W0 w1 g s (i + z)) (hP : B5 w1 (w.heap.size + 1) (.int .i64 0) (.int .i64 (i : Int)) (.int .i64 0) (.slice none 0 0) (.slice none 0 0))
    (hR : B5 w1 w.heap.size (.int .i64 0) (.int .i64 0) (.int .i64 0) (.slice none 0 0) (.slice none 0 0)) (hg : w.heap.size + 1 ≠ g) (hi : i ≤ s.size) (hr : r = some (i + z, .mk k i (i + z) [] [])) (hz : i + z ≤ s.size) (hk : True) :
    ∃ ok, Value.bool true = .bool ok ∧ Sw w g s i r ok (w1.setCell ⟨w.heap.size + 1, 0, none⟩ (.int .i64 (k : Int))) := by
  have hMv := hM0.trans hM1
  refine ⟨true, rfl, i + z, k, none, 0, 0, none, 0, 0, hz, ⟨hMv.rd.far (by simpa using hg) _, grown_set hMv.gr (.inr (by simp)) _⟩, hP.set0 _, hR.far (by simp) _, by rw [hr]; rfl, fun l p h => ?_⟩
  rw [hr] at h
  simp only [Option.some.injEq, Prod.mk.injEq] at h
  obtain ⟨rfl, rfl⟩ := h
  refine ⟨rfl, ?_⟩
  simp only [PlC]
  exact ⟨none, 0, none, 0, [], rfl, Row.nil _ _ _, Row.nil _ _ _, by simp [PlsC]⟩

set_option maxRecDepth 100000 in
set_option maxHeartbeats 8000000 in
theorem value_succ {s : ByteArray} {n : Nat} (hs : s.size ≤ 2147483648) (hv : ValC s n) : ValC s (n + 1) := by
  intro g i w h hi hn
  have HV := Lib.hid hv
  have hgw := h.lt
  have hs2 : s.size ≤ 140737488351232 := by omega
  have c1 := h.c1
  have HM := Lib.hid (Mv.refl h)
  clear h hv
  go_enter Tryz.func41, Tryz.ntmps41
  go_upto_block 0 with (first
    | (go_at_call 57; go_must (refine (here g s i _ ((HM.out.rd.alloc _).alloc _) hs2).mono ?_); rintro e w1 ⟨rfl, n1, rfl⟩))
  have hM0 : Mv w (((w.alloc (Obj.cells #[.int .i64 0, .int .i64 0, .int .i64 0, .slice none 0 0, .slice none 0 0] 27)).alloc (Obj.cells #[.int .i64 0, .int .i64 (i : Int), .int .i64 0, .slice none 0 0, .slice none 0 0] 27)).drewN n1) g s i :=
    ⟨(HM.out.rd.alloc _).alloc _, grown_drewN (grown_alloc (grown_alloc HM.out.gr _) _) _⟩
  have hR0 : B5 (((w.alloc (Obj.cells #[.int .i64 0, .int .i64 0, .int .i64 0, .slice none 0 0, .slice none 0 0] 27)).alloc (Obj.cells #[.int .i64 0, .int .i64 (i : Int), .int .i64 0, .slice none 0 0, .slice none 0 0] 27)).drewN n1) w.heap.size (.int .i64 0) (.int .i64 0) (.int .i64 0) (.slice none 0 0) (.slice none 0 0) :=
    ((B5.new w _ _ _ _ _).alloc _).drewN _
  have hP0 : B5 (((w.alloc (Obj.cells #[.int .i64 0, .int .i64 0, .int .i64 0, .slice none 0 0, .slice none 0 0] 27)).alloc (Obj.cells #[.int .i64 0, .int .i64 (i : Int), .int .i64 0, .slice none 0 0, .slice none 0 0] 27)).drewN n1) (w.heap.size + 1) (.int .i64 0) (.int .i64 (i : Int)) (.int .i64 0) (.slice none 0 0) (.slice none 0 0) := by
    have := (B5.new (w.alloc (Obj.cells #[.int .i64 0, .int .i64 0, .int .i64 0, .slice none 0 0, .slice none 0 0] 27)) (.int .i64 0) (.int .i64 (i : Int)) (.int .i64 0) (.slice none 0 0) (.slice none 0 0)).drewN n1
    simpa using this
  have hz0 : (((w.alloc (Obj.cells #[.int .i64 0, .int .i64 0, .int .i64 0, .slice none 0 0, .slice none 0 0] 27)).alloc (Obj.cells #[.int .i64 0, .int .i64 (i : Int), .int .i64 0, .slice none 0 0, .slice none 0 0] 27)).drewN n1).heap.size = w.heap.size + 2 := by simp
  generalize ((w.alloc (Obj.cells #[.int .i64 0, .int .i64 0, .int .i64 0, .slice none 0 0, .slice none 0 0] 27)).alloc (Obj.cells #[.int .i64 0, .int .i64 (i : Int), .int .i64 0, .slice none 0 0, .slice none 0 0] 27)).drewN n1 = W0 at *
  have HM0 := Lib.hid hM0
  have HR0 := Lib.hid hR0
  have HP0 := Lib.hid hP0
  have HZ0 := Lib.hid hz0
  clear hM0 hR0 hP0 hz0 HM c1
  have p0 := HP0.out.c0
  have p3 := HP0.out.c3
  have p4 := HP0.out.c4
  have f0 := HP0.out.f 0
  have f3 := HP0.out.f 3
  have f4 := HP0.out.f 4
  have hgp : w.heap.size + 1 ≠ g := by omega
  have hgr : w.heap.size ≠ g := by omega
  go_cut [5, 6] (fun v5 v6 wc => ∃ ok, v5 = .bool ok ∧ Sw w g s i (valN s (n + 1) i) ok wc)
  case first =>
    have hr := bt_range s i
    by_cases a1 : bt s i = 123
    · have hlt : i < s.size := lt_of_bt (by omega)
      have HE := Lib.hid (show valN s (n + 1) i = (membsAt (valN s n) s i).map fun x => (x.1, .mk 6 i x.1 x.2.1 x.2.2) by simp only [valN]; rw [if_pos a1])
      rw [a1]
      clear a1 hr
      go_wp2_with (first
        | (go_at_call 58; go_must (refine (members hs HV.out g i _ (HM0.out.rd.far hgp _) hlt (by omega)).mono ?_); rintro e w1 ⟨j, An, nn, cn, Ak, nk, ck, hj, hM1, rfl, hp1⟩
           have HM1 := Lib.hid hM1
           have HQ1 := Lib.hid hp1
           have HP1 := Lib.hid ((HP0.out.set0 (.int .i64 6)).grown hM1.gr (by simp; omega))
           have HR1 := Lib.hid ((HR0.out.far (p := ⟨w.heap.size + 1, 0, none⟩) (by simp) (.int .i64 6)).grown hM1.gr (by simp; omega))
           clear hM1 hp1 p0 p3 p4 f0 f3 f4
           have p3 := HP1.out.c3
           have p4 := HP1.out.c4
           have f3 := HP1.out.f 3
           have f4 := HP1.out.f 4))
      go_meet
      case rel =>
        have hgm : w.grownBy (W0.setCell ⟨w.heap.size + 1, 0, none⟩ (.int .i64 6)) (some g) := grown_set HM0.out.gr (.inr (by simp)) _
        have hMv : Mv w w1 g s j := ⟨HM1.out.rd, grown_trans hgm HM1.out.gr⟩
        refine ⟨_, rfl, j, 6, An, nn, cn, Ak, nk, ck, hj, ⟨(hMv.rd.far (by simpa using hgp) _).far (by simpa using hgp) _, grown_set (grown_set hMv.gr (.inr (by simp)) _) (.inr (by simp)) _⟩, (HP1.out.set3 _).set4 _, (HR1.out.far (by simp) _).far (by simp) _, ?_, ?_⟩
        · rw [HE.out]; cases membsAt (valN s n) s i <;> rfl
        · intro l p hlp
          rw [HE.out] at hlp
          simp only [Option.map_eq_some_iff, Prod.mk.injEq] at hlp
          obtain ⟨⟨l', ns, ps⟩, hm, rfl, rfl⟩ := hlp
          obtain ⟨rfl, rfl, rfl, hrn, xs, hrk, hps⟩ := HQ1.out _ _ _ hm
          have hsz : (W0.setCell ⟨w.heap.size + 1, 0, none⟩ (.int .i64 6)).heap.size = w.heap.size + 2 := by simpa [World.setCell] using HZ0.out
          rw [hsz] at hrn hrk hps
          have hk : Keeps (From (w.heap.size + 2)) w1 ((w1.setCell ⟨w.heap.size + 1, 3, none⟩ (.slice An ns.length cn)).setCell ⟨w.heap.size + 1, 4, none⟩ (.slice Ak ps.length ck)) := by
            refine ⟨by simp [World.setCell], fun t ht _ => ?_⟩
            simp only [From] at ht
            rw [Below.heap_setCell _ _ _ t (by simp; omega), Below.heap_setCell _ _ _ t (by simp; omega)]
          refine ⟨rfl, ?_⟩
          simp only [PlC]
          exact ⟨An, cn, Ak, ck, xs, rfl, hrn.keep hk, hrk.keep hk, hps.keep hk⟩
    · by_cases a2 : bt s i = 91
      · have hlt : i < s.size := lt_of_bt (by omega)
        have HE := Lib.hid (show valN s (n + 1) i = (elemsAt (valN s n) s i).map fun x => (x.1, .mk 5 i x.1 [] x.2) by simp only [valN]; rw [if_neg a1, if_pos a2])
        clear a1
        rw [a2]
        clear a2 hr
        go_wp2_with (first
          | (go_at_call 59; go_must (refine (elements hs HV.out g i _ (HM0.out.rd.far hgp _) hlt (by omega)).mono ?_); rintro e w1 ⟨j, Ak, nk, ck, hj, hM1, rfl, hp1⟩
             have HM1 := Lib.hid hM1
             have HQ1 := Lib.hid hp1
             have HP1 := Lib.hid ((HP0.out.set0 (.int .i64 5)).grown hM1.gr (by simp; omega))
             have HR1 := Lib.hid ((HR0.out.far (p := ⟨w.heap.size + 1, 0, none⟩) (by simp) (.int .i64 5)).grown hM1.gr (by simp; omega))
             clear hM1 hp1 p0 p3 p4 f0 f3 f4
             have p4 := HP1.out.c4
             have f4 := HP1.out.f 4))
        go_meet
        case rel =>
          have hgm : w.grownBy (W0.setCell ⟨w.heap.size + 1, 0, none⟩ (.int .i64 5)) (some g) := grown_set HM0.out.gr (.inr (by simp)) _
          have hMv : Mv w w1 g s j := ⟨HM1.out.rd, grown_trans hgm HM1.out.gr⟩
          refine ⟨_, rfl, j, 5, none, 0, 0, Ak, nk, ck, hj, ⟨hMv.rd.far (by simpa using hgp) _, grown_set hMv.gr (.inr (by simp)) _⟩, HP1.out.set4 _, HR1.out.far (by simp) _, ?_, ?_⟩
          · rw [HE.out]; cases elemsAt (valN s n) s i <;> rfl
          · intro l p hlp
            rw [HE.out] at hlp
            simp only [Option.map_eq_some_iff, Prod.mk.injEq] at hlp
            obtain ⟨⟨l', ps⟩, hm, rfl, rfl⟩ := hlp
            obtain ⟨rfl, rfl, xs, hrk, hps⟩ := HQ1.out _ _ hm
            have hsz : (W0.setCell ⟨w.heap.size + 1, 0, none⟩ (.int .i64 5)).heap.size = w.heap.size + 2 := by simpa [World.setCell] using HZ0.out
            rw [hsz] at hrk hps
            have hk : Keeps (From (w.heap.size + 2)) w1 (w1.setCell ⟨w.heap.size + 1, 4, none⟩ (.slice Ak ps.length ck)) := by
              refine ⟨by simp [World.setCell], fun t ht _ => ?_⟩
              simp only [From] at ht
              rw [Below.heap_setCell _ _ _ t (by simp; omega)]
            refine ⟨rfl, ?_⟩
            simp only [PlC]
            exact ⟨none, 0, Ak, ck, xs, rfl, Row.nil _ _ _, hrk.keep hk, hps.keep hk⟩
      · by_cases a3 : bt s i = 34
        · have hlt : i < s.size := lt_of_bt (by omega)
          have HE := Lib.hid (show valN s (n + 1) i = (strAt s i).map fun j => (j, .mk 4 i j [] []) by simp only [valN]; rw [if_neg a1, if_neg a2, if_pos a3])
          clear a1 a2
          rw [a3]
          clear a3 hr
          go_wp2_with (first
            | (go_at_call 60; go_must (refine (quoted g s i _ (HM0.out.rd.far hgp _) hs2 hlt).mono ?_); rintro e w1 ⟨j, hj, hM1, rfl, hp1⟩
               have HM1 := Lib.hid hM1
               have HQ1 := Lib.hid hp1
               have HP1 := Lib.hid ((HP0.out.set0 (.int .i64 4)).grown hM1.gr (by simp; omega))
               have HR1 := Lib.hid ((HR0.out.far (p := ⟨w.heap.size + 1, 0, none⟩) (by simp) (.int .i64 4)).grown hM1.gr (by simp; omega))
               clear hM1 hp1 p0 p3 p4 f0 f3 f4))
          go_meet
          case rel =>
            have hgm : w.grownBy (W0.setCell ⟨w.heap.size + 1, 0, none⟩ (.int .i64 4)) (some g) := grown_set HM0.out.gr (.inr (by simp)) _
            have hMv : Mv w w1 g s j := ⟨HM1.out.rd, grown_trans hgm HM1.out.gr⟩
            refine ⟨_, rfl, j, 4, none, 0, 0, none, 0, 0, hj, hMv, HP1.out, HR1.out, ?_, ?_⟩
            · rw [HE.out]; cases strAt s i <;> rfl
            · intro l p hlp
              rw [HE.out] at hlp
              simp only [Option.map_eq_some_iff, Prod.mk.injEq] at hlp
              obtain ⟨l', hm, rfl, rfl⟩ := hlp
              have := HQ1.out _ hm
              subst this
              refine ⟨rfl, ?_⟩
              simp only [PlC]
              exact ⟨none, 0, none, 0, [], rfl, Row.nil _ _ _, Row.nil _ _ _, by simp [PlsC]⟩
        · by_cases a4 : bt s i = 45 ∨ (48 ≤ bt s i ∧ bt s i ≤ 57)
          · have hlt : i < s.size := lt_of_bt (by omega)
            have HE := Lib.hid (show valN s (n + 1) i = (numAt s i).map fun j => (j, .mk 3 i j [] []) by simp only [valN]; rw [if_neg a1, if_neg a2, if_neg a3, if_pos a4])
            obtain ⟨c, hc⟩ : ∃ c, bt s i = c := ⟨_, rfl⟩
            rw [hc] at a1 a2 a3 a4 hr ⊢
            clear hc
            have ho : c = 45 ∨ (¬ c = 45 ∧ 48 ≤ c ∧ c ≤ 57) := by omega
            clear a4
            rcases ho with rfl | ⟨b1, b2, b3⟩
            all_goals
              go_wp2_with (first
                | (go_at_call 61; go_must (refine (number g s i _ (HM0.out.rd.far hgp _) hs2 hi).mono ?_); rintro e w1 ⟨j, hj, hM1, rfl, hp1⟩
                   have HM1 := Lib.hid hM1
                   have HQ1 := Lib.hid hp1
                   have HP1 := Lib.hid ((HP0.out.set0 (.int .i64 3)).grown hM1.gr (by simp; omega))
                   have HR1 := Lib.hid ((HR0.out.far (p := ⟨w.heap.size + 1, 0, none⟩) (by simp) (.int .i64 3)).grown hM1.gr (by simp; omega))
                   clear hM1 hp1 p0 p3 p4 f0 f3 f4))
              go_meet
              case rel =>
                have hgm : w.grownBy (W0.setCell ⟨w.heap.size + 1, 0, none⟩ (.int .i64 3)) (some g) := grown_set HM0.out.gr (.inr (by simp)) _
                have hMv : Mv w w1 g s j := ⟨HM1.out.rd, grown_trans hgm HM1.out.gr⟩
                refine ⟨_, rfl, j, 3, none, 0, 0, none, 0, 0, hj, hMv, HP1.out, HR1.out, ?_, ?_⟩
                · rw [HE.out]; cases numAt s i <;> rfl
                · intro l p hlp
                  rw [HE.out] at hlp
                  simp only [Option.map_eq_some_iff, Prod.mk.injEq] at hlp
                  obtain ⟨l', hm, rfl, rfl⟩ := hlp
                  have := HQ1.out _ hm
                  subst this
                  refine ⟨rfl, ?_⟩
                  simp only [PlC]
                  exact ⟨none, 0, none, 0, [], rfl, Row.nil _ _ _, Row.nil _ _ _, by simp [PlsC]⟩
          · obtain ⟨c, hc⟩ : ∃ c, bt s i = c := ⟨_, rfl⟩
            have hE0 : valN s (n + 1) i = if wordAt s i nullT = true then some (i + 4, .mk 0 i (i + 4) [] []) else if wordAt s i falseT = true then some (i + 5, .mk 1 i (i + 5) [] []) else if wordAt s i trueT = true then some (i + 4, .mk 2 i (i + 4) [] []) else none := by
              simp only [valN]; rw [if_neg a1, if_neg a2, if_neg a3, if_neg a4]
            have HE0 := Lib.hid hE0
            rw [hc] at a1 a2 a3 a4 hr ⊢
            clear hE0 hc
            have b1 : ¬ c = 45 := by omega
            have b2 : ¬ (48 ≤ c ∧ c ≤ 57) := by omega
            clear a4
            have tok1 : True := trivial
            have tok2 : True := trivial
            have HTB : Hid ((¬ 48 ≤ c) ∨ (48 ≤ c ∧ ¬ c ≤ 57)) := Lib.hid (by omega)
            clear b2
            cases h1 : wordAt s i nullT with
            | true =>
              have HE := Lib.hid (show valN s (n + 1) i = some (i + 4, .mk 0 i (i + 4) [] []) by rw [HE0.out, if_pos h1])
              have H1 := Lib.hid h1
              clear h1 tok1 tok2
              rcases HTB.out with b3 | ⟨b3, b4⟩
              all_goals
                go_wp2_with (first
                  | (go_at_call 62; go_must (refine (word_yes g s i ⟨#[110, 117, 108, 108]⟩ _ HM0.out.rd hs2 hi (by decide) H1.out).mono ?_); rintro e w1 ⟨rfl, hM1⟩
                     have HM1 := Lib.hid hM1
                     have HP1 := Lib.hid (HP0.out.grown hM1.gr (by simp; omega))
                     have HR1 := Lib.hid (HR0.out.grown hM1.gr (by simp; omega))
                     clear hM1 p0 p3 p4 f0 f3 f4
                     have p0 := HP1.out.c0
                     have f0 := HP1.out.f 0))
                go_meet
                case rel => exact wordEnd 0 HM0.out HM1.out HP1.out HR1.out hgp hi HE.out (wordAt_step H1.out) (by simp)
            | false =>
              have H1 := Lib.hid h1
              cases h2 : wordAt s i falseT with
              | true =>
                have HE := Lib.hid (show valN s (n + 1) i = some (i + 5, .mk 1 i (i + 5) [] []) by rw [HE0.out, if_neg (by rw [h1]; simp), if_pos h2])
                have H2 := Lib.hid h2
                clear h1 h2 tok2
                rcases HTB.out with b3 | ⟨b3, b4⟩
                all_goals
                  go_wp2_with (first
                    | (go_at_call 62; clear tok1; go_must (refine (word_no g s i ⟨#[110, 117, 108, 108]⟩ _ HM0.out.rd hs2 hi (by decide) H1.out).mono ?_); rintro e w1 ⟨rfl, hM1⟩)
                    | (go_at_call 62; go_must (refine (word_yes g s i ⟨#[102, 97, 108, 115, 101]⟩ _ hM1.rd hs2 hi (by decide) H2.out).mono ?_); rintro e w2 ⟨rfl, hM2⟩
                       have HM2 := Lib.hid (hM1.trans hM2)
                       have HP1 := Lib.hid (HP0.out.grown HM2.out.gr (by simp; omega))
                       have HR1 := Lib.hid (HR0.out.grown HM2.out.gr (by simp; omega))
                       clear hM1 hM2 p0 p3 p4 f0 f3 f4
                       have p0 := HP1.out.c0
                       have f0 := HP1.out.f 0))
                  go_meet
                  case rel => exact wordEnd 1 HM0.out HM2.out HP1.out HR1.out hgp hi HE.out (wordAt_step H2.out) (by simp)
              | false =>
                have H2 := Lib.hid h2
                cases h3 : wordAt s i trueT with
                | true =>
                  have HE := Lib.hid (show valN s (n + 1) i = some (i + 4, .mk 2 i (i + 4) [] []) by rw [HE0.out, if_neg (by rw [h1]; simp), if_neg (by rw [h2]; simp), if_pos h3])
                  have H3 := Lib.hid h3
                  clear h1 h2 h3
                  rcases HTB.out with b3 | ⟨b3, b4⟩
                  all_goals
                    go_wp2_with (first
                      | (go_at_call 62; clear tok1; go_must (refine (word_no g s i ⟨#[110, 117, 108, 108]⟩ _ HM0.out.rd hs2 hi (by decide) H1.out).mono ?_); rintro e w1 ⟨rfl, hM1⟩)
                      | (go_at_call 62; clear tok2; go_must (refine (word_no g s i ⟨#[102, 97, 108, 115, 101]⟩ _ hM1.rd hs2 hi (by decide) H2.out).mono ?_); rintro e w2 ⟨rfl, hM2⟩)
                      | (go_at_call 62; go_must (refine (word_yes g s i ⟨#[116, 114, 117, 101]⟩ _ hM2.rd hs2 hi (by decide) H3.out).mono ?_); rintro e w3 ⟨rfl, hM3⟩
                         have HM3 := Lib.hid ((hM1.trans hM2).trans hM3)
                         have HP1 := Lib.hid (HP0.out.grown HM3.out.gr (by simp; omega))
                         have HR1 := Lib.hid (HR0.out.grown HM3.out.gr (by simp; omega))
                         clear hM1 hM2 hM3 p0 p3 p4 f0 f3 f4
                         have p0 := HP1.out.c0
                         have f0 := HP1.out.f 0))
                    go_meet
                    case rel => exact wordEnd 2 HM0.out HM3.out HP1.out HR1.out hgp hi HE.out (wordAt_step H3.out) (by simp)
                | false =>
                  have HE := Lib.hid (show valN s (n + 1) i = none by rw [HE0.out, if_neg (by rw [h1]; simp), if_neg (by rw [h2]; simp), if_neg (by rw [h3]; simp)])
                  have H3 := Lib.hid h3
                  clear h1 h2 h3
                  rcases HTB.out with b3 | ⟨b3, b4⟩
                  all_goals
                    go_wp2_with (first
                      | (go_at_call 62; clear tok1; go_must (refine (word_no g s i ⟨#[110, 117, 108, 108]⟩ _ HM0.out.rd hs2 hi (by decide) H1.out).mono ?_); rintro e w1 ⟨rfl, hM1⟩)
                      | (go_at_call 62; clear tok2; go_must (refine (word_no g s i ⟨#[102, 97, 108, 115, 101]⟩ _ hM1.rd hs2 hi (by decide) H2.out).mono ?_); rintro e w2 ⟨rfl, hM2⟩)
                      | (go_at_call 62; go_must (refine (word_no g s i ⟨#[116, 114, 117, 101]⟩ _ hM2.rd hs2 hi (by decide) H3.out).mono ?_); rintro e w3 ⟨rfl, hM3⟩))
                    go_meet
                    case rel =>
                      have hM := (hM1.trans hM2).trans hM3
                      exact ⟨_, rfl, i, 0, none, 0, 0, none, 0, 0, hi, HM0.out.trans hM, HP0.out.grown hM.gr (by simp; omega), HR0.out.grown hM.gr (by simp; omega), by rw [HE.out]; rfl, fun l p h => by rw [HE.out] at h; cases h⟩
  case rest =>
    obtain ⟨ok, rfl, j, k, An, nn, cn, Ak, nk, ck, hj, hM, hP, hR, hok, hp⟩ := hcut
    clear p0 p3 p4 f0 f3 f4
    have HM := Lib.hid hM
    have HP := Lib.hid hP
    have HR := Lib.hid hR
    have HOK := Lib.hid hok
    have HPL := Lib.hid hp
    clear hM hP hR hok hp HM0 HR0 HP0 HZ0
    have r1 := HM.out.rd.c1
    have p0 := HP.out.c0
    have p1 := HP.out.c1
    have p2 := HP.out.c2
    have p3 := HP.out.c3
    have p4 := HP.out.c4
    have f2 := HP.out.f 2
    have q0 := HR.out.c0
    have q1 := HR.out.c1
    have q2 := HR.out.c2
    have q3 := HR.out.c3
    have q4 := HR.out.c4
    have e0 := HR.out.f 0
    have e1 := HR.out.f 1
    have e2 := HR.out.f 2
    have e3 := HR.out.f 3
    have e4 := HR.out.f 4
    go_wp2
    refine bodyPost_ret (v := .tuple #[.agg #[.int .i64 k, .int .i64 (i : Int), .int .i64 (j : Int), .slice An nn cn, .slice Ak nk ck], .bool ok]) (by simp [results, Tryz.results41, go_sem, p0, p1, p2, p3, p4, q0, q1, q2, q3, q4]) rfl ?_
    have hgp' := hgp
    refine ⟨j, k, i, j, An, nn, cn, Ak, nk, ck, hj, ⟨?_, ?_⟩, by rw [HOK.out], fun l p hr => ?_⟩
    · iterate 6 with_reducible refine RdS.far ?_ (by simp; omega) _
      exact HM.out.rd
    · iterate 6 with_reducible refine grown_set ?_ (.inr (by simp)) _
      exact HM.out.gr
    · obtain ⟨rfl, hpl⟩ := HPL.out l p hr
      refine ⟨rfl, (hpl.keep ?_).mono fun t _ ht => by simp only [From] at ht ⊢; omega⟩
      refine ⟨by simp [World.setCell], fun t ht _ => ?_⟩
      simp only [From] at ht
      iterate 6 rw [Below.heap_setCell _ _ _ t (by simp; omega)]
end Go.Proofs.YtkdkdhcjpgmjdaaGreatDoor.L
