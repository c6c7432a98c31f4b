/- The walk of the reference's Once. -/
import Derived.Test.YtkdkdhcjpgmjdaaGreatDoorJpFind3
namespace Go.Proofs.YtkdkdhcjpgmjdaaGreatDoor.Jp
open Go.RowKit L
set_option linter.unusedVariables false
set_option linter.unusedSimpArgs false

theorem Pm.mono {w : World} {B B' : Nat → Prop} {p : Pl} {An : Option Addr} {nn cn : Nat} {Ak : Option Addr} {nk ck : Nat} (h : Pm w B p An nn cn Ak nk ck) (hb : ∀ j, j < w.heap.size → B j → B' j) : Pm w B' p An nn cn Ak nk ck := by
  obtain ⟨ys, h1, h2⟩ := h.kids
  exact ⟨h.hn, h.hk, h.names.mono hb, ys, h1.mono hb, h2.mono hb⟩
theorem count_no {s key : ByteArray} {x : Nat × Nat} (xs : List (Nat × Nat)) (h : ¬ nameOf s x = key) : countN s key (x :: xs) = countN s key xs := by
  show (if nameOf s x = key then 1 else 0) + countN s key xs = _
  rw [if_neg h, Nat.zero_add]
theorem count_yes {s key : ByteArray} {x : Nat × Nat} (xs : List (Nat × Nat)) (h : nameOf s x = key) : countN s key (x :: xs) = 1 + countN s key xs := by
  show (if nameOf s x = key then 1 else 0) + countN s key xs = _
  rw [if_pos h]
theorem count_le (s key : ByteArray) : ∀ ns : List (Nat × Nat), countN s key ns ≤ ns.length
  | [] => Nat.le_refl _
  | x :: xs => by
    have := count_le s key xs
    unfold countN
    simp only [List.length_cons]
    split <;> omega
theorem once_cons {s : ByteArray} {p : Pl} {k : ByteArray} {ks : List ByteArray} : onceP s p (k :: ks) = if p.kind = 6 ∧ 1 < countN s k p.names then false else match stepP s p k with | none => true | some q => onceP s q ks := rfl
theorem drop_key {ks : List ByteArray} {k : Nat} {x : ByteArray} (h : ks[k]? = some x) : ks.drop k = x :: ks.drop (k + 1) := by
  have hl := (List.getElem?_eq_some_iff.1 h).1
  rw [List.drop_eq_getElem_cons hl]
  rw [List.getElem?_eq_getElem hl] at h
  rw [Option.some.inj h]
theorem b5_put {w : World} {g : Nat} {v0 v1 v2 v3 v4 u0 u1 u2 u3 u4 : Value} (h : B5 w g v0 v1 v2 v3 v4) : B5 (((((w.setCell ⟨g, 0, none⟩ u0).setCell ⟨g, 1, none⟩ u1).setCell ⟨g, 2, none⟩ u2).setCell ⟨g, 3, none⟩ u3).setCell ⟨g, 4, none⟩ u4) g u0 u1 u2 u3 u4 := by
  unfold B5 at h ⊢
  simp [World.setCell, Array.getElem?_modify, h]
theorem keep_b5 {g n : Nat} {w : World} {u0 u1 u2 u3 u4 : Value} (hg : n ≤ g) : Keeps (fun j => j < n) w (((((w.setCell ⟨g, 0, none⟩ u0).setCell ⟨g, 1, none⟩ u1).setCell ⟨g, 2, none⟩ u2).setCell ⟨g, 3, none⟩ u3).setCell ⟨g, 4, none⟩ u4) := by
  refine ⟨by simp [World.setCell], fun t ht _ => ?_⟩
  iterate 5 rw [Below.heap_setCell _ _ _ t (by simp; omega)]
/-- The reference's Once stands at key j. -/
structure OnceAt (s : ByteArray) (w : World) (b : Bool) (ks : List ByteArray) (j : Nat) (wr : World) (p : Pl) (An : Option Addr) (nn cn : Nat) (Ak : Option Addr) (nk ck : Nat) : Prop where
  val : IsVal s p
  mem : Pm wr (fun i => i < w.heap.size) p An nn cn Ak nk ck
  box : B5 wr w.heap.size (.int .i64 (p.kind : Int)) (.int .i64 (p.b : Int)) (.int .i64 (p.e : Int)) (.slice An nn cn) (.slice Ak nk ck)
  bel : Below w.heap.size w wr
  once : onceP s p (ks.drop j) = b
theorem OnceAt.below {s : ByteArray} {w wr wx : World} {b : Bool} {ks : List ByteArray} {j : Nat} {p : Pl} {An : Option Addr} {nn cn : Nat} {Ak : Option Addr} {nk ck : Nat} (h : OnceAt s w b ks j wr p An nn cn Ak nk ck) (hb : Below wr.heap.size wr wx) : OnceAt s w b ks j wx p An nn cn Ak nk ck :=
  ⟨h.val, h.mem.keep (Keeps.of_below hb), B5.below h.box hb, below_of h.bel hb, h.once⟩
set_option maxRecDepth 100000 in
set_option maxHeartbeats 8000000 in
theorem onceW (s : ByteArray) (ks : List ByteArray) (p : Pl) (B B2 : Nat → Prop) (An : Option Addr) (nn cn : Nat) (Ak : Option Addr) (nk ck : Nat) (A : Option Addr) (n c : Nat) (b : Bool) (w : World)
    (hv : IsVal s p) (hm : Pm w B p An nn cn Ak nk ck) (hR : Row w B2 1 A n c (keysV ks)) (hks : ∀ k ∈ ks, k.size ≤ 2147483647) (hs : s.size ≤ 65536) (hb : onceP s p ks = b) :
    Calls Tryz.prog 21 #[.string s, Pg p An nn cn Ak nk ck, .slice A n c] w fun e w' => e = .returned (.bool b) ∧ Below w.heap.size w w' := by
  obtain ⟨hn, hnm⟩ := keys_len hR
  obtain ⟨w1, hw1⟩ : ∃ w1, w.alloc (.cells #[.int .i64 (p.kind : Int), .int .i64 (p.b : Int), .int .i64 (p.e : Int), .slice An nn cn, .slice Ak nk ck] 27) = w1 := ⟨_, rfl⟩
  have hb1 : Below w.heap.size w w1 := by rw [← hw1]; exact below_alloc (Below.refl _ _) _
  have hp1 : B5 w1 w.heap.size (.int .i64 (p.kind : Int)) (.int .i64 (p.b : Int)) (.int .i64 (p.e : Int)) (.slice An nn cn) (.slice Ak nk ck) := by rw [← hw1]; exact B5.new _ _ _ _ _ _
  have HO := Lib.hid (show OnceAt s w b ks 0 w1 p An nn cn Ak nk ck from ⟨hv, (hm.mono (B' := fun i => i < w.heap.size) (fun j hj _ => hj)).keep (Keeps.of_below hb1), hp1, hb1, hb⟩)
  have HR := Lib.hid hR
  have HN := Lib.hid hn
  have HKS := Lib.hid hks
  clear hb1 hp1 hv hm hR hn hks hb
  go_enter Tryz.func21, Tryz.ntmps21
  go_wp2
  go_loopg [15] n (fun d v15 wr => ∃ (j : Nat) (p : Pl) (An : Option Addr) (nn cn : Nat) (Ak : Option Addr) (nk ck : Nat), v15 = .int .i64 (j : Int) ∧ j ≤ n ∧ n - j ≤ d ∧ OnceAt s w b ks j wr p An nn cn Ak nk ck)
  case atStart => exact ⟨0, p, An, nn, cn, Ak, nk, ck, rfl, by omega, by omega, HO.out⟩
  case round =>
    obtain ⟨j, p, An, nn, cn, Ak, nk, ck, rfl, hj, hd, hO⟩ := hrel
    have HD := Lib.hid hd
    have HO := Lib.hid hO
    have c0 := hO.box.c0
    have c1 := hO.box.c1
    have c2 := hO.box.c2
    have c3 := hO.box.c3
    have c4 := hO.box.c4
    have f0 := hO.box.f 0
    have f1 := hO.box.f 1
    have f2 := hO.box.f 2
    have f3 := hO.box.f 3
    have f4 := hO.box.f 4
    clear hd hO
    by_cases hlt : j < n
    · obtain ⟨key, hk⟩ : ∃ x, ks[j]? = some x := ⟨_, List.getElem?_eq_getElem (by rw [← HN.out]; exact hlt)⟩
      obtain ⟨ad, rfl, hlb, hc⟩ := keyAt (HR.out.keep (Keeps.of_below HO.out.bel)) hk
      have hksz := HKS.out key (List.mem_of_getElem? hk)
      have HON := Lib.hid (show onceP s p (key :: ks.drop (j + 1)) = b by rw [← drop_key hk]; exact HO.out.once)
      clear hk
      by_cases h6 : p.kind = 6
      · have k6 : ((p.kind : Int) == 6) = true := by rw [beq_iff_eq]; omega
        have H6 := Lib.hid h6
        have HNN := Lib.hid HO.out.mem.hn
        have hnnm : nn ≤ 9223372036854775807 := by have h := HO.out.mem.names; have := h.2.1; have := h.2.2.1; simp only [maxLen] at this; omega
        have HOK := Lib.hid (isval_in HO.out.val).2.1
        clear h6
        obtain ⟨wo, rfl⟩ : ∃ wo : World, wo = wr := ⟨_, rfl⟩
        go_upto_block 2 with (fail)
        go_cut [9] (fun v9 wx => v9 = .int .i64 ((countN s key p.names : Nat) : Int) ∧ Below wo.heap.size wo wx)
        case first =>
          go_wp2_with (fail)
          go_loopg [9, 10] nn (fun d v9 v10 wx => ∃ (m y : Nat), v9 = .int .i64 (y : Int) ∧ v10 = .int .i64 (m : Int) ∧ m ≤ nn ∧ nn - m ≤ d ∧ y ≤ m ∧ y + countN s key (p.names.drop m) = countN s key p.names ∧ Below wo.heap.size wo wx)
          case atStart => exact ⟨0, 0, rfl, rfl, by omega, by omega, by omega, by rw [List.drop_zero, Nat.zero_add], Below.refl _ _⟩
          case round =>
            obtain ⟨m, y, rfl, rfl, hmn, hmd, hym, hcy, hbm⟩ := hrel
            have HMD := Lib.hid hmd
            have HCY := Lib.hid hcy
            have HBM := Lib.hid hbm
            by_cases hmlt : m < nn
            · obtain ⟨x, hx⟩ : ∃ x, p.names[m]? = some x := ⟨_, List.getElem?_eq_getElem (by rw [← HNN.out]; exact hmlt)⟩
              obtain ⟨an, rfl, hab, e0, e1⟩ := nameAt (HO.out.mem.names.keep (Keeps.of_below HBM.out)) HNN.out hx
              obtain ⟨o1, o2, o3⟩ := HOK.out x (List.mem_of_getElem? hx)
              have hlb2 : (an.add (m * 2)).block < wr.heap.size := by rw [add_block]; exact hab
              have hlb1 : w.heap.size < wr.heap.size := Nat.lt_of_lt_of_le HO.out.box.lt HBM.out.size
              have q3' : wr.cell? ⟨w.heap.size, 3, none⟩ = some (.slice (some an) nn cn) := (HBM.out.cell (p := ⟨w.heap.size, 3, none⟩) HO.out.box.lt).trans c3
              have HO3 := Lib.hid o3
              have HDC := Lib.hid (drop_cons2 hx)
              obtain ⟨nm, hnm2⟩ : ∃ nm, nameOf s x = nm := ⟨_, rfl⟩
              have HNM := Lib.hid hnm2
              have hi0 : (0 : Int) ≤ (m : Int) := by omega
              have hi1 : (m : Int) < (nn : Int) := by omega
              have hi2 : (0 : Int) ≤ (x.1 : Int) := by omega
              have hi3 : (x.1 : Int) ≤ (x.2 : Int) := by omega
              have hi4 : (x.2 : Int) ≤ (s.size : Int) := by omega
              by_cases hkey : nm = key
              · have hq : (nm.toList == key.toList) = true := by rw [hkey]; exact beq_self_eq_true _
                have HCN := Lib.hid (show countN s key (p.names.drop m) = 1 + countN s key (p.names.drop (m + 1)) by rw [HDC.out, count_yes _ (HNM.out.trans hkey)])
                clear hx o3 hnm2 hkey c0 c1 c2 c3 c4 f0 f1 f2 f3 f4
                go_wp2
                go_region_held3 (fun w3 => w3.cell? (an.add (m * 2)) = some (.int .i64 (x.1 : Int)) ∧ w3.cell? ⟨(an.add (m * 2)).block, (an.add (m * 2)).off + 1, none⟩ = some (.int .i64 (x.2 : Int)) ∧ w3.cell? ⟨w.heap.size, 3, none⟩ = some (.slice (some an) nn cn) ∧ Below wr.heap.size wr w3)
                  (first | exact ⟨e0, e1, q3', ⟨rfl, rfl, rfl, Nat.le_refl _, fun _ _ => rfl⟩⟩ | assumption | exact keep4 hlb2 hlb1 ‹_› ‹_›)
                  (first
                    | (go_at_call 30; refine (unqName s nm x _ ⟨o1, o2, HO3.out⟩ hs HNM.out).mono ?_; rintro en w3 ⟨rfl, hb3⟩))
                all_goals
                  rename_i hH
                  have HH := Lib.hid hH
                  clear hH
                  go_wp2
                  go_roundg (gk - 1)
                  case measure => have := HMD.out; omega
                  case rel => exact ⟨m + 1, y + 1, by go_num, by go_num, by omega, by have := HMD.out; omega, by omega, by have := HCY.out; have := HCN.out; omega, below_of HBM.out HH.out.2.2.2⟩
              · have hq : (nm.toList == key.toList) = false := by
                  rw [Bool.eq_false_iff]; intro e
                  exact hkey (toList_inj (by simpa using e))
                have HCN := Lib.hid (show countN s key (p.names.drop m) = countN s key (p.names.drop (m + 1)) by rw [HDC.out, count_no _ (by rw [HNM.out]; exact hkey)])
                clear hx o3 hnm2 hkey c0 c1 c2 c3 c4 f0 f1 f2 f3 f4
                go_wp2
                go_region_held3 (fun w3 => w3.cell? (an.add (m * 2)) = some (.int .i64 (x.1 : Int)) ∧ w3.cell? ⟨(an.add (m * 2)).block, (an.add (m * 2)).off + 1, none⟩ = some (.int .i64 (x.2 : Int)) ∧ w3.cell? ⟨w.heap.size, 3, none⟩ = some (.slice (some an) nn cn) ∧ Below wr.heap.size wr w3)
                  (first | exact ⟨e0, e1, q3', ⟨rfl, rfl, rfl, Nat.le_refl _, fun _ _ => rfl⟩⟩ | assumption | exact keep4 hlb2 hlb1 ‹_› ‹_›)
                  (first
                    | (go_at_call 30; refine (unqName s nm x _ ⟨o1, o2, HO3.out⟩ hs HNM.out).mono ?_; rintro en w3 ⟨rfl, hb3⟩))
                all_goals
                  rename_i hH
                  have HH := Lib.hid hH
                  clear hH
                  go_wp2
                  go_roundg (gk - 1)
                  case measure => have := HMD.out; omega
                  case rel => exact ⟨m + 1, y, by go_num, by go_num, by omega, by have := HMD.out; omega, by omega, by have := HCY.out; have := HCN.out; omega, below_of HBM.out HH.out.2.2.2⟩
            · have HCE := Lib.hid (show y = countN s key p.names by rw [← HCY.out, List.drop_eq_nil_of_le (by rw [← HNN.out]; omega)]; rfl)
              have q3' : wr.cell? ⟨w.heap.size, 3, none⟩ = some (.slice An nn cn) := (HBM.out.cell (p := ⟨w.heap.size, 3, none⟩) HO.out.box.lt).trans c3
              clear c0 c1 c2 c3 c4 f0 f1 f2 f3 f4
              go_wp2
              go_meet
              case rel => exact ⟨by rw [HCE.out], HBM.out⟩
        case rest =>
          obtain ⟨rfl, hbx⟩ := hcut
          have HO2 := Lib.hid (HO.out.below hbx)
          clear hbx c0 c1 c2 c3 c4 f0 f1 f2 f3 f4
          have c0 := HO2.out.box.c0
          have c1 := HO2.out.box.c1
          have c2 := HO2.out.box.c2
          have c3 := HO2.out.box.c3
          have c4 := HO2.out.box.c4
          have f0 := HO2.out.box.f 0
          have f1 := HO2.out.box.f 1
          have f2 := HO2.out.box.f 2
          have f3 := HO2.out.box.f 3
          have f4 := HO2.out.box.f 4
          have hcm : countN s key p.names ≤ 9223372036854775807 := Nat.le_trans (count_le s key p.names) (by rw [← HNN.out]; exact hnnm)
          obtain ⟨cn', hcn⟩ : ∃ cn', countN s key p.names = cn' := ⟨_, rfl⟩
          rw [hcn] at hcm ⊢
          have HCN := Lib.hid hcn
          clear hcn
          by_cases hc1 : 1 < cn'
          · have HF := Lib.hid (show b = false by rw [← HON.out, once_cons, if_pos ⟨H6.out, by rw [HCN.out]; exact hc1⟩])
            go_wp2
            go_ret
            exact ⟨by rw [HF.out]; rfl, HO2.out.bel⟩
          · have HNEG := Lib.hid (show ¬ (p.kind = 6 ∧ 1 < countN s key p.names) by rw [HCN.out]; exact fun h => hc1 h.2)
            cases hst : stepP s p key with
            | none =>
              have HF := Lib.hid (show b = true by rw [← HON.out, once_cons, if_neg (HNEG.out), hst])
              have HST := Lib.hid hst
              clear hst
              go_wp2_with (first
                | (go_at_call 32; refine (stepW s key p _ An nn cn Ak nk ck _ HO2.out.val HO2.out.mem hs (by omega)).mono ?_; rintro e w4 ⟨hb4, ⟨-, rfl⟩ | ⟨q, Aq, cq, Ar, cr, hq, -⟩⟩; case inr => exact absurd (HST.out.symm.trans hq) (by simp)
                   replace hb4 := Lib.hid hb4))
              go_ret
              exact ⟨by rw [HF.out]; rfl, below_alloc (below_of HO2.out.bel hb4.out) _⟩
            | some q =>
              have HON2 := Lib.hid (show onceP s q (ks.drop (j + 1)) = b by rw [← HON.out, once_cons, if_neg (HNEG.out), hst])
              have HST := Lib.hid hst
              have HVQ := Lib.hid (show IsVal s q by
                unfold stepP at hst
                obtain ⟨i, -, hi⟩ := Option.bind_eq_some_iff.1 hst
                exact (isval_in HO2.out.val).1 q (List.mem_of_getElem? hi))
              clear hst
              go_wp2_with (first
                | (go_at_call 32; refine (stepW s key p _ An nn cn Ak nk ck _ HO2.out.val HO2.out.mem hs (by omega)).mono ?_; rintro e w4 ⟨hb4, ⟨hq, -⟩ | ⟨q', Aq, cq, Ar, cr, hq, rfl, hpm⟩⟩; case inl => exact absurd (HST.out.symm.trans hq) (by simp)
                   obtain rfl : q = q' := Option.some.inj (HST.out.symm.trans hq)
                   clear hq
                   obtain ⟨w5, hw5⟩ : ∃ w5, w4.alloc (.cells #[.int .i64 (q.kind : Int), .int .i64 (q.b : Int), .int .i64 (q.e : Int), .slice Aq q.names.length cq, .slice Ar q.kids.length cr] 27) = w5 := ⟨_, rfl⟩
                   have hba : Below w4.heap.size w4 w5 := by rw [← hw5]; exact below_alloc (Below.refl _ _) _
                   have hnb : B5 w5 w4.heap.size (.int .i64 (q.kind : Int)) (.int .i64 (q.b : Int)) (.int .i64 (q.e : Int)) (.slice Aq q.names.length cq) (.slice Ar q.kids.length cr) := by rw [← hw5]; exact B5.new _ _ _ _ _ _
                   have d0 := hnb.c0
                   have d1 := hnb.c1
                   have d2 := hnb.c2
                   have d3 := hnb.c3
                   have d4 := hnb.c4
                   have hbx := B5.below (B5.below HO2.out.box hb4) hba
                   have c0 := hbx.c0
                   have c1 := hbx.c1
                   have c2 := hbx.c2
                   have c3 := hbx.c3
                   have c4 := hbx.c4
                   have f0 := hbx.f 0
                   have f1 := hbx.f 1
                   have f2 := hbx.f 2
                   have f3 := hbx.f 3
                   have f4 := hbx.f 4
                   replace hbx := Lib.hid hbx
                   replace hb4 := Lib.hid hb4
                   replace hpm := Lib.hid hpm
                   replace hba := Lib.hid hba
                   clear hnb))
              go_roundg (gk - 1)
              case measure => have := HD.out; omega
              case rel => exact ⟨j + 1, q, Aq, q.names.length, cq, Ar, q.kids.length, cr, by go_num, by omega, by have := HD.out; omega, HVQ.out, (hpm.out.keep (Keeps.of_below hba.out)).keep (keep_b5 (Nat.le_refl _)), b5_put hbx.out, below_b5 (below_of (below_of HO2.out.bel hb4.out) hba.out) (Nat.le_refl _), HON2.out⟩
      · have k6 : ((p.kind : Int) == 6) = false := beq_eq_false_iff_ne.2 (by omega)
        cases hst : stepP s p key with
        | none =>
          have HF := Lib.hid (show b = true by rw [← HON.out, once_cons, if_neg (fun h => h6 h.1), hst])
          have HST := Lib.hid hst
          clear hst
          go_wp2_with (first
            | (go_at_call 32; refine (stepW s key p _ An nn cn Ak nk ck _ HO.out.val HO.out.mem hs (by omega)).mono ?_; rintro e w4 ⟨hb4, ⟨-, rfl⟩ | ⟨q, Aq, cq, Ar, cr, hq, -⟩⟩; case inr => exact absurd (HST.out.symm.trans hq) (by simp)
               replace hb4 := Lib.hid hb4))
          go_ret
          exact ⟨by rw [HF.out]; rfl, below_alloc (below_of HO.out.bel hb4.out) _⟩
        | some q =>
          have HON2 := Lib.hid (show onceP s q (ks.drop (j + 1)) = b by rw [← HON.out, once_cons, if_neg (fun h => h6 h.1), hst])
          have HST := Lib.hid hst
          have HVQ := Lib.hid (show IsVal s q by
            unfold stepP at hst
            obtain ⟨i, -, hi⟩ := Option.bind_eq_some_iff.1 hst
            exact (isval_in HO.out.val).1 q (List.mem_of_getElem? hi))
          clear hst
          go_wp2_with (first
            | (go_at_call 32; refine (stepW s key p _ An nn cn Ak nk ck _ HO.out.val HO.out.mem hs (by omega)).mono ?_; rintro e w4 ⟨hb4, ⟨hq, -⟩ | ⟨q', Aq, cq, Ar, cr, hq, rfl, hpm⟩⟩; case inl => exact absurd (HST.out.symm.trans hq) (by simp)
               obtain rfl : q = q' := Option.some.inj (HST.out.symm.trans hq)
               clear hq
               obtain ⟨w5, hw5⟩ : ∃ w5, w4.alloc (.cells #[.int .i64 (q.kind : Int), .int .i64 (q.b : Int), .int .i64 (q.e : Int), .slice Aq q.names.length cq, .slice Ar q.kids.length cr] 27) = w5 := ⟨_, rfl⟩
               have hba : Below w4.heap.size w4 w5 := by rw [← hw5]; exact below_alloc (Below.refl _ _) _
               have hnb : B5 w5 w4.heap.size (.int .i64 (q.kind : Int)) (.int .i64 (q.b : Int)) (.int .i64 (q.e : Int)) (.slice Aq q.names.length cq) (.slice Ar q.kids.length cr) := by rw [← hw5]; exact B5.new _ _ _ _ _ _
               have d0 := hnb.c0
               have d1 := hnb.c1
               have d2 := hnb.c2
               have d3 := hnb.c3
               have d4 := hnb.c4
               have hbx := B5.below (B5.below HO.out.box hb4) hba
               have c0 := hbx.c0
               have c1 := hbx.c1
               have c2 := hbx.c2
               have c3 := hbx.c3
               have c4 := hbx.c4
               have f0 := hbx.f 0
               have f1 := hbx.f 1
               have f2 := hbx.f 2
               have f3 := hbx.f 3
               have f4 := hbx.f 4
               replace hbx := Lib.hid hbx
               replace hb4 := Lib.hid hb4
               replace hpm := Lib.hid hpm
               replace hba := Lib.hid hba
               clear hnb))
          go_roundg (gk - 1)
          case measure => have := HD.out; omega
          case rel => exact ⟨j + 1, q, Aq, q.names.length, cq, Ar, q.kids.length, cr, by go_num, by omega, by have := HD.out; omega, HVQ.out, (hpm.out.keep (Keeps.of_below hba.out)).keep (keep_b5 (Nat.le_refl _)), b5_put hbx.out, below_b5 (below_of (below_of HO.out.bel hb4.out) hba.out) (Nat.le_refl _), HON2.out⟩
    · have HF := Lib.hid (show b = true by rw [← HO.out.once, List.drop_eq_nil_of_le (by rw [← HN.out]; omega)]; rfl)
      go_wp2
      go_ret
      exact ⟨by rw [HF.out]; rfl, HO.out.bel⟩
end Go.Proofs.YtkdkdhcjpgmjdaaGreatDoor.Jp
