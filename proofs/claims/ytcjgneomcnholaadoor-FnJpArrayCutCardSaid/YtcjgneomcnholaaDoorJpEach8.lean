/- The walk of jpHad. -/
import Derived.Test.YtcjgneomcnholaaDoorJpEach7
namespace Go.Proofs.YtcjgneomcnholaaDoor.Jp
open Go.RowKit L
set_option linter.unusedVariables false
set_option linter.unusedSimpArgs false
theorem keep11 {w2 w3 w4 : World} {a1 a2 : Addr} {g : Nat} {r0 r1 r2 r3 p4 k0 k1 k2 k3 k4 : Value} (h1 : a1.block < w2.heap.size) (h2 : a2.block < w2.heap.size) (hg : g < w2.heap.size)
    (h : w3.cell? a1 = some r0 ∧ w3.cell? ⟨a1.block, a1.off + 1, none⟩ = some r1 ∧ w3.cell? ⟨a1.block, a1.off + 2, none⟩ = some r2 ∧ w3.cell? ⟨a1.block, a1.off + 3, none⟩ = some r3 ∧ w3.cell? ⟨g, 4, none⟩ = some p4 ∧ w3.cell? a2 = some k0 ∧ w3.cell? ⟨a2.block, a2.off + 1, none⟩ = some k1 ∧ w3.cell? ⟨a2.block, a2.off + 2, none⟩ = some k2 ∧ w3.cell? ⟨a2.block, a2.off + 3, none⟩ = some k3 ∧ w3.cell? ⟨a2.block, a2.off + 4, none⟩ = some k4 ∧ Below w2.heap.size w2 w3)
    (hb : Below w3.heap.size w3 w4) :
    w4.cell? a1 = some r0 ∧ w4.cell? ⟨a1.block, a1.off + 1, none⟩ = some r1 ∧ w4.cell? ⟨a1.block, a1.off + 2, none⟩ = some r2 ∧ w4.cell? ⟨a1.block, a1.off + 3, none⟩ = some r3 ∧ w4.cell? ⟨g, 4, none⟩ = some p4 ∧ w4.cell? a2 = some k0 ∧ w4.cell? ⟨a2.block, a2.off + 1, none⟩ = some k1 ∧ w4.cell? ⟨a2.block, a2.off + 2, none⟩ = some k2 ∧ w4.cell? ⟨a2.block, a2.off + 3, none⟩ = some k3 ∧ w4.cell? ⟨a2.block, a2.off + 4, none⟩ = some k4 ∧ Below w2.heap.size w2 w4 := by
  obtain ⟨c0, c1, c2, c3, c4, c5, c6, c7, c8, c9, hB⟩ := h
  have l1 : a1.block < w3.heap.size := Nat.lt_of_lt_of_le h1 hB.size
  have l2 : a2.block < w3.heap.size := Nat.lt_of_lt_of_le h2 hB.size
  have l3 : g < w3.heap.size := Nat.lt_of_lt_of_le hg hB.size
  exact ⟨(hb.cell l1).trans c0, (hb.cell (p := ⟨a1.block, a1.off + 1, none⟩) l1).trans c1, (hb.cell (p := ⟨a1.block, a1.off + 2, none⟩) l1).trans c2, (hb.cell (p := ⟨a1.block, a1.off + 3, none⟩) l1).trans c3, (hb.cell (p := ⟨g, 4, none⟩) l3).trans c4, (hb.cell l2).trans c5,
    (hb.cell (p := ⟨a2.block, a2.off + 1, none⟩) l2).trans c6, (hb.cell (p := ⟨a2.block, a2.off + 2, none⟩) l2).trans c7, (hb.cell (p := ⟨a2.block, a2.off + 3, none⟩) l2).trans c8, (hb.cell (p := ⟨a2.block, a2.off + 4, none⟩) l2).trans c9, below_of hB hb⟩
set_option maxRecDepth 100000 in
set_option maxHeartbeats 4000000 in
theorem hadW (S : ByteArray) (Af An Ak : Option Addr) (n cf nn cn nk ck m kd b e : Nat) (kids : List Pl) (xs ys : List Value) (B B2 : Nat → Prop) (w : World)
    (hF : Row w B 4 Af n cf xs) (hK : Row w B2 5 Ak nk ck ys) (hP : PlsC w B2 kids ys) (hnk : nk = kids.length) (hn : n ≤ 1000000) (hS : S.size ≤ 1000000)
    (hH : Had S m kids n xs) (hq : ∀ q ∈ kids, q.b < q.e ∧ q.e ≤ S.size ∧ q.kind ≤ 6 ∧ (q.kind = 4 → q.b + 2 ≤ q.e)) :
    Calls Tryd.prog 16 #[.slice Af n cf, .string S, .agg #[.int .i64 (kd : Int), .int .i64 (b : Int), .int .i64 (e : Int), .slice An nn cn, .slice Ak nk ck], .int .i64 (m : Int)] w fun en w' => en = .returned (.bool true) ∧ Below w.heap.size w w' := by
  obtain ⟨ds, r, zs, hkd, htd, hds, hr, hcase⟩ := hH
  obtain ⟨w1, hw1⟩ : ∃ w1, w.alloc (.cells #[.int .i64 (kd : Int), .int .i64 (b : Int), .int .i64 (e : Int), .slice An nn cn, .slice Ak nk ck] 27) = w1 := ⟨_, rfl⟩
  have hb1 : Below w.heap.size w w1 := by rw [← hw1]; exact below_alloc (Below.refl _ _) _
  have HP5 := Lib.hid (show B5 w1 w.heap.size (.int .i64 (kd : Int)) (.int .i64 (b : Int)) (.int .i64 (e : Int)) (.slice An nn cn) (.slice Ak nk ck) by rw [← hw1]; exact B5.new _ _ _ _ _ _)
  have HF := Lib.hid (hF.keep (Keeps.of_below hb1))
  have HK := Lib.hid (hK.keep (Keeps.of_below hb1))
  have HP := Lib.hid (hP.keep (Keeps.of_below hb1))
  have HB1 := Lib.hid hb1
  have HKD := Lib.hid hkd
  have HTD := Lib.hid htd
  have HDS := Lib.hid hds
  have HR := Lib.hid hr
  have HC := Lib.hid hcase
  have HQ := Lib.hid hq
  have HNK := Lib.hid hnk
  have HNM := Lib.hid (show nk ≤ 9223372036854775807 by have := hK.2.1; have := hK.2.2.1; simp only [maxLen] at this; omega)
  have HDL := Lib.hid (show ds.length ≤ nk by rw [hnk, hkd]; simp)
  have q4 := HP5.out.c4
  clear hb1 hF hK hP hkd htd hds hr hcase hq hnk
  go_enter Tryd.func16, Tryd.ntmps16
  go_upto_block 0 with (fail)
  go_cut [9] (fun v9 wx => v9 = .int .i64 (ds.length : Int) ∧ w1 = wx)
  case first =>
    go_wp2_with (fail)
    go_loopg [9] (nk + 1) (fun d v9 wx => ∃ k : Nat, v9 = .int .i64 (k : Int) ∧ k ≤ ds.length ∧ nk - k < d ∧ w1 = wx)
    case atStart => exact ⟨0, rfl, by omega, by omega, rfl⟩
    case round =>
      obtain ⟨k, rfl, hk, hd, rfl⟩ := hrel
      have HD := Lib.hid hd
      clear hd
      have hnm : nk ≤ 9223372036854775807 := HNM.out
      have hdl := HDL.out
      by_cases hlt : k < nk
      · obtain ⟨p, hp⟩ : ∃ p, kids[k]? = some p := ⟨_, List.getElem?_eq_getElem (by rw [← HNK.out]; exact hlt)⟩
        obtain ⟨ad, An', cn', Ak', ck', zs', rfl, hlb, -, d0, d1, d2, d3, d4, -, -, -⟩ := rowAt HK.out HP.out HNK.out hp
        by_cases hkl : k < ds.length
        · have hpe : p.e < m := by
            rw [HKD.out, List.getElem?_append_left hkl] at hp
            exact HDS.out p (List.mem_of_getElem? hp)
          have hlt1 : decide ((k : Int) < (nk : Int)) = true := by simp; omega
          have hlt2 : decide ((p.e : Int) < (m : Int)) = true := by simp; omega
          clear hp
          go_wp2
          go_roundg (gk - 1)
          case measure => have := HD.out; omega
          case rel => exact ⟨k + 1, by go_num, by omega, by have := HD.out; omega, rfl⟩
        · have hpe : m ≤ p.e := by
            rw [HKD.out, List.getElem?_append_right (by omega), show k - ds.length = 0 by omega, ← List.head?_eq_getElem?] at hp
            exact HR.out p hp
          have hlt1 : decide ((k : Int) < (nk : Int)) = true := by simp; omega
          have hlt2 : decide ((p.e : Int) < (m : Int)) = false := by simp; omega
          obtain rfl : k = ds.length := by omega
          clear hp
          go_wp2
          go_meet
          case rel => exact ⟨rfl, rfl⟩
      · have hlt1 : decide ((k : Int) < (nk : Int)) = false := by simp; omega
        obtain rfl : k = ds.length := by omega
        go_wp2
        go_meet
        case rel => exact ⟨rfl, rfl⟩
  case rest =>
    obtain ⟨rfl, rfl⟩ := hcut
    have hdn : ds.length ≤ n ∧ n ≤ ds.length + 1 := by rcases HC.out with ⟨h, _⟩ | ⟨h, _⟩ <;> omega
    have hc1 : decide (n < ds.length) = false := by simp; omega
    have hc2 : decide ((ds.length : Int) + 1 < (n : Int)) = false := by simp; omega
    have hzz : ∀ k q, ds[k]? = some q → ∃ x : Int, xs[k * 4 + 0]? = some (.string ⟨#[]⟩) ∧ xs[k * 4 + 1]? = some (.string (rawAt S q.kind q.b q.e)) ∧ xs[k * 4 + 2]? = some (.int .i64 (jk q.kind : Int)) ∧ xs[k * 4 + 3]? = some (.int .i64 x) := fun k q hk => by
      obtain ⟨x, h0, h1, h2, h3⟩ := HTD.out.at4 hk
      have hl := HTD.out.len
      have hkl := (List.getElem?_eq_some_iff.1 hk).1
      refine ⟨x, ?_⟩
      rcases HC.out with ⟨_, h⟩ | ⟨_, r1, r2, r3, h⟩
      · rw [h]; exact ⟨h0, h1, h2, h3⟩
      · rw [h, List.getElem?_append_left (by omega), List.getElem?_append_left (by omega), List.getElem?_append_left (by omega), List.getElem?_append_left (by omega)]
        exact ⟨h0, h1, h2, h3⟩
    have HZZ := Lib.hid hzz
    clear hzz
    go_wp2_with (fail)
    go_loopg [10] (ds.length) (fun d v10 wx => ∃ k : Nat, v10 = .int .i64 (k : Int) ∧ k ≤ ds.length ∧ ds.length - k ≤ d ∧ Below w1.heap.size w1 wx)
    case atStart => exact ⟨0, rfl, by omega, by omega, Below.refl _ _⟩
    case round =>
      obtain ⟨k, rfl, hk, hd, hb⟩ := hrel
      have HD := Lib.hid hd
      have HB := Lib.hid hb
      clear hd hb
      have hnm : nk ≤ 9223372036854775807 := HNM.out
      have hdl := HDL.out
      by_cases hlt : k < ds.length
      · obtain ⟨q, hq⟩ : ∃ q, ds[k]? = some q := ⟨_, List.getElem?_eq_getElem hlt⟩
        have hkq : kids[k]? = some q := by rw [HKD.out, List.getElem?_append_left hlt]; exact hq
        obtain ⟨ad, An', cn', Ak', ck', zs', rfl, hlb, -, d0, d1, d2, d3, d4, -, -, -⟩ := rowAt (HK.out.keep (Keeps.of_below HB.out)) (HP.out.keep (Keeps.of_below HB.out)) HNK.out hkq
        obtain ⟨x, z0, z1, z2, z3⟩ := HZZ.out k q hq
        obtain ⟨af, rfl, -, hfb, hfc⟩ := (HF.out.keep (Keeps.of_below HB.out)).2.2.2 (by omega)
        have f0 := hfc _ _ z0
        have f1 := hfc _ _ z1
        have f2 := hfc _ _ z2
        have f3 := hfc _ _ z3
        rw [Nat.add_zero] at f0
        rw [← add_add, add_off _ _ (by omega)] at f1 f2 f3
        have hblk : (af.add (k * 4)).block < wr.heap.size := by rw [add_block]; exact hfb
        have hblk2 : (ad.add (k * 5)).block < wr.heap.size := by rw [add_block]; exact hlb
        have hblk1 : w.heap.size < wr.heap.size := Nat.lt_of_lt_of_le HP5.out.lt HB.out.size
        have q4' : wr.cell? ⟨w.heap.size, 4, none⟩ = some (.slice (some ad) nk ck) := (HB.out.cell (p := ⟨w.heap.size, 4, none⟩) HP5.out.lt).trans q4
        obtain ⟨o1, o2, o3, o4⟩ := HQ.out q (List.mem_of_getElem? hkq)
        obtain ⟨rw, hrw⟩ : ∃ rw, rawAt S q.kind q.b q.e = rw := ⟨_, rfl⟩
        obtain ⟨jx, hjx⟩ : ∃ jx : Int, (jk q.kind : Int) = jx := ⟨_, rfl⟩
        rw [hrw] at f1
        rw [hjx] at f2
        have HRW := Lib.hid hrw
        have HJX := Lib.hid hjx
        have HFC := Lib.hid hfc
        clear hq hkq z0 z1 z2 z3 hrw hjx hfc q4
        have hltt : decide ((k : Int) < (ds.length : Int)) = true := by simp; omega
        have hi0 : (0 : Int) ≤ (k : Int) := by omega
        have hi1 : (k : Int) < (n : Int) := by omega
        have hi2 : (k : Int) < (nk : Int) := by omega
        go_wp2
        go_region_held3 (fun w3 => w3.cell? (af.add (k * 4)) = some (.string ⟨#[]⟩) ∧ w3.cell? ⟨(af.add (k * 4)).block, (af.add (k * 4)).off + 1, none⟩ = some (.string rw) ∧ w3.cell? ⟨(af.add (k * 4)).block, (af.add (k * 4)).off + 2, none⟩ = some (.int .i64 jx) ∧ w3.cell? ⟨(af.add (k * 4)).block, (af.add (k * 4)).off + 3, none⟩ = some (.int .i64 x) ∧ w3.cell? ⟨w.heap.size, 4, none⟩ = some (.slice (some ad) nk ck) ∧ w3.cell? (ad.add (k * 5)) = some (.int .i64 (q.kind : Int)) ∧ w3.cell? ⟨(ad.add (k * 5)).block, (ad.add (k * 5)).off + 1, none⟩ = some (.int .i64 (q.b : Int)) ∧ w3.cell? ⟨(ad.add (k * 5)).block, (ad.add (k * 5)).off + 2, none⟩ = some (.int .i64 (q.e : Int)) ∧ w3.cell? ⟨(ad.add (k * 5)).block, (ad.add (k * 5)).off + 3, none⟩ = some (.slice An' q.names.length cn') ∧ w3.cell? ⟨(ad.add (k * 5)).block, (ad.add (k * 5)).off + 4, none⟩ = some (.slice Ak' q.kids.length ck') ∧ Below wr.heap.size wr w3)
          (first | exact ⟨f0, f1, f2, f3, q4', d0, d1, d2, d3, d4, ⟨rfl, rfl, rfl, Nat.le_refl _, fun _ _ => rfl⟩⟩ | assumption | exact keep11 hblk hblk2 hblk1 ‹_› ‹_›)
          (first
            | (go_at_call 41; refine (sameYes S rw q.kind q.b q.e jx x _ _ _ _ hS o1 o2 o4 o3 HRW.out HJX.out.symm).mono ?_; rintro en w3 ⟨rfl, hb3⟩))
        all_goals
          rename_i hH
          have HH := Lib.hid hH
          clear hH
          go_wp2
          go_roundg (ds.length - (k + 1))
          case measure => have := HD.out; omega
          case rel => exact ⟨k + 1, by go_num, by omega, by omega, below_of HB.out HH.out.2.2.2.2.2.2.2.2.2.2⟩
      · have hltt : decide ((k : Int) < (ds.length : Int)) = false := by simp; omega
        go_wp2
        go_ret
        exact ⟨rfl, below_of HB1.out HB.out⟩
end Go.Proofs.YtcjgneomcnholaaDoor.Jp
