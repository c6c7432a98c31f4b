/- FnGjMatchesHas: gjOp, gjSign and the law. -/
import Derived.Test.YtclemmgfilkkgaaDoorMhLaw
namespace Go.Proofs.YtclemmgfilkkgaaDoor.Mh
open Go.RowKit L
set_option linter.unusedVariables false
set_option linter.unusedSimpArgs false

set_option maxRecDepth 100000 in
set_option maxHeartbeats 4000000 in
theorem gjOpW (c : Int) (hc : (Lit.int .i64 c).wf = true) (w : World) : Calls Tryd.prog 18 #[.int .i64 c] w fun en w' => (∃ r, en = .returned (.string r)) ∧ Below w.heap.size w w' := by
  have h1 : -6 < Int.tmod c 6 ∧ Int.tmod c 6 < 6 := ⟨Int.lt_tmod_of_pos c (by decide), Int.tmod_lt_of_pos c (by decide)⟩
  obtain ⟨d, hd⟩ : ∃ d, Int.tmod c 6 = d := ⟨_, rfl⟩
  rw [hd] at h1
  have h2 : 0 ≤ Int.tmod (d + 6) 6 ∧ Int.tmod (d + 6) 6 < 6 := ⟨Int.tmod_nonneg _ (by omega), Int.tmod_lt_of_pos _ (by decide)⟩
  obtain ⟨e, he⟩ : ∃ e, Int.tmod (d + 6) 6 = e := ⟨_, rfl⟩
  rw [he] at h2
  have e1 : IntKind.i64.wrap d = d := IntWalk.i64_in _ (by omega)
  have e2 : IntKind.i64.wrap (d + 6) = d + 6 := IntWalk.i64_in _ (by omega)
  have e3 : IntKind.i64.wrap e = e := IntWalk.i64_in _ (by omega)
  have hB := Bk.new w 9 #[.string ⟨#[61, 61]⟩, .string ⟨#[33, 61]⟩, .string ⟨#[60]⟩, .string ⟨#[62, 61]⟩, .string ⟨#[62]⟩, .string ⟨#[60, 61]⟩]
  have k0 := hB.c 0 (v := .string ⟨#[61, 61]⟩) rfl
  have k1 := hB.c 1 (v := .string ⟨#[33, 61]⟩) rfl
  have k2 := hB.c 2 (v := .string ⟨#[60]⟩) rfl
  have k3 := hB.c 3 (v := .string ⟨#[62, 61]⟩) rfl
  have k4 := hB.c 4 (v := .string ⟨#[62]⟩) rfl
  have k5 := hB.c 5 (v := .string ⟨#[60, 61]⟩) rfl
  clear hB
  rcases (by omega : e = 0 ∨ e = 1 ∨ e = 2 ∨ e = 3 ∨ e = 4 ∨ e = 5) with rfl | rfl | rfl | rfl | rfl | rfl
  all_goals
    go_enter Tryd.func18, Tryd.ntmps18
    go_wp2
    go_ret
    exact ⟨⟨_, rfl⟩, below_alloc (Below.refl _ _) _⟩
theorem gjSignW (c : Int) (hc : (Lit.int .i64 c).wf = true) (w : World) : Calls Tryd.prog 10 #[.int .i64 c] w fun en w' => (∃ r, en = .returned (.string r)) ∧ Below w.heap.size w w' := by
  go_enter Tryd.func10, Tryd.ntmps10
  go_wp2_with (first
    | (go_at_call 18; (with_reducible refine (gjOpW c hc _).mono ?_); rintro en w1 ⟨⟨r, rfl⟩, hb1⟩; replace hb1 := Lib.hid hb1))
  all_goals go_ret
  all_goals exact ⟨⟨_, rfl⟩, hb1.out⟩
theorem empty_of {a : ByteArray} (h : a.size = 0) : a = ⟨#[]⟩ := by
  rcases a with ⟨⟨l⟩⟩
  cases l with
  | nil => rfl
  | cons x t => simp [ByteArray.size] at h
theorem below_drewl {w w' : World} (h : Below w.drew.heap.size w.drew w') : Below w.heap.size w w' := ⟨h.os, h.tape, h.output, h.size, h.block⟩
theorem toList_ne {a : ByteArray} (h : ¬ a.size = 0) : ¬ a.toList = [] := fun e => h ((nil_iff a).1 e)
theorem keep5 {w2 w3 w4 : World} {g : Nat} {r0 r1 r2 r3 r4 : Value} (h1 : g < w2.heap.size)
    (h : w3.cell? ⟨g, 0, none⟩ = some r0 ∧ w3.cell? ⟨g, 1, none⟩ = some r1 ∧ w3.cell? ⟨g, 2, none⟩ = some r2 ∧ w3.cell? ⟨g, 3, none⟩ = some r3 ∧ w3.cell? ⟨g, 4, none⟩ = some r4 ∧ Below w2.heap.size w2 w3)
    (hb : Below w3.heap.size w3 w4) : w4.cell? ⟨g, 0, none⟩ = some r0 ∧ w4.cell? ⟨g, 1, none⟩ = some r1 ∧ w4.cell? ⟨g, 2, none⟩ = some r2 ∧ w4.cell? ⟨g, 3, none⟩ = some r3 ∧ w4.cell? ⟨g, 4, none⟩ = some r4 ∧ Below w2.heap.size w2 w4 := by
  obtain ⟨a0, a1, a2, a3, a4, hB⟩ := h
  have l1 : g < w3.heap.size := Nat.lt_of_lt_of_le h1 hB.size
  exact ⟨(hb.cell l1).trans a0, (hb.cell l1).trans a1, (hb.cell l1).trans a2, (hb.cell l1).trans a3, (hb.cell l1).trans a4, below_of hB hb⟩
set_option maxRecDepth 100000 in
set_option maxHeartbeats 4000000 in
theorem lawM (k : Int) (raw str : ByteArray) (n : Nat) (ex : Bool) (right : ByteArray) (op : Int) (w : World) (h1 : raw.size ≤ 9223372036854775807) (h2 : str.size ≤ 9223372036854775807) (h3 : right.size ≤ 140737488351232) (ho : (Lit.int .i64 op).wf = true) :
    Calls Tryd.prog 4 #[.agg #[.int .i64 k, .string raw, .string str, .float .f64 n, .bool ex], .string right, .int .i64 op] w fun e w' => e = .returned (.bool true) ∧ Below w.heap.size w w' := by
  obtain ⟨w1, hw1⟩ : ∃ w1, w.alloc (.cells #[.int .i64 k, .string raw, .string str, .float .f64 n, .bool ex] 28) = w1 := ⟨_, rfl⟩
  have HB1 := Lib.hid (show Below w.heap.size w w1 by rw [← hw1]; exact below_alloc (Below.refl _ _) _)
  have hk : Bk w1 w.heap.size 28 #[.int .i64 k, .string raw, .string str, .float .f64 n, .bool ex] := by rw [← hw1]; exact Bk.new _ _ _
  have HK := Lib.hid hk
  have k0 := hk.c 0 (v := .int .i64 k) rfl
  have k1 := hk.c 1 (v := .string raw) rfl
  have k2 := hk.c 2 (v := .string str) rfl
  have k3 := hk.c 3 (v := .float .f64 n) rfl
  have k4 := hk.c 4 (v := .bool ex) rfl
  clear hk
  by_cases hf : raw.size ≤ 2147483647 ∧ str.size ≤ 2147483647
  case neg =>
    go_enter Tryd.func4, Tryd.ntmps4
    go_wp2_with (first
      | (go_at_call 8; (with_reducible refine (fitsNo k raw str _ _ _ h1 h2 hf).mono ?_); rintro en w2 ⟨rfl, hb2⟩; replace hb2 := Lib.hid hb2))
    go_ret
    exact ⟨rfl, below_of HB1.out hb2.out⟩
  obtain ⟨hf1, hf2⟩ := hf
  clear h1 h2
  by_cases hbig : 2147483647 < right.size
  · have hd : decide (2147483647 < (right.size : Int)) = true := by simp; omega
    go_enter Tryd.func4, Tryd.ntmps4
    go_wp2_with (first
      | (go_at_call 8; (with_reducible refine (fitsYes k raw str _ _ _ hf1 hf2).mono ?_); rintro en w2 ⟨rfl, hb2⟩; replace hb2 := Lib.hid hb2))
    go_ret
    exact ⟨rfl, below_of HB1.out hb2.out⟩
  have hd : decide (2147483647 < (right.size : Int)) = false := by simp; omega
  have hrs : right.size ≤ 2147483647 := by omega
  clear hbig h3
  by_cases hr0 : right.size = 0
  case pos =>
    obtain rfl := empty_of hr0
    have ht : ∀ h : 0 < (⟨#[]⟩ : ByteArray).size, ((⟨#[]⟩ : ByteArray)[0]'h).toNat ≠ 126 := fun h => absurd h (by decide)
    by_cases hk0 : k = 0
    · subst hk0
      by_cases hw0 : raw.size = 0
      · obtain rfl := empty_of hw0
        have HE := Lib.hid (show existsB 0 ⟨#[]⟩ = false from rfl)
        go_enter Tryd.func4, Tryd.ntmps4
        go_upto_region 7 with (first
          | (go_at_call 8; (with_reducible refine (fitsYes 0 ⟨#[]⟩ str _ _ _ hf1 hf2).mono ?_); rintro en w2 ⟨rfl, hb2⟩
             have hK2 := HK.out.below hb2
             have q0 := hK2.c 0 (v := .int .i64 0) rfl
             have q1 := hK2.c 1 (v := .string ⟨#[]⟩) rfl
             have q4 := hK2.c 4 (v := .bool ex) rfl
             have qf := hK2.f 4
             replace hK2 := Lib.hid hK2
             replace hb2 := Lib.hid hb2))
        obtain ⟨w3, hw3⟩ : ∃ w3, w2.setCell ⟨w.heap.size, 4, none⟩ (.bool false) = w3 := ⟨_, rfl⟩
        rw [hw3]
        have hK3 : Bk w3 w.heap.size 28 #[.int .i64 0, .string ⟨#[]⟩, .string str, .float .f64 n, .bool false] := by rw [← hw3]; exact hK2.out.set 4 _ rfl
        have HB3 := Lib.hid (show Below w.heap.size w w3 by rw [← hw3]; exact (below_of HB1.out hb2.out).setCell (Nat.le_refl _) _)
        clear q0 q1 q4 qf hw3
        go_region_held3 (fun w9 => w9.cell? ⟨w.heap.size, 0, none⟩ = some (.int .i64 0) ∧ w9.cell? ⟨w.heap.size, 1, none⟩ = some (.string ⟨#[]⟩) ∧ w9.cell? ⟨w.heap.size, 2, none⟩ = some (.string str) ∧ w9.cell? ⟨w.heap.size, 3, none⟩ = some (.float .f64 n) ∧ w9.cell? ⟨w.heap.size, 4, none⟩ = some (.bool false) ∧ Below w3.heap.size w3 w9)
          (first | exact ⟨hK3.c 0 rfl, hK3.c 1 rfl, hK3.c 2 rfl, hK3.c 3 rfl, hK3.c 4 rfl, ⟨rfl, rfl, rfl, Nat.le_refl _, fun _ _ => rfl⟩⟩ | assumption | exact keep5 hK3.lt ‹_› ‹_›)
          (first
              | (go_at_call 9; (with_reducible refine (gjMatchesW 0 ⟨#[]⟩ str ⟨#[]⟩ ⟨#[]⟩ n false false _ HE.out hf1 hrs ht (fun h => by cases h)).mono ?_); rintro en w4 ⟨rfl, hb4⟩)
              | (go_at_call 10; (with_reducible refine (gjSignW op ho _).mono ?_); rintro en w5 ⟨⟨rr, rfl⟩, hb5⟩)
              | (go_at_call 9; (with_reducible refine (gjMatchesW 0 ⟨#[]⟩ str _ ⟨#[]⟩ n false false _ HE.out hf1 hrs ht (fun h => by cases h)).mono ?_); rintro en w6 ⟨rfl, hb6⟩)
              | fail)
        all_goals
          go_wp2
          go_ret
          rename_i hH
          exact ⟨rfl, below_of HB3.out hH.2.2.2.2.2⟩
      · have HE := Lib.hid (show existsB 0 raw = true by unfold existsB; rw [decide_eq_false hw0]; rfl)
        have hne2 : ¬ raw.toList = [] := toList_ne hw0
        have hie : raw.toList.isEmpty = false := by rw [List.isEmpty_eq_false_iff]; exact hne2
        go_enter Tryd.func4, Tryd.ntmps4
        go_upto_region 7 with (first
          | (go_at_call 8; (with_reducible refine (fitsYes 0 raw str _ _ _ hf1 hf2).mono ?_); rintro en w2 ⟨rfl, hb2⟩
             have hK2 := HK.out.below hb2
             have q0 := hK2.c 0 (v := .int .i64 0) rfl
             have q1 := hK2.c 1 (v := .string raw) rfl
             have q4 := hK2.c 4 (v := .bool ex) rfl
             have qf := hK2.f 4
             replace hK2 := Lib.hid hK2
             replace hb2 := Lib.hid hb2))
        obtain ⟨w3, hw3⟩ : ∃ w3, w2.setCell ⟨w.heap.size, 4, none⟩ (.bool true) = w3 := ⟨_, rfl⟩
        rw [hw3]
        have hK3 : Bk w3 w.heap.size 28 #[.int .i64 0, .string raw, .string str, .float .f64 n, .bool true] := by rw [← hw3]; exact hK2.out.set 4 _ rfl
        have HB3 := Lib.hid (show Below w.heap.size w w3 by rw [← hw3]; exact (below_of HB1.out hb2.out).setCell (Nat.le_refl _) _)
        clear q0 q1 q4 qf hw3
        have e0 := hK3.c 0 (v := .int .i64 0) rfl
        have e1 := hK3.c 1 (v := .string raw) rfl
        have e2 := hK3.c 2 (v := .string str) rfl
        have e3 := hK3.c 3 (v := .float .f64 n) rfl
        have e4 := hK3.c 4 (v := .bool true) rfl
        clear hK3 hK2 HK
        first
          | (go_region_with (first
              | (go_at_call 9; (with_reducible refine (gjMatchesW 0 raw str ⟨#[]⟩ ⟨#[]⟩ n true true _ HE.out hf1 hrs ht (fun _ => rfl)).mono ?_); rintro en w4 ⟨rfl, hb4⟩; replace hb4 := Lib.hid hb4)))
          | fail
        all_goals
          go_wp2
          go_ret
          exact ⟨rfl, below_of HB3.out (below_drewl hb4.out)⟩
    · have HE := Lib.hid (show existsB k raw = true by unfold existsB; rw [decide_eq_false hk0]; rfl)
      have hkn : (k != 0) = true := bne_iff_ne.2 hk0
      go_enter Tryd.func4, Tryd.ntmps4
      go_upto_region 7 with (first
        | (go_at_call 8; (with_reducible refine (fitsYes k raw str _ _ _ hf1 hf2).mono ?_); rintro en w2 ⟨rfl, hb2⟩
           have hK2 := HK.out.below hb2
           have q0 := hK2.c 0 (v := .int .i64 k) rfl
           have q1 := hK2.c 1 (v := .string raw) rfl
           have q4 := hK2.c 4 (v := .bool ex) rfl
           have qf := hK2.f 4
           replace hK2 := Lib.hid hK2
           replace hb2 := Lib.hid hb2))
      obtain ⟨w3, hw3⟩ : ∃ w3, w2.setCell ⟨w.heap.size, 4, none⟩ (.bool true) = w3 := ⟨_, rfl⟩
      rw [hw3]
      have hK3 : Bk w3 w.heap.size 28 #[.int .i64 k, .string raw, .string str, .float .f64 n, .bool true] := by rw [← hw3]; exact hK2.out.set 4 _ rfl
      have HB3 := Lib.hid (show Below w.heap.size w w3 by rw [← hw3]; exact (below_of HB1.out hb2.out).setCell (Nat.le_refl _) _)
      clear q0 q1 q4 qf hw3
      have e0 := hK3.c 0 (v := .int .i64 k) rfl
      have e1 := hK3.c 1 (v := .string raw) rfl
      have e2 := hK3.c 2 (v := .string str) rfl
      have e3 := hK3.c 3 (v := .float .f64 n) rfl
      have e4 := hK3.c 4 (v := .bool true) rfl
      clear hK3 hK2 HK
      first
        | (go_region_with (first
            | (go_at_call 9; (with_reducible refine (gjMatchesW k raw str ⟨#[]⟩ ⟨#[]⟩ n true true _ HE.out hf1 hrs ht (fun _ => rfl)).mono ?_); rintro en w4 ⟨rfl, hb4⟩; replace hb4 := Lib.hid hb4)))
        | fail
      all_goals
        go_wp2
        go_ret
        exact ⟨rfl, below_of HB3.out (below_drewl hb4.out)⟩
  have h0 : 0 < right.size := by omega
  have hne : ¬ right.toList = [] := toList_ne hr0
  have hie3 : right.toList.isEmpty = false := by rw [List.isEmpty_eq_false_iff]; exact hne
  clear hr0
  by_cases htl : (right[0]'h0).toNat = 126
  · have hx : (((right[0]'h0).toNat : Int) == 126) = true := by rw [htl]; rfl
    go_enter Tryd.func4, Tryd.ntmps4
    go_wp2_with (first
      | (go_at_call 8; (with_reducible refine (fitsYes k raw str _ _ _ hf1 hf2).mono ?_); rintro en w2 ⟨rfl, hb2⟩; replace hb2 := Lib.hid hb2))
    go_ret
    exact ⟨rfl, below_of HB1.out hb2.out⟩
  · have hx : (((right[0]'h0).toNat : Int) == 126) = false := beq_eq_false_iff_ne.2 (by omega)
    have ht : ∀ h : 0 < right.size, (right[0]'h).toNat ≠ 126 := fun h => htl
    by_cases hk0 : k = 0
    · subst hk0
      by_cases hw0 : raw.size = 0
      · obtain rfl := empty_of hw0
        have HE := Lib.hid (show existsB 0 ⟨#[]⟩ = false from rfl)
        go_enter Tryd.func4, Tryd.ntmps4
        go_upto_region 7 with (first
          | (go_at_call 8; (with_reducible refine (fitsYes 0 ⟨#[]⟩ str _ _ _ hf1 hf2).mono ?_); rintro en w2 ⟨rfl, hb2⟩
             have hK2 := HK.out.below hb2
             have q0 := hK2.c 0 (v := .int .i64 0) rfl
             have q1 := hK2.c 1 (v := .string ⟨#[]⟩) rfl
             have q4 := hK2.c 4 (v := .bool ex) rfl
             have qf := hK2.f 4
             replace hK2 := Lib.hid hK2
             replace hb2 := Lib.hid hb2))
        obtain ⟨w3, hw3⟩ : ∃ w3, w2.setCell ⟨w.heap.size, 4, none⟩ (.bool false) = w3 := ⟨_, rfl⟩
        rw [hw3]
        have hK3 : Bk w3 w.heap.size 28 #[.int .i64 0, .string ⟨#[]⟩, .string str, .float .f64 n, .bool false] := by rw [← hw3]; exact hK2.out.set 4 _ rfl
        have HB3 := Lib.hid (show Below w.heap.size w w3 by rw [← hw3]; exact (below_of HB1.out hb2.out).setCell (Nat.le_refl _) _)
        clear q0 q1 q4 qf hw3
        go_region_held3 (fun w9 => w9.cell? ⟨w.heap.size, 0, none⟩ = some (.int .i64 0) ∧ w9.cell? ⟨w.heap.size, 1, none⟩ = some (.string ⟨#[]⟩) ∧ w9.cell? ⟨w.heap.size, 2, none⟩ = some (.string str) ∧ w9.cell? ⟨w.heap.size, 3, none⟩ = some (.float .f64 n) ∧ w9.cell? ⟨w.heap.size, 4, none⟩ = some (.bool false) ∧ Below w3.heap.size w3 w9)
          (first | exact ⟨hK3.c 0 rfl, hK3.c 1 rfl, hK3.c 2 rfl, hK3.c 3 rfl, hK3.c 4 rfl, ⟨rfl, rfl, rfl, Nat.le_refl _, fun _ _ => rfl⟩⟩ | assumption | exact keep5 hK3.lt ‹_› ‹_›)
          (first
              | (go_at_call 9; (with_reducible refine (gjMatchesW 0 ⟨#[]⟩ str ⟨#[]⟩ right n false false _ HE.out hf1 hrs ht (fun h => by cases h)).mono ?_); rintro en w4 ⟨rfl, hb4⟩)
              | (go_at_call 10; (with_reducible refine (gjSignW op ho _).mono ?_); rintro en w5 ⟨⟨rr, rfl⟩, hb5⟩)
              | (go_at_call 9; (with_reducible refine (gjMatchesW 0 ⟨#[]⟩ str _ right n false false _ HE.out hf1 hrs ht (fun h => by cases h)).mono ?_); rintro en w6 ⟨rfl, hb6⟩)
              | fail)
        all_goals
          go_wp2
          go_ret
          rename_i hH
          exact ⟨rfl, below_of HB3.out hH.2.2.2.2.2⟩
      · have HE := Lib.hid (show existsB 0 raw = true by unfold existsB; rw [decide_eq_false hw0]; rfl)
        have hne2 : ¬ raw.toList = [] := toList_ne hw0
        have hie : raw.toList.isEmpty = false := by rw [List.isEmpty_eq_false_iff]; exact hne2
        go_enter Tryd.func4, Tryd.ntmps4
        go_upto_region 7 with (first
          | (go_at_call 8; (with_reducible refine (fitsYes 0 raw str _ _ _ hf1 hf2).mono ?_); rintro en w2 ⟨rfl, hb2⟩
             have hK2 := HK.out.below hb2
             have q0 := hK2.c 0 (v := .int .i64 0) rfl
             have q1 := hK2.c 1 (v := .string raw) rfl
             have q4 := hK2.c 4 (v := .bool ex) rfl
             have qf := hK2.f 4
             replace hK2 := Lib.hid hK2
             replace hb2 := Lib.hid hb2))
        obtain ⟨w3, hw3⟩ : ∃ w3, w2.setCell ⟨w.heap.size, 4, none⟩ (.bool true) = w3 := ⟨_, rfl⟩
        rw [hw3]
        have hK3 : Bk w3 w.heap.size 28 #[.int .i64 0, .string raw, .string str, .float .f64 n, .bool true] := by rw [← hw3]; exact hK2.out.set 4 _ rfl
        have HB3 := Lib.hid (show Below w.heap.size w w3 by rw [← hw3]; exact (below_of HB1.out hb2.out).setCell (Nat.le_refl _) _)
        clear q0 q1 q4 qf hw3
        have e0 := hK3.c 0 (v := .int .i64 0) rfl
        have e1 := hK3.c 1 (v := .string raw) rfl
        have e2 := hK3.c 2 (v := .string str) rfl
        have e3 := hK3.c 3 (v := .float .f64 n) rfl
        have e4 := hK3.c 4 (v := .bool true) rfl
        clear hK3 hK2 HK
        first
          | (go_region_with (first
              | (go_at_call 9; (with_reducible refine (gjMatchesW 0 raw str ⟨#[]⟩ right n true true _ HE.out hf1 hrs ht (fun _ => rfl)).mono ?_); rintro en w4 ⟨rfl, hb4⟩; replace hb4 := Lib.hid hb4)))
          | fail
        all_goals
          go_wp2
          go_ret
          exact ⟨rfl, below_of HB3.out (below_drewl hb4.out)⟩
    · have HE := Lib.hid (show existsB k raw = true by unfold existsB; rw [decide_eq_false hk0]; rfl)
      have hkn : (k != 0) = true := bne_iff_ne.2 hk0
      go_enter Tryd.func4, Tryd.ntmps4
      go_upto_region 7 with (first
        | (go_at_call 8; (with_reducible refine (fitsYes k raw str _ _ _ hf1 hf2).mono ?_); rintro en w2 ⟨rfl, hb2⟩
           have hK2 := HK.out.below hb2
           have q0 := hK2.c 0 (v := .int .i64 k) rfl
           have q1 := hK2.c 1 (v := .string raw) rfl
           have q4 := hK2.c 4 (v := .bool ex) rfl
           have qf := hK2.f 4
           replace hK2 := Lib.hid hK2
           replace hb2 := Lib.hid hb2))
      obtain ⟨w3, hw3⟩ : ∃ w3, w2.setCell ⟨w.heap.size, 4, none⟩ (.bool true) = w3 := ⟨_, rfl⟩
      rw [hw3]
      have hK3 : Bk w3 w.heap.size 28 #[.int .i64 k, .string raw, .string str, .float .f64 n, .bool true] := by rw [← hw3]; exact hK2.out.set 4 _ rfl
      have HB3 := Lib.hid (show Below w.heap.size w w3 by rw [← hw3]; exact (below_of HB1.out hb2.out).setCell (Nat.le_refl _) _)
      clear q0 q1 q4 qf hw3
      have e0 := hK3.c 0 (v := .int .i64 k) rfl
      have e1 := hK3.c 1 (v := .string raw) rfl
      have e2 := hK3.c 2 (v := .string str) rfl
      have e3 := hK3.c 3 (v := .float .f64 n) rfl
      have e4 := hK3.c 4 (v := .bool true) rfl
      clear hK3 hK2 HK
      first
        | (go_region_with (first
            | (go_at_call 9; (with_reducible refine (gjMatchesW k raw str ⟨#[]⟩ right n true true _ HE.out hf1 hrs ht (fun _ => rfl)).mono ?_); rintro en w4 ⟨rfl, hb4⟩; replace hb4 := Lib.hid hb4)))
        | fail
      all_goals
        go_wp2
        go_ret
        exact ⟨rfl, below_of HB3.out (below_drewl hb4.out)⟩
end Go.Proofs.YtclemmgfilkkgaaDoor.Mh
