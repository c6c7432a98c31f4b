/- The walks of jpKind, Raw and jpTold. -/
import Derived.Test.YtkdkdhcjpgmjdaaGreatDoorJpStreamP
import Derived.Test.YtkdkdhcjpgmjdaaGreatDoorPlaces
import Derived.Test.YtkdkdhcjpgmjdaaGreatDoorJpGet2
import Derived.Deep.RegionHeld3
import Derived.Laws.DeepStrings4
namespace Go.Proofs.YtkdkdhcjpgmjdaaGreatDoor.Jp
open Go.RowKit L
set_option linter.unusedVariables false
set_option linter.unusedSimpArgs false

theorem kindX (k : Nat) (x y : Int) (hk : k ≤ 6) (hx : x = (k : Int)) (hy : y = (jk k : Int)) (w : World) : Calls Tryz.prog 26 #[.int .i64 x] w fun e w' => e = .returned (.int .i64 y) ∧ w = w' := by
  rcases (by omega : k = 0 ∨ k = 1 ∨ k = 2 ∨ k = 3 ∨ k = 4 ∨ k = 5 ∨ k = 6) with rfl | rfl | rfl | rfl | rfl | rfl | rfl
  · obtain rfl : x = 0 := hx
    obtain rfl : y = 6 := hy
    go_enter Tryz.func26, Tryz.ntmps26
    go_wp2
    go_ret
    exact ⟨rfl, rfl⟩
  · obtain rfl : x = 1 := hx
    obtain rfl : y = 5 := hy
    go_enter Tryz.func26, Tryz.ntmps26
    go_wp2
    go_ret
    exact ⟨rfl, rfl⟩
  · obtain rfl : x = 2 := hx
    obtain rfl : y = 5 := hy
    go_enter Tryz.func26, Tryz.ntmps26
    go_wp2
    go_ret
    exact ⟨rfl, rfl⟩
  · obtain rfl : x = 3 := hx
    obtain rfl : y = 2 := hy
    go_enter Tryz.func26, Tryz.ntmps26
    go_wp2
    go_ret
    exact ⟨rfl, rfl⟩
  · obtain rfl : x = 4 := hx
    obtain rfl : y = 1 := hy
    go_enter Tryz.func26, Tryz.ntmps26
    go_wp2
    go_ret
    exact ⟨rfl, rfl⟩
  · obtain rfl : x = 5 := hx
    obtain rfl : y = 4 := hy
    go_enter Tryz.func26, Tryz.ntmps26
    go_wp2
    go_ret
    exact ⟨rfl, rfl⟩
  · obtain rfl : x = 6 := hx
    obtain rfl : y = 3 := hy
    go_enter Tryz.func26, Tryz.ntmps26
    go_wp2
    go_ret
    exact ⟨rfl, rfl⟩
theorem kindW (k : Nat) (hk : k ≤ 6) (w : World) : Calls Tryz.prog 26 #[.int .i64 (k : Int)] w fun e w' => e = .returned (.int .i64 (jk k : Int)) ∧ w = w' := kindX k _ _ hk rfl rfl w
/-- The text of a place. -/
def rawAt (s : ByteArray) (k b e : Nat) : ByteArray := if k = 4 then s.extract (b + 1) (e - 1) else s.extract b e
theorem rawAt_of (s : ByteArray) {k b e : Nat} (hk : k ≤ 6) (h : b ≤ e) : rawOf s (jk k) b (e - b) = rawAt s k b e := by
  unfold rawOf rawAt
  have e1 : (jk k = 1) ↔ k = 4 := by
    rcases (by omega : k = 0 ∨ k = 1 ∨ k = 2 ∨ k = 3 ∨ k = 4 ∨ k = 5 ∨ k = 6) with rfl | rfl | rfl | rfl | rfl | rfl | rfl <;> decide
  rw [show b + (e - b) = e by omega]
  by_cases h4 : k = 4
  · rw [if_pos (e1.2 h4), if_pos h4]
  · rw [if_neg fun h => h4 (e1.1 h), if_neg h4]
set_option maxRecDepth 100000 in
set_option maxHeartbeats 4000000 in
theorem rawW (s : ByteArray) (k b e : Nat) (vn vk : Value) (w : World) (hs : s.size ≤ 1000000) (hbe : b < e) (he : e ≤ s.size) (h4 : k = 4 → b + 2 ≤ e) (hk : k ≤ 6) :
    Calls Tryz.prog 27 #[.string s, .agg #[.int .i64 (k : Int), .int .i64 (b : Int), .int .i64 (e : Int), vn, vk]] w fun en w' => en = .returned (.string (rawAt s k b e)) ∧ Below w.heap.size w w' := by
  have HB := Lib.hid (below_alloc (Below.refl w.heap.size w) (.cells #[.int .i64 (k : Int), .int .i64 (b : Int), .int .i64 (e : Int), vn, vk] 27))
  have hp := B5.new w (.int .i64 (k : Int)) (.int .i64 (b : Int)) (.int .i64 (e : Int)) vn vk
  have q0 := hp.c0
  have q1 := hp.c1
  have q2 := hp.c2
  clear hp
  by_cases h : k = 4
  · subst h
    have h42 := h4 rfl
    have HR := Lib.hid (show rawAt s 4 b e = s.extract (b + 1) (e - 1) from rfl)
    clear h4
    go_enter Tryz.func27, Tryz.ntmps27
    go_wp2
    go_ret
    exact ⟨by rw [HR.out]; congr 3; all_goals omega, HB.out⟩
  · have HR := Lib.hid (show rawAt s k b e = s.extract b e by unfold rawAt; rw [if_neg h])
    have hk4 : ((k : Int) == 4) = false := beq_eq_false_iff_ne.2 (by omega)
    clear h4
    go_enter Tryz.func27, Tryz.ntmps27
    go_wp2
    go_ret
    exact ⟨by rw [HR.out]; rfl, HB.out⟩
theorem keep9 {w2 w3 w4 : World} {g1 g2 : Nat} {r1 r2 r3 p0 p1 p2 p3 p4 : Value} (h1 : g1 < w2.heap.size) (h2 : g2 < w2.heap.size)
    (h : w3.cell? ⟨g1, 1, none⟩ = some r1 ∧ w3.cell? ⟨g1, 2, none⟩ = some r2 ∧ w3.cell? ⟨g1, 3, none⟩ = some r3 ∧ w3.cell? ⟨g2, 0, none⟩ = some p0 ∧ w3.cell? ⟨g2, 1, none⟩ = some p1 ∧ w3.cell? ⟨g2, 2, none⟩ = some p2 ∧ w3.cell? ⟨g2, 3, none⟩ = some p3 ∧ w3.cell? ⟨g2, 4, none⟩ = some p4 ∧ Below w2.heap.size w2 w3)
    (hb : Below w3.heap.size w3 w4) : w4.cell? ⟨g1, 1, none⟩ = some r1 ∧ w4.cell? ⟨g1, 2, none⟩ = some r2 ∧ w4.cell? ⟨g1, 3, none⟩ = some r3 ∧ w4.cell? ⟨g2, 0, none⟩ = some p0 ∧ w4.cell? ⟨g2, 1, none⟩ = some p1 ∧ w4.cell? ⟨g2, 2, none⟩ = some p2 ∧ w4.cell? ⟨g2, 3, none⟩ = some p3 ∧ w4.cell? ⟨g2, 4, none⟩ = some p4 ∧ Below w2.heap.size w2 w4 := by
  obtain ⟨a1, a2, a3, a4, a5, a6, a7, a8, hB⟩ := h
  have l1 : g1 < w3.heap.size := Nat.lt_of_lt_of_le h1 hB.size
  have l2 : g2 < w3.heap.size := Nat.lt_of_lt_of_le h2 hB.size
  exact ⟨(hb.cell l1).trans a1, (hb.cell l1).trans a2, (hb.cell l1).trans a3, (hb.cell l2).trans a4, (hb.cell l2).trans a5, (hb.cell l2).trans a6, (hb.cell l2).trans a7, (hb.cell l2).trans a8, below_of hB hb⟩
/-- A place among places, in memory. -/
theorem plsAt {w : World} {B : Nat → Prop} : ∀ {ps : List Pl} {xs : List Value} {k : Nat} {p : Pl}, PlsC w B ps xs → ps[k]? = some p → ∃ cs, PlC w B p cs ∧ ∀ j, j < 5 → xs[k * 5 + j]? = cs[j]?
  | [], xs, k, p, h, hk => by cases hk
  | q :: qs, xs, 0, p, h, hk => by
    simp only [PlsC] at h
    obtain ⟨cs, r, rfl, hl, hq, hr⟩ := h
    simp only [List.getElem?_cons_zero, Option.some.injEq] at hk
    subst hk
    exact ⟨cs, hq, fun j hj => by rw [Nat.zero_mul, Nat.zero_add, List.getElem?_append_left (by omega)]⟩
  | q :: qs, xs, k + 1, p, h, hk => by
    simp only [PlsC] at h
    obtain ⟨cs, r, rfl, hl, hq, hr⟩ := h
    rw [List.getElem?_cons_succ] at hk
    obtain ⟨ds, h1, h2⟩ := plsAt hr hk
    exact ⟨ds, h1, fun j hj => by rw [← h2 j hj, List.getElem?_append_right (by omega)]; congr 1; omega⟩
theorem add_off (a : Addr) (j : Nat) (h : 0 < j) : a.add j = ⟨a.block, a.off + j, none⟩ := by
  unfold Addr.add
  rw [if_neg (by omega)]
/-- The five cells of place k of a row of places. -/
theorem rowAt {w : World} {B : Nat → Prop} {A : Option Addr} {n c k : Nat} {xs : List Value} {ps : List Pl} {p : Pl} (hR : Row w B 5 A n c xs) (hP : PlsC w B ps xs) (hn : n = ps.length) (hk : ps[k]? = some p) :
    ∃ (ad : Addr) (An : Option Addr) (cn : Nat) (Ak : Option Addr) (ck : Nat) (ys : List Value), A = some ad ∧ ad.block < w.heap.size ∧ B ad.block ∧
      w.cell? (ad.add (k * 5)) = some (.int .i64 (p.kind : Int)) ∧ w.cell? ⟨(ad.add (k * 5)).block, (ad.add (k * 5)).off + 1, none⟩ = some (.int .i64 (p.b : Int)) ∧ w.cell? ⟨(ad.add (k * 5)).block, (ad.add (k * 5)).off + 2, none⟩ = some (.int .i64 (p.e : Int)) ∧
      w.cell? ⟨(ad.add (k * 5)).block, (ad.add (k * 5)).off + 3, none⟩ = some (.slice An p.names.length cn) ∧ w.cell? ⟨(ad.add (k * 5)).block, (ad.add (k * 5)).off + 4, none⟩ = some (.slice Ak p.kids.length ck) ∧
      Row w B 2 An p.names.length cn (spv p.names) ∧ Row w B 5 Ak p.kids.length ck ys ∧ PlsC w B p.kids ys := by
  have hkl : k < ps.length := (List.getElem?_eq_some_iff.1 hk).1
  obtain ⟨cs, hc, hx⟩ := plsAt hP hk
  obtain ⟨ad, rfl, hB, hlt, hcell⟩ := hR.2.2.2 (by omega)
  cases p with
  | mk kd b e ns ks =>
    simp only [PlC] at hc
    obtain ⟨An, cn, Ak, ck, ys, rfl, r1, r2, r3⟩ := hc
    refine ⟨ad, An, cn, Ak, ck, ys, rfl, hlt, hB, ?_, ?_, ?_, ?_, ?_, r1, r2, r3⟩
    · exact hcell (k * 5 + 0) _ (hx 0 (by omega))
    · rw [← add_off _ _ (by omega), add_add]; exact hcell (k * 5 + 1) _ (hx 1 (by omega))
    · rw [← add_off _ _ (by omega), add_add]; exact hcell (k * 5 + 2) _ (hx 2 (by omega))
    · rw [← add_off _ _ (by omega), add_add]; exact hcell (k * 5 + 3) _ (hx 3 (by omega))
    · rw [← add_off _ _ (by omega), add_add]; exact hcell (k * 5 + 4) _ (hx 4 (by omega))
end Go.Proofs.YtkdkdhcjpgmjdaaGreatDoor.Jp
