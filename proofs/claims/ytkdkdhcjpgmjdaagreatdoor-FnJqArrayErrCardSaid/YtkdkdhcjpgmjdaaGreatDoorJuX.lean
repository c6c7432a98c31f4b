/- The walk of jsonparser's unescapeToUTF8Config. -/
import Derived.Test.YtkdkdhcjpgmjdaaGreatDoorJuW
import Derived.Test.YtkdkdhcjpgmjdaaGreatDoorEncR
import Derived.Test.YtkdkdhcjpgmjdaaGreatDoorJpCget
import Derived.Laws.CopyOwn
namespace Go.Proofs.YtkdkdhcjpgmjdaaGreatDoor.Jp
open Go.RowKit L
set_option linter.unusedVariables false
set_option linter.unusedSimpArgs false

theorem splice_splice {α : Type} (L : List α) (o : Nat) (a b : List α) (h : o + a.length + b.length ≤ L.length) : splice (splice L o a) (o + a.length) b = splice L o (a ++ b) := by
  unfold splice
  have h1 : (L.take o).length = o := by rw [List.length_take]; omega
  rw [← List.append_assoc (L.take o) a, List.take_append_of_le_length (by rw [List.length_append, h1]; omega)]
  have h2 : ((L.take o) ++ a).take (o + a.length) = L.take o ++ a := List.take_of_length_le (by rw [List.length_append, h1]; omega)
  rw [h2, List.drop_append, List.drop_of_length_le (by rw [List.length_append, h1]; omega), List.nil_append, List.length_append, h1, List.drop_drop, List.append_assoc, List.length_append, List.append_assoc]
  congr 4
  omega
theorem splice_set {w : World} {g o : Nat} {cur : List Value} {t : TypeId} {fr : Nat × Nat} (h : w.heap[g]? = some (.cells cur.toArray t fr)) (v : Value) (ho : o < cur.length) :
    (w.setCell ⟨g, o, none⟩ v).heap[g]? = some (.cells (splice cur o [v]).toArray t fr) := by
  have e : splice cur o [v] = cur.set o v := by
    rw [List.set_eq_take_append_cons_drop, if_pos ho]
    rfl
  rw [e]
  simp [World.setCell, Array.getElem?_modify, h]
theorem splice_sets {g : Nat} {t : TypeId} {fr : Nat × Nat} : ∀ (vs : List Value) (o : Nat) (w : World) (cur : List Value), w.heap[g]? = some (.cells cur.toArray t fr) → o + vs.length ≤ cur.length →
    (w.setCells g o vs).heap[g]? = some (.cells (splice cur o vs).toArray t fr)
  | [], o, w, cur, h, _ => by simpa [World.setCells, splice] using h
  | v :: r, o, w, cur, h, hl => by
    simp only [List.length_cons] at hl
    have h1 := splice_set h v (o := o) (by omega)
    have h2 := splice_sets r (o + 1) _ _ h1 (by rw [length_splice _ _ _ (by simp; omega)]; omega)
    have h3 := splice_splice cur o [v] r (by simp; omega)
    simp only [List.length_cons, List.length_nil, Nat.zero_add] at h3
    rw [World.setCells, h2, h3]
    rfl
theorem below_sets {B g : Nat} {w0 : World} : ∀ (vs : List Value) (o : Nat) (w : World), Below B w0 w → B ≤ g → Below B w0 (w.setCells g o vs)
  | [], _, _, h, _ => h
  | v :: r, o, w, h, hg => below_sets r (o + 1) _ (h.setCell hg _) hg
theorem sets_size {g : Nat} : ∀ (vs : List Value) (o : Nat) (w : World), (w.setCells g o vs).heap.size = w.heap.size
  | [], _, _ => rfl
  | v :: r, o, w => by rw [World.setCells, sets_size r]; simp [World.setCell]
theorem kp_set {w : World} {g o : Nat} {v : Value} : Kp (fun j => j ≠ g) w (w.setCell ⟨g, o, none⟩ v) :=
  ⟨rfl, rfl, rfl, by simp [World.setCell], fun j hj _ => Below.heap_setCell w _ _ j hj⟩
theorem kp_sets {g : Nat} : ∀ (vs : List Value) (o : Nat) (w : World), Kp (fun j => j ≠ g) w (w.setCells g o vs)
  | [], _, w => Kp.refl _ w
  | v :: r, o, w => Kp.trans (kp_set (v := v) (o := o)) (kp_sets r (o + 1) _)
theorem row_cell {w : World} {g : Nat} {cur : List Value} {t : TypeId} {fr : Nat × Nat} (h : w.heap[g]? = some (.cells cur.toArray t fr)) {o : Nat} (ho : o < cur.length) : w.cell? ⟨g, o, none⟩ = some cur[o] := by
  rw [cell_of_row w g o _ _ _ h]
  simp [ho]
/-- The table of the short escapes, as it is laid. -/
structure Tb (w : World) : Prop where
  lt : 14 < w.heap.size
  at_ : ∀ e : Nat, e = 34 ∨ e = 92 ∨ e = 47 ∨ e = 98 ∨ e = 102 ∨ e = 110 ∨ e = 114 ∨ e = 116 → w.cell? ⟨14, e, none⟩ = some (.int .u8 (shortI e))
theorem Tb.keep {w w' : World} {B : Nat → Prop} (h : Tb w) (hk : Kp B w w') (hB : B 14) : Tb w' :=
  ⟨Nat.lt_of_lt_of_le h.lt hk.size, fun e he => (World.cell?_of_block (hk.block _ hB h.lt)).trans (h.at_ e he)⟩
theorem Tb.below {w w' : World} (h : Tb w) (hb : Below w.heap.size w w') : Tb w' := h.keep (B := fun _ => True) (Kp.of_below hb) trivial
/-- What one step has done: k bytes read, l written at o of block g. -/
def UeP (t : ByteArray) (g o : Nat) (cur : List Value) (tt : TypeId) (B : Nat) (w0 w : World) (e : Ending) (w' : World) : Prop :=
  ∃ (k : Nat) (l : List Int), e = .returned (.tuple #[.int .i64 (k : Int), .int .i64 (l.length : Int)]) ∧ UnSt t k l ∧ Hid (w'.heap[g]? = some (.cells (splice cur o (l.map (Value.int .u8))).toArray tt (0, 0))) ∧ Below B w0 w' ∧ Kp (fun j => j ≠ g) w w'
set_option maxRecDepth 100000 in
set_option maxHeartbeats 4000000 in
theorem uescW (a b : Bool) (cn : Int) (bi i n c g o m C : Nat) (t : ByteArray) (cur : List Value) (tt : TypeId) (B : Nat) (w0 w : World)
    (hR : Rd w (some ⟨bi, i, none⟩) t) (hn : n = t.size) (hc : t.size ≤ c) (hs : t.size ≤ 1000000) (h0 : 0 < t.size) (h92 : bt t ((0 : Nat) : Int) = 92) (ho : EscOk t 0)
    (hg : w.heap[g]? = some (.cells cur.toArray tt (0, 0))) (hof : o + t.size ≤ cur.length) (hm : t.size ≤ m) (hBg : B ≤ g) (hbw : Below B w0 w) (hBs : B ≤ w.heap.size) (hT : Tb w) :
    Calls Tryz.prog 100 #[.agg #[.bool a, .bool b, .int .i64 cn], .slice (some ⟨bi, i, none⟩) n c, .slice (some ⟨g, o, none⟩) m C] w (UeP t g o cur tt B w0 w) := by
  subst hn
  have hgl : g < w.heap.size := (Array.getElem?_eq_some_iff.1 hg).1
  obtain ⟨w1, hw1⟩ : ∃ w1, w.alloc (.cells #[.bool a, .bool b, .int .i64 cn] 97) = w1 := ⟨_, rfl⟩
  have hb1 : Below w.heap.size w w1 := by rw [← hw1]; exact below_alloc (Below.refl _ _) _
  have hg1 : w1.heap[g]? = some (.cells cur.toArray tt (0, 0)) := (hb1.block g hgl).trans hg
  have hR1 := hR.below hb1
  have hT1 := hT.below hb1
  have hbw1 : Below B w0 w1 := hbw.trans (hb1.mono hBs)
  have cell : ∀ k : Nat, k < t.size → w1.cell? ((⟨bi, i, none⟩ : Addr).add k) = some (.int .u8 (bt t (k : Nat))) := fun k hk => by
    obtain ⟨ad', e, -, hcl⟩ := hR1 h0
    injection e with e
    subst e
    exact hcl k hk
  have k0 : w1.cell? ⟨bi, i, none⟩ = some (.int .u8 92) := by have := cell 0 h0; rw [h92] at this; exact this
  have HG1 := Lib.hid hg1
  have HB1 := Lib.hid hbw1
  have HK1 := Lib.hid (Kp.of_below (B := fun j => j ≠ g) hb1)
  have HR1 := Lib.hid hR1
  have HO := Lib.hid ho
  have f1 : ∀ k, w1.frozen? ⟨g, k, none⟩ = false := fun k => by simp [World.frozen?, hg1]
  have hT2 := Lib.hid hT1
  rcases ho.letters h0 h92 with ⟨hu, hl⟩ | ⟨u, hu⟩
  · have hst := UnSt.short ho h0 h92 hu
    have h2 := hst.kt
    have k1 : w1.cell? ⟨bi, i + 1, none⟩ = some (.int .u8 (bt t ((1 : Nat) : Int))) := cell 1 (by omega)
    have hd : decide ((t.size : Int) < 2) = false := by simp; omega
    have kg := row_cell hg1 (show o < cur.length by omega)
    obtain ⟨x, hx⟩ : ∃ x, cur[o] = x := ⟨_, rfl⟩
    rw [hx] at kg
    have fg := f1 o
    have ht1 : (1 : Int) < (t.size : Int) := by omega
    have hm0 : (0 : Int) < (m : Int) := by omega
    have HST := Lib.hid hst
    have hol : o < cur.length := by omega
    clear hg1 hbw1 hb1 hR1 hT1 hst ho hu cell f1 hR hg hbw hT hx
    rw [show (0 + 1 : Nat) = 1 from rfl] at hl
    obtain ⟨e, he⟩ : ∃ e, bt t ((1 : Nat) : Int) = e := ⟨_, rfl⟩
    rw [he] at HST hl k1
    clear he
    rcases hl with rfl | rfl | rfl | rfl | rfl | rfl | rfl | rfl
    · have kt : w1.cell? ⟨14, 34, none⟩ = some (.int .u8 34) := hT2.out.at_ 34 (by omega)
      replace HST := Lib.hid (show UnSt t 2 [34] from HST.out)
      go_enter Tryz.func100, Tryz.ntmps100
      go_wp2
      go_ret2
      exact ⟨2, [34], rfl, HST.out, Lib.hid (splice_set HG1.out (.int .u8 34) hol), HB1.out.setCell (show B ≤ g from hBg) _, HK1.out.trans kp_set⟩
    · have kt : w1.cell? ⟨14, 92, none⟩ = some (.int .u8 92) := hT2.out.at_ 92 (by omega)
      replace HST := Lib.hid (show UnSt t 2 [92] from HST.out)
      go_enter Tryz.func100, Tryz.ntmps100
      go_wp2
      go_ret2
      exact ⟨2, [92], rfl, HST.out, Lib.hid (splice_set HG1.out (.int .u8 92) hol), HB1.out.setCell (show B ≤ g from hBg) _, HK1.out.trans kp_set⟩
    · have kt : w1.cell? ⟨14, 47, none⟩ = some (.int .u8 47) := hT2.out.at_ 47 (by omega)
      replace HST := Lib.hid (show UnSt t 2 [47] from HST.out)
      go_enter Tryz.func100, Tryz.ntmps100
      go_wp2
      go_ret2
      exact ⟨2, [47], rfl, HST.out, Lib.hid (splice_set HG1.out (.int .u8 47) hol), HB1.out.setCell (show B ≤ g from hBg) _, HK1.out.trans kp_set⟩
    · have kt : w1.cell? ⟨14, 98, none⟩ = some (.int .u8 8) := hT2.out.at_ 98 (by omega)
      replace HST := Lib.hid (show UnSt t 2 [8] from HST.out)
      go_enter Tryz.func100, Tryz.ntmps100
      go_wp2
      go_ret2
      exact ⟨2, [8], rfl, HST.out, Lib.hid (splice_set HG1.out (.int .u8 8) hol), HB1.out.setCell (show B ≤ g from hBg) _, HK1.out.trans kp_set⟩
    · have kt : w1.cell? ⟨14, 102, none⟩ = some (.int .u8 12) := hT2.out.at_ 102 (by omega)
      replace HST := Lib.hid (show UnSt t 2 [12] from HST.out)
      go_enter Tryz.func100, Tryz.ntmps100
      go_wp2
      go_ret2
      exact ⟨2, [12], rfl, HST.out, Lib.hid (splice_set HG1.out (.int .u8 12) hol), HB1.out.setCell (show B ≤ g from hBg) _, HK1.out.trans kp_set⟩
    · have kt : w1.cell? ⟨14, 110, none⟩ = some (.int .u8 10) := hT2.out.at_ 110 (by omega)
      replace HST := Lib.hid (show UnSt t 2 [10] from HST.out)
      go_enter Tryz.func100, Tryz.ntmps100
      go_wp2
      go_ret2
      exact ⟨2, [10], rfl, HST.out, Lib.hid (splice_set HG1.out (.int .u8 10) hol), HB1.out.setCell (show B ≤ g from hBg) _, HK1.out.trans kp_set⟩
    · have kt : w1.cell? ⟨14, 114, none⟩ = some (.int .u8 13) := hT2.out.at_ 114 (by omega)
      replace HST := Lib.hid (show UnSt t 2 [13] from HST.out)
      go_enter Tryz.func100, Tryz.ntmps100
      go_wp2
      go_ret2
      exact ⟨2, [13], rfl, HST.out, Lib.hid (splice_set HG1.out (.int .u8 13) hol), HB1.out.setCell (show B ≤ g from hBg) _, HK1.out.trans kp_set⟩
    · have kt : w1.cell? ⟨14, 116, none⟩ = some (.int .u8 9) := hT2.out.at_ 116 (by omega)
      replace HST := Lib.hid (show UnSt t 2 [9] from HST.out)
      go_enter Tryz.func100, Tryz.ntmps100
      go_wp2
      go_ret2
      exact ⟨2, [9], rfl, HST.out, Lib.hid (splice_set HG1.out (.int .u8 9) hol), HB1.out.setCell (show B ≤ g from hBg) _, HK1.out.trans kp_set⟩
  · have h6 : 6 ≤ t.size := by have := (unit_some hu).2.2.2.2.2.2; omega
    have h117 : bt t ((1 : Nat) : Int) = 117 := by have := (unit_some hu).2.1; simpa using this
    have k1 : w1.cell? ⟨bi, i + 1, none⟩ = some (.int .u8 117) := by have := cell 1 (by omega); rw [h117] at this; exact this
    have hd : decide ((t.size : Int) < 2) = false := by simp; omega
    have ht1 : (1 : Int) < (t.size : Int) := by omega
    have hfree : ∀ j, j < cur.length → w1.frozen? ⟨g, j, none⟩ = false := fun j _ => f1 j
    have hsome : ∀ j, j < cur.length → (w1.cell? ⟨g, j, none⟩).isSome = true := fun j hj => by rw [row_cell hg1 hj]; rfl
    have HDE := Lib.hid (decW ⟨bi, i, none⟩ t c t.size u w1 hR1 rfl rfl hc hs ho hu)
    have hol : o + t.size ≤ cur.length := hof
    have HSO := Lib.hid hsome
    have HFR := Lib.hid hfree
    clear hg1 hbw1 hb1 hR1 hT1 ho hu cell f1 hR hg hbw hT hsome hfree
    go_enter Tryz.func100, Tryz.ntmps100
    go_wp2_with (first
      | (go_at_call 107; go_must (refine HDE.out.mono ?_); rintro e w2 ⟨r, k, rfl, r0, r1, hst, m2, rfl⟩
         have hlk := hst.lk
         have hkt := hst.kt
         have hk0 := hst.k0
         have hrc : (Lib.runeCells r).length = (Lib.encodeRuneZ r).length := by simp [Lib.runeCells]
         have hkn : ((k : Int) == -1) = false := by rw [beq_eq_false_iff_ne]; omega
         replace hst := Lib.hid hst)
      | (go_at_call 108; go_must (refine (encodeRuneW g o m C r (by omega) (by omega) (w1.drewN m2) (by omega) (fun j hj => HSO.out (o + j) (by omega)) (fun j hj => HFR.out (o + j) (by omega))).mono ?_); rintro e w3 ⟨rfl, hw3⟩; replace hw3 := Lib.hid hw3))
    go_ret2
    have hw := hw3.out
    subst hw
    have hbx : Below B w0 (w1.drewN m2) := ⟨HB1.out.os, HB1.out.tape, HB1.out.output, HB1.out.size, HB1.out.block⟩
    have hkx : Kp (fun j => j ≠ g) w (w1.drewN m2) := ⟨HK1.out.os, HK1.out.tape, HK1.out.output, HK1.out.size, HK1.out.block⟩
    exact ⟨k, Lib.encodeRuneZ r, rfl, hst.out, Lib.hid (splice_sets (Lib.runeCells r) o (w1.drewN m2) cur HG1.out (by omega)), below_sets _ _ _ hbx hBg, hkx.trans (kp_sets (Lib.runeCells r) o (w1.drewN m2))⟩
end Go.Proofs.YtkdkdhcjpgmjdaaGreatDoor.Jp
