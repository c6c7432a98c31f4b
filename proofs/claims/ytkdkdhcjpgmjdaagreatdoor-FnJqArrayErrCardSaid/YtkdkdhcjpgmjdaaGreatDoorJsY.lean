/- arrayEachConfig over a whole array, with the search's call back. -/
import Derived.Test.YtkdkdhcjpgmjdaaGreatDoorJpTold
import Derived.Test.YtkdkdhcjpgmjdaaGreatDoorJpCget
import Derived.Test.YtkdkdhcjpgmjdaaGreatDoorJsX
import Derived.Test.YtkdkdhcjpgmjdaaGreatDoorJpEach5
import Derived.Deep.RegionWith
import Derived.Lib.LaidU8
import Derived.Test.YtkdkdhcjpgmjdaaGreatDoorJuY
import Derived.Deep.Light
import Derived.Deep.DeepCutAuto
import Derived.Deep.CutBlock
import Derived.Deep.RegionHeld3
import Derived.Deep.LoopGhost
/- The search's callees at a place where the order is drawn. -/
namespace Go.Proofs.YtkdkdhcjpgmjdaaGreatDoor.Jp
open Go.RowKit L
set_option linter.unusedVariables false
set_option linter.unusedSimpArgs false

theorem objQ (A : Option Addr) (s : ByteArray) (m c q : Nat) (a b : Bool) (cn : Int) (w : World) (h : Rd w A s) (hm : m = s.size) (hs : s.size ≤ 1000000) (hc : s.size ≤ c) (hq : blk a 123 125 0 (tx s) = some q) :
    Calls Tryz.prog 76 #[.agg #[.bool a, .bool b, .int .i64 cn], .slice A m c, .int .u8 123, .int .u8 125] w.drew fun e w' => e = .returned (.int .i64 (q : Int)) ∧ Below w.heap.size w w' := by
  refine (blkObjW A s m c a b cn w.drew h.drew hm hs hc).mono ?_
  rintro e w' ⟨⟨z, rfl, ⟨q', hq', rfl⟩ | ⟨hno, -⟩⟩, hb⟩
  · obtain rfl : q = q' := Option.some.inj (hq.symm.trans hq')
    exact ⟨rfl, below_drew_one hb⟩
  · rw [hq] at hno; cases hno
theorem arrQ (A : Option Addr) (s : ByteArray) (m c q : Nat) (a b : Bool) (cn : Int) (w : World) (h : Rd w A s) (hm : m = s.size) (hs : s.size ≤ 1000000) (hc : s.size ≤ c) (hq : blk a 91 93 0 (tx s) = some q) :
    Calls Tryz.prog 76 #[.agg #[.bool a, .bool b, .int .i64 cn], .slice A m c, .int .u8 91, .int .u8 93] w.drew fun e w' => e = .returned (.int .i64 (q : Int)) ∧ Below w.heap.size w w' := by
  refine (blkArrW A s m c a b cn w.drew h.drew hm hs hc).mono ?_
  rintro e w' ⟨⟨z, rfl, ⟨q', hq', rfl⟩ | ⟨hno, -⟩⟩, hb⟩
  · obtain rfl : q = q' := Option.some.inj (hq.symm.trans hq')
    exact ⟨rfl, below_drew_one hb⟩
  · rw [hq] at hno; cases hno
theorem strQ (A : Option Addr) (s : ByteArray) (m c q : Nat) (a b bb : Bool) (cn : Int) (w : World) (h : Rd w A s) (hm : m = s.size) (hs : s.size ≤ 1000000) (hc : s.size ≤ c) (hq : endI 34 (tx s) = (q : Int)) (hb : endE 34 (tx s) = bb) :
    Calls Tryz.prog 89 #[.agg #[.bool a, .bool b, .int .i64 cn], .slice A m c, .int .u8 34] w.drew fun e w' => e = .returned (.tuple #[.int .i64 (q : Int), .bool bb]) ∧ Below w.heap.size w w' := by
  refine (strEndW 34 34 (.inl ⟨rfl, rfl⟩) A s m c a b cn w.drew h.drew hm hs hc).mono ?_
  rintro e w' ⟨rfl, hw⟩
  rw [hq, hb]
  exact ⟨rfl, below_drew_one hw⟩
theorem nextQ (A : Option Addr) (s : ByteArray) (m c q : Nat) (a b : Bool) (cn : Int) (w : World) (h : Rd w A s) (hm : m = s.size) (hs : s.size ≤ 1000000) (hc : s.size ≤ c) (hq : nxt (tx s) = some q) :
    Calls Tryz.prog 71 #[.agg #[.bool a, .bool b, .int .i64 cn], .slice A m c] w.drew fun e w' => e = .returned (.int .i64 (q : Int)) ∧ Below w.heap.size w w' := by
  refine (nextW A s m c a b cn w.drew h.drew hm hs hc).mono ?_
  rintro e w' ⟨⟨z, rfl, ⟨q', hq', rfl⟩ | ⟨hno, -⟩⟩, hb⟩
  · obtain rfl : q = q' := Option.some.inj (hq.symm.trans hq')
    exact ⟨rfl, below_drew_one hb⟩
  · rw [hq] at hno; cases hno
end Go.Proofs.YtkdkdhcjpgmjdaaGreatDoor.Jp

/- The call back of the search for an element. -/
namespace Go.Proofs.YtkdkdhcjpgmjdaaGreatDoor.Jp
open Go.RowKit L
set_option linter.unusedVariables false
set_option linter.unusedSimpArgs false

/-- What the call back has done, m elements seen: the element aI is q. -/
structure Cb (S : ByteArray) (cc aI gI gF gO : Nat) (q : Pl) (m : Nat) (w : World) : Prop where
  i : w.heap[gI]? = some (.cells #[.int .i64 (m : Int)] 3 (0, 0))
  o : ∃ x : Int, w.heap[gO]? = some (.cells #[.int .i64 x] 3 (0, 0)) ∧ (aI < m → x = ((q.b - cc : Nat) : Int))
  f : ∃ v, w.heap[gF]? = some (.cells #[v] 59 (0, 0)) ∧ (m ≤ aI → v = .slice none 0 0) ∧ (aI < m → ∃ (b' i' n' c' : Nat), v = .slice (some ⟨b', i', none⟩) n' c' ∧ n' = q.e - q.b ∧ n' ≤ c' ∧ b' < w.heap.size ∧ b' ≠ gI ∧ b' ≠ gO ∧ b' ≠ gF ∧ Rd w (some ⟨b', i', none⟩) (S.extract q.b q.e))
theorem heap_set {w : World} {g k : Nat} {v : Value} (h : k ≠ g) : (w.setCell ⟨g, 0, none⟩ v).heap[k]? = w.heap[k]? := Below.heap_setCell w _ _ k h
theorem one_set' {w : World} {b : Nat} {v u : Value} {t : TypeId} (h : w.heap[b]? = some (.cells #[v] t (0, 0))) : (w.setCell ⟨b, 0, none⟩ u).heap[b]? = some (.cells #[u] t (0, 0)) := by
  simp [World.setCell, Array.getElem?_modify, h]
/-- The blocks that the call back leaves. -/
abbrev NX (gI gF gO : Nat) : Nat → Prop := fun j => j ≠ gI ∧ j ≠ gF ∧ j ≠ gO
theorem kp_nx {gI gF gO g : Nat} {w : World} {v : Value} (h : g = gI ∨ g = gF ∨ g = gO) : Kp (NX gI gF gO) w (w.setCell ⟨g, 0, none⟩ v) :=
  ⟨rfl, rfl, rfl, by simp [World.setCell], fun j hj _ => heap_set (by rcases h with rfl | rfl | rfl <;> first | exact hj.1 | exact hj.2.1 | exact hj.2.2)⟩
theorem rd_nx {gI gF gO : Nat} {w w' : World} {ad : Addr} {s : ByteArray} (hr : Rd w (some ad) s) (hk : Kp (NX gI gF gO) w w') (hn : NX gI gF gO ad.block) : Rd w' (some ad) s := by
  intro h0
  obtain ⟨ad', e, hl, hc⟩ := hr h0
  injection e with e
  subst e
  refine ⟨ad, rfl, Nat.lt_of_lt_of_le hl hk.size, fun j hj => ?_⟩
  rw [World.cell?_of_block (hk.block _ (show NX gI gF gO (ad.add j).block by rw [add_block]; exact hn) (by rw [add_block]; exact hl))]
  exact hc j hj
set_option maxRecDepth 100000 in
set_option maxHeartbeats 4000000 in
/-- Another element. -/
theorem cbNo (gI gA gF gO gD gC m aI n' c' : Nat) (A' : Option Addr) (dt x : Int) (ev : Value) (w : World) (hm : m ≤ 1000000) (hA : w.cell? ⟨gA, 0, none⟩ = some (.int .i64 (aI : Int))) (hI : w.heap[gI]? = some (.cells #[.int .i64 (m : Int)] 3 (0, 0))) (hne : m ≠ aI) :
    Calls Tryz.prog 98 #[.slice A' n' c', .int .i64 dt, .int .i64 x, ev, .pointer (some ⟨gI, 0, none⟩), .pointer (some ⟨gA, 0, none⟩), .pointer (some ⟨gF, 0, none⟩), .pointer (some ⟨gO, 0, none⟩), .pointer (some ⟨gD, 0, none⟩), .pointer (some ⟨gC, 0, none⟩)] w
      fun e w' => e = .returned (.tuple #[]) ∧ w' = w.setCell ⟨gI, 0, none⟩ (.int .i64 ((m : Int) + 1)) := by
  have c1 : w.cell? ⟨gI, 0, none⟩ = some (.int .i64 (m : Int)) := cell_of_row _ _ 0 _ _ _ hI
  have f1 : w.frozen? ⟨gI, 0, none⟩ = false := by simp [World.frozen?, hI]
  have hb : ((m : Int) == (aI : Int)) = false := by rw [beq_eq_false_iff_ne]; omega
  have e1 : IntKind.i64.wrap ((m : Int) + 1) = (m : Int) + 1 := IntWalk.i64_in _ (by omega)
  clear hI
  go_enter Tryz.func98, Tryz.ntmps98
  go_wp2
  go_end0
  exact ⟨rfl, rfl⟩
set_option maxRecDepth 100000 in
set_option maxHeartbeats 4000000 in
/-- The element, no string. -/
theorem cbYes (gI gA gF gO gD gC m n' c' : Nat) (A' : Option Addr) (dt x : Int) (ev : Value) (vF vO : Value) (w : World) (hm : m ≤ 1000000) (hA : w.cell? ⟨gA, 0, none⟩ = some (.int .i64 (m : Int))) (hI : w.heap[gI]? = some (.cells #[.int .i64 (m : Int)] 3 (0, 0)))
    (hF : w.heap[gF]? = some (.cells #[vF] 59 (0, 0))) (hO : w.heap[gO]? = some (.cells #[vO] 3 (0, 0))) (h1 : gI ≠ gF) (h2 : gI ≠ gO) (h3 : gF ≠ gO) (hd : dt ≠ 1) :
    Calls Tryz.prog 98 #[.slice A' n' c', .int .i64 dt, .int .i64 x, ev, .pointer (some ⟨gI, 0, none⟩), .pointer (some ⟨gA, 0, none⟩), .pointer (some ⟨gF, 0, none⟩), .pointer (some ⟨gO, 0, none⟩), .pointer (some ⟨gD, 0, none⟩), .pointer (some ⟨gC, 0, none⟩)] w
      fun e w' => e = .returned (.tuple #[]) ∧ w' = ((w.setCell ⟨gF, 0, none⟩ (.slice A' n' c')).setCell ⟨gO, 0, none⟩ (.int .i64 x)).setCell ⟨gI, 0, none⟩ (.int .i64 ((m : Int) + 1)) := by
  have c1 : w.cell? ⟨gI, 0, none⟩ = some (.int .i64 (m : Int)) := cell_of_row _ _ 0 _ _ _ hI
  have c2 : w.cell? ⟨gF, 0, none⟩ = some vF := cell_of_row _ _ 0 _ _ _ hF
  have c3 : w.cell? ⟨gO, 0, none⟩ = some vO := cell_of_row _ _ 0 _ _ _ hO
  have f1 : w.frozen? ⟨gI, 0, none⟩ = false := by simp [World.frozen?, hI]
  have f2 : w.frozen? ⟨gF, 0, none⟩ = false := by simp [World.frozen?, hF]
  have f3 : w.frozen? ⟨gO, 0, none⟩ = false := by simp [World.frozen?, hO]
  have hb : ((m : Int) == (m : Int)) = true := by simp
  have hdb : (dt == 1) = false := by rw [beq_eq_false_iff_ne]; exact hd
  have e1 : IntKind.i64.wrap ((m : Int) + 1) = (m : Int) + 1 := IntWalk.i64_in _ (by omega)
  have h1' := Ne.symm h1
  have h2' := Ne.symm h2
  have h3' := Ne.symm h3
  clear hI hF hO
  go_enter Tryz.func98, Tryz.ntmps98
  go_wp2
  go_end0
  exact ⟨rfl, rfl⟩
set_option maxRecDepth 100000 in
set_option maxHeartbeats 4000000 in
/-- The element, a string: with its quotation marks. -/
theorem cbStr (gI gA gF gO gD gC m bi i0 n c j n' y : Nat) (A' : Option Addr) (c' : Nat) (x : Int) (ev : Value) (vF vO : Value) (w : World) (hm : m ≤ 1000000) (hA : w.cell? ⟨gA, 0, none⟩ = some (.int .i64 (m : Int))) (hI : w.heap[gI]? = some (.cells #[.int .i64 (m : Int)] 3 (0, 0)))
    (hF : w.heap[gF]? = some (.cells #[vF] 59 (0, 0))) (hO : w.heap[gO]? = some (.cells #[vO] 3 (0, 0))) (h1 : gI ≠ gF) (h2 : gI ≠ gO) (h3 : gF ≠ gO) (hD : w.cell? ⟨gD, 0, none⟩ = some (.slice (some ⟨bi, i0, none⟩) n c)) (hC : w.cell? ⟨gC, 0, none⟩ = some (.int .i64 (j : Int)))
    (h4 : gD ≠ gF) (h5 : gD ≠ gO) (h6 : gC ≠ gF) (h7 : gC ≠ gO) (hx : x = (y : Int) + 2) (hfit : j + y + n' + 2 ≤ n) (hnc : n ≤ c) (hn : n ≤ 1000000) :
    Calls Tryz.prog 98 #[.slice A' n' c', .int .i64 1, .int .i64 x, ev, .pointer (some ⟨gI, 0, none⟩), .pointer (some ⟨gA, 0, none⟩), .pointer (some ⟨gF, 0, none⟩), .pointer (some ⟨gO, 0, none⟩), .pointer (some ⟨gD, 0, none⟩), .pointer (some ⟨gC, 0, none⟩)] w
      fun e w' => e = .returned (.tuple #[]) ∧ w' = ((((w.setCell ⟨gF, 0, none⟩ (.slice A' n' c')).setCell ⟨gO, 0, none⟩ (.int .i64 x)).setCell ⟨gO, 0, none⟩ (.int .i64 (y : Int))).setCell ⟨gF, 0, none⟩ (.slice (some ⟨bi, i0 + (j + y), none⟩) (n' + 2) (c - (j + y)))).setCell ⟨gI, 0, none⟩ (.int .i64 ((m : Int) + 1)) := by
  have c1 : w.cell? ⟨gI, 0, none⟩ = some (.int .i64 (m : Int)) := cell_of_row _ _ 0 _ _ _ hI
  have c2 : w.cell? ⟨gF, 0, none⟩ = some vF := cell_of_row _ _ 0 _ _ _ hF
  have c3 : w.cell? ⟨gO, 0, none⟩ = some vO := cell_of_row _ _ 0 _ _ _ hO
  have f1 : w.frozen? ⟨gI, 0, none⟩ = false := by simp [World.frozen?, hI]
  have f2 : w.frozen? ⟨gF, 0, none⟩ = false := by simp [World.frozen?, hF]
  have f3 : w.frozen? ⟨gO, 0, none⟩ = false := by simp [World.frozen?, hO]
  have hb : ((m : Int) == (m : Int)) = true := by simp
  obtain ⟨p, hp⟩ : ∃ p, j + y = p := ⟨_, rfl⟩
  obtain ⟨p2, hp2⟩ : ∃ p2, p + n' + 2 = p2 := ⟨_, rfl⟩
  have hpp : p2 - p = n' + 2 := by omega
  have e1 : IntKind.i64.wrap ((m : Int) + 1) = (m : Int) + 1 := IntWalk.i64_in _ (by omega)
  have e2 : IntKind.i64.wrap (x - 2) = (y : Int) := by rw [IntWalk.i64_in _ (by omega)]; omega
  have e3 : IntKind.i64.wrap ((j : Int) + (y : Int)) = (p : Int) := by rw [IntWalk.i64_in _ (by omega)]; omega
  have e4 : IntKind.i64.wrap ((p : Int) + (n' : Int)) = (p : Int) + (n' : Int) := IntWalk.i64_in _ (by omega)
  have e5 : IntKind.i64.wrap ((p : Int) + (n' : Int) + 2) = (p2 : Int) := by rw [IntWalk.i64_in _ (by omega)]; omega
  have q1 : (p : Int) ≤ (p2 : Int) := by omega
  have q2 : (p2 : Int) ≤ (c : Int) := by omega
  have hcp : ¬ c = p := by omega
  obtain ⟨wa, hwa⟩ : ∃ wa, w.setCell ⟨gF, 0, none⟩ (.slice A' n' c') = wa := ⟨_, rfl⟩
  obtain ⟨wb, hwb⟩ : ∃ wb, wa.setCell ⟨gO, 0, none⟩ (.int .i64 x) = wb := ⟨_, rfl⟩
  obtain ⟨wc, hwc⟩ : ∃ wc, wb.setCell ⟨gO, 0, none⟩ (.int .i64 (y : Int)) = wc := ⟨_, rfl⟩
  have other : ∀ (W : World) (g k : Nat) (v : Value), k ≠ g → (W.setCell ⟨g, 0, none⟩ v).cell? ⟨k, 0, none⟩ = W.cell? ⟨k, 0, none⟩ := fun W g k v hk => World.cell?_setCell_other _ _ _ _ (by intro e; injection e with e; exact hk e.symm)
  have ca : wa.cell? ⟨gO, 0, none⟩ = some vO := by rw [← hwa, other _ _ _ _ (Ne.symm h3)]; exact c3
  have fa : wa.frozen? ⟨gO, 0, none⟩ = false := by rw [← hwa, World.frozen?_setCell]; exact f3
  have cb : wb.cell? ⟨gO, 0, none⟩ = some (.int .i64 x) := by rw [← hwb]; exact World.cell?_setCell_same _ _ _ ca
  have fb : wb.frozen? ⟨gO, 0, none⟩ = false := by rw [← hwb, World.frozen?_setCell]; exact fa
  have cc1 : wc.cell? ⟨gO, 0, none⟩ = some (.int .i64 (y : Int)) := by rw [← hwc]; exact World.cell?_setCell_same _ _ _ cb
  have cc2 : wc.cell? ⟨gD, 0, none⟩ = some (.slice (some ⟨bi, i0, none⟩) n c) := by rw [← hwc, other _ _ _ _ h5, ← hwb, other _ _ _ _ h5, ← hwa, other _ _ _ _ h4]; exact hD
  have cc3 : wc.cell? ⟨gC, 0, none⟩ = some (.int .i64 (j : Int)) := by rw [← hwc, other _ _ _ _ h7, ← hwb, other _ _ _ _ h7, ← hwa, other _ _ _ _ h6]; exact hC
  have cc4 : wc.cell? ⟨gF, 0, none⟩ = some (.slice A' n' c') := by rw [← hwc, other _ _ _ _ h3, ← hwb, other _ _ _ _ h3, ← hwa]; exact World.cell?_setCell_same _ _ _ c2
  have cc5 : wc.cell? ⟨gI, 0, none⟩ = some (.int .i64 (m : Int)) := by rw [← hwc, other _ _ _ _ h2, ← hwb, other _ _ _ _ h2, ← hwa, other _ _ _ _ h1]; exact c1
  have fc4 : wc.frozen? ⟨gF, 0, none⟩ = false := by rw [← hwc, World.frozen?_setCell, ← hwb, World.frozen?_setCell, ← hwa, World.frozen?_setCell]; exact f2
  have fc5 : wc.frozen? ⟨gI, 0, none⟩ = false := by rw [← hwc, World.frozen?_setCell, ← hwb, World.frozen?_setCell, ← hwa, World.frozen?_setCell]; exact f1
  have h1' := Ne.symm h1
  clear other h2 h3 h4 h5 h6 h7
  rw [hp, hwa, hwb, hwc]
  have HX := Lib.hid hx
  clear hI hF hO hx hp hp2
  go_enter Tryz.func98, Tryz.ntmps98
  go_wp2
  go_end0
  exact ⟨rfl, rfl⟩
end Go.Proofs.YtkdkdhcjpgmjdaaGreatDoor.Jp

/- arrayEachConfig over a whole array, with the search's call back. -/
namespace Go.Proofs.YtkdkdhcjpgmjdaaGreatDoor.Jp
open Go.RowKit L
set_option linter.unusedVariables false
set_option linter.unusedSimpArgs false

theorem jk_lt (k : Nat) (hk : k ≤ 6) : (jk k = 1 ↔ k = 4) := by
  rcases (by omega : k = 0 ∨ k = 1 ∨ k = 2 ∨ k = 3 ∨ k = 4 ∨ k = 5 ∨ k = 6) with rfl | rfl | rfl | rfl | rfl | rfl | rfl <;> decide
/-- One call back: the element m is p; the sought one is aI, q. -/
theorem cbStep (S : ByteArray) (gI gA gF gO gD gC m aI bi i0 n c j cc n' c' : Nat) (p q : Pl) (A' : Option Addr) (x : Int) (ev : Value) (w : World) (hm : m ≤ 1000000) (hcb : Cb S cc aI gI gF gO q m w) (hA : w.cell? ⟨gA, 0, none⟩ = some (.int .i64 (aI : Int)))
    (h1 : gI ≠ gF) (h2 : gI ≠ gO) (h3 : gF ≠ gO) (hD : w.cell? ⟨gD, 0, none⟩ = some (.slice (some ⟨bi, i0, none⟩) n c)) (hC : w.cell? ⟨gC, 0, none⟩ = some (.int .i64 (j : Int))) (h4 : gD ≠ gF) (h5 : gD ≠ gO) (h6 : gC ≠ gF) (h7 : gC ≠ gO)
    (hpq : m = aI → p = q) (hk6 : p.kind ≤ 6) (hbe : p.b < p.e) (hpS : p.e ≤ S.size) (hcc : cc ≤ p.b) (hs2 : p.kind = 4 → p.b + 2 ≤ p.e) (hn' : n' = (rawAt S p.kind p.b p.e).size) (hc' : n' ≤ c') (hr : Rd w A' (rawAt S p.kind p.b p.e))
    (hx : x = ((p.b - cc : Nat) : Int) + (if p.kind = 4 then 2 else 0)) (hnc : n ≤ c) (hn : n ≤ 1000000) (hfit : j + (p.e - cc) ≤ n) (hD2 : Rd w (some ⟨bi, i0 + j, none⟩) (S.extract cc (cc + (n - j)))) (hbi : bi < w.heap.size) (hb1 : NX gI gF gO bi) :
    Calls Tryz.prog 98 #[.slice A' n' c', .int .i64 (jk p.kind : Int), .int .i64 x, ev, .pointer (some ⟨gI, 0, none⟩), .pointer (some ⟨gA, 0, none⟩), .pointer (some ⟨gF, 0, none⟩), .pointer (some ⟨gO, 0, none⟩), .pointer (some ⟨gD, 0, none⟩), .pointer (some ⟨gC, 0, none⟩)] w
      fun e w' => e = .returned (.tuple #[]) ∧ Cb S cc aI gI gF gO q (m + 1) w' ∧ Kp (NX gI gF gO) w w' := by
  obtain ⟨xo, hxo, hxo2⟩ := hcb.o
  obtain ⟨vf, hvf, hvf1, hvf2⟩ := hcb.f
  have HVF2 := Lib.hid hvf2
  have HXO2 := Lib.hid hxo2
  clear hvf2 hxo2
  have hI := hcb.i
  have lI := (Array.getElem?_eq_some_iff.1 hI).1
  have lF := (Array.getElem?_eq_some_iff.1 hvf).1
  have lO := (Array.getElem?_eq_some_iff.1 hxo).1
  by_cases hma : m = aI
  · have hpq' := hpq hma
    subst hma
    subst hpq'
    by_cases h4k : p.kind = 4
    · have hj1 : (jk p.kind : Int) = 1 := by rw [(jk_lt _ hk6).2 h4k]; rfl
      rw [hj1]
      have hz : n' + 2 = p.e - p.b := by
        have := hs2 h4k
        rw [hn', rawAt, if_pos h4k, size_ext]; omega
      rw [if_pos h4k] at hx
      have hfit2 : j + (p.b - cc) + n' + 2 ≤ n := by clear hx hvf1; omega
      have hcd : n' + 2 ≤ c - (j + (p.b - cc)) := by clear hx hvf1; omega
      refine (cbStr gI gA gF gO gD gC m bi i0 n c j n' (p.b - cc) A' c' x ev vf (.int .i64 xo) w hm hA hI hvf hxo h1 h2 h3 hD hC h4 h5 h6 h7 hx hfit2 hnc hn).mono ?_
      rintro e w' ⟨rfl, rfl⟩
      obtain ⟨wa, hwa⟩ : ∃ wa, w.setCell ⟨gF, 0, none⟩ (.slice A' n' c') = wa := ⟨_, rfl⟩
      obtain ⟨wb, hwb⟩ : ∃ wb, wa.setCell ⟨gO, 0, none⟩ (.int .i64 x) = wb := ⟨_, rfl⟩
      obtain ⟨wc, hwc⟩ : ∃ wc, wb.setCell ⟨gO, 0, none⟩ (.int .i64 ((p.b - cc : Nat) : Int)) = wc := ⟨_, rfl⟩
      obtain ⟨wd, hwd⟩ : ∃ wd, wc.setCell ⟨gF, 0, none⟩ (.slice (some ⟨bi, i0 + (j + (p.b - cc)), none⟩) (n' + 2) (c - (j + (p.b - cc)))) = wd := ⟨_, rfl⟩
      rw [hwa, hwb, hwc, hwd]
      have kp : Kp (NX gI gF gO) w (wd.setCell ⟨gI, 0, none⟩ (.int .i64 ((m : Int) + 1))) := by
        rw [← hwd, ← hwc, ← hwb, ← hwa]
        exact ((((kp_nx (.inr (.inl rfl))).trans (kp_nx (.inr (.inr rfl)))).trans (kp_nx (.inr (.inr rfl)))).trans (kp_nx (.inr (.inl rfl)))).trans (kp_nx (.inl rfl))
      refine ⟨rfl, ⟨?_, ⟨((p.b - cc : Nat) : Int), ?_, fun _ => rfl⟩, ⟨_, ?_, fun h => absurd h (by omega), fun _ => ⟨bi, i0 + (j + (p.b - cc)), n' + 2, c - (j + (p.b - cc)), rfl, hz, hcd, Nat.lt_of_lt_of_le hbi kp.size, hb1.1, hb1.2.2, hb1.2.1, ?_⟩⟩⟩, kp⟩
      · have : wd.heap[gI]? = some (.cells #[.int .i64 (m : Int)] 3 (0, 0)) := by rw [← hwd, heap_set h1, ← hwc, heap_set h2, ← hwb, heap_set h2, ← hwa, heap_set h1]; exact hI
        have := one_set' (u := .int .i64 ((m : Int) + 1)) this
        exact this
      · rw [heap_set (Ne.symm h2), ← hwd, heap_set (Ne.symm h3)]
        have h : wb.heap[gO]? = some (.cells #[.int .i64 x] 3 (0, 0)) := by
          rw [← hwb]
          exact one_set' (v := .int .i64 xo) (by rw [← hwa, heap_set (Ne.symm h3)]; exact hxo)
        rw [← hwc]; exact one_set' h
      · rw [heap_set (Ne.symm h1), ← hwd]
        exact one_set' (v := .slice A' n' c') (by rw [← hwc, heap_set h3, ← hwb, heap_set h3, ← hwa]; exact one_set' hvf)
      · refine rd_nx (gI := gI) (gF := gF) (gO := gO) ?_ kp hb1
        have hsz : (S.extract cc (cc + (n - j))).size = min (cc + (n - j)) S.size - cc := size_ext _ _ _
        have hne : ¬ (n - j = p.b - cc) := by clear hx hvf1; omega
        have hcut := hD2.cut (i := p.b - cc) (j := p.e - cc) (c := n - j) (by rw [hsz]; clear hx hvf1; omega) (by rw [hsz]; clear hx hvf1; omega)
        rw [if_neg hne, ByteArray.extract_extract, show min (cc + (p.e - cc)) (cc + (n - j)) = p.e by clear hx hvf1; omega, show cc + (p.b - cc) = p.b by omega, Nat.mul_one] at hcut
        have e1 : (⟨bi, i0 + j, none⟩ : Addr).add (p.b - cc) = ⟨bi, i0 + (j + (p.b - cc)), none⟩ := by
          unfold Addr.add
          split
          · rename_i h0; simp_all
          · simp [Nat.add_assoc]
        simp only [Option.map_some, e1] at hcut
        exact hcut
    · have hj1 : (jk p.kind : Int) ≠ 1 := fun h => h4k ((jk_lt _ hk6).1 (by exact_mod_cast h))
      rw [if_neg h4k, Int.add_zero] at hx
      refine (cbYes gI gA gF gO gD gC m n' c' A' (jk p.kind : Int) x ev vf (.int .i64 xo) w hm hA hI hvf hxo h1 h2 h3 hj1).mono ?_
      rintro e w' ⟨rfl, rfl⟩
      obtain ⟨wa, hwa⟩ : ∃ wa, w.setCell ⟨gF, 0, none⟩ (.slice A' n' c') = wa := ⟨_, rfl⟩
      obtain ⟨wb, hwb⟩ : ∃ wb, wa.setCell ⟨gO, 0, none⟩ (.int .i64 x) = wb := ⟨_, rfl⟩
      rw [hwa, hwb]
      have kp : Kp (NX gI gF gO) w (wb.setCell ⟨gI, 0, none⟩ (.int .i64 ((m : Int) + 1))) := by
        rw [← hwb, ← hwa]
        exact ((kp_nx (.inr (.inl rfl))).trans (kp_nx (.inr (.inr rfl)))).trans (kp_nx (.inl rfl))
      have hraw : rawAt S p.kind p.b p.e = S.extract p.b p.e := by unfold rawAt; rw [if_neg h4k]
      rw [hraw] at hr hn'
      have hnn : n' = p.e - p.b := by rw [hn', size_ext]; clear hx hvf1; omega
      obtain ⟨ad, rfl, hal, hac⟩ := hr (by rw [← hn']; clear hx hvf1; omega)
      obtain ⟨b', i', sp⟩ := ad
      obtain rfl : sp = none := by
        have h00 := hac 0 (by rw [← hn']; clear hx hvf1; omega)
        have : (Addr.add ⟨b', i', sp⟩ 0) = ⟨b', i', sp⟩ := by simp [Addr.add]
        rw [this] at h00
        exact Go.Proofs.cell_spot h00
      have h00 := hac 0 (by rw [← hn']; clear hx hvf1; omega)
      have e00 : (Addr.add ⟨b', i', none⟩ 0) = ⟨b', i', none⟩ := by simp [Addr.add]
      rw [e00] at h00
      have hno : ∀ (g : Nat) (v : Value) (t : TypeId), w.heap[g]? = some (.cells #[v] t (0, 0)) → (∀ y : Int, v ≠ .int .u8 y) → b' ≠ g := by
        intro g v t hg hv e
        subst e
        rw [cell_of_row w b' i' _ _ _ hg] at h00
        cases i' with
        | zero => simp at h00; exact hv _ h00
        | succ k => simp at h00
      have hnx : NX gI gF gO b' := ⟨hno gI _ _ hI (by intro y h; injection h with h; cases h), hno gF _ _ hvf (by rw [hvf1 (Nat.le_refl _)]; intro y h; cases h), hno gO _ _ hxo (by intro y h; injection h with h; cases h)⟩
      refine ⟨rfl, ⟨?_, ⟨x, ?_, fun _ => hx⟩, ⟨_, ?_, fun h => absurd h (by omega), fun _ => ⟨b', i', n', c', rfl, hnn, hc', Nat.lt_of_lt_of_le hal kp.size, hnx.1, hnx.2.2, hnx.2.1, ?_⟩⟩⟩, kp⟩
      · have : wb.heap[gI]? = some (.cells #[.int .i64 (m : Int)] 3 (0, 0)) := by rw [← hwb, heap_set h2, ← hwa, heap_set h1]; exact hI
        exact one_set' (u := .int .i64 ((m : Int) + 1)) this
      · rw [heap_set (Ne.symm h2), ← hwb]
        exact one_set' (v := .int .i64 xo) (by rw [← hwa, heap_set (Ne.symm h3)]; exact hxo)
      · rw [heap_set (Ne.symm h1), ← hwb, heap_set h3, ← hwa]
        exact one_set' hvf
      · exact rd_nx (gI := gI) (gF := gF) (gO := gO) hr kp hnx
  · refine (cbNo gI gA gF gO gD gC m aI n' c' A' (jk p.kind : Int) x ev w hm hA hI hma).mono ?_
    rintro e w' ⟨rfl, rfl⟩
    have kp : Kp (NX gI gF gO) w (w.setCell ⟨gI, 0, none⟩ (.int .i64 ((m : Int) + 1))) := kp_nx (.inl rfl)
    refine ⟨rfl, ⟨?_, ⟨xo, ?_, fun h => HXO2.out (by clear hx; omega)⟩, ⟨vf, ?_, fun h => hvf1 (by clear hx; omega), fun h => ?_⟩⟩, kp⟩
    · exact one_set' (u := .int .i64 ((m : Int) + 1)) hI
    · rw [heap_set (Ne.symm h2)]; exact hxo
    · rw [heap_set (Ne.symm h1)]; exact hvf
    · obtain ⟨b', i', n2, c2, e1, e2, e3, e4, e5, e6, e7, e8⟩ := HVF2.out (by clear hx; omega)
      exact ⟨b', i', n2, c2, e1, e2, e3, Nat.lt_of_lt_of_le e4 kp.size, e5, e6, e7, rd_nx (gI := gI) (gF := gF) (gO := gO) e8 kp ⟨e5, e7, e6⟩⟩
end Go.Proofs.YtkdkdhcjpgmjdaaGreatDoor.Jp

/- arrayEachConfig over a whole array, with the search's call back: the walk. -/
namespace Go.Proofs.YtkdkdhcjpgmjdaaGreatDoor.Jp
open Go.RowKit L
set_option linter.unusedVariables false
set_option linter.unusedSimpArgs false

theorem nx_below {gI gF gO : Nat} {w w' : World} (h : Below w.heap.size w w') : Kp (NX gI gF gO) w w' := Kp.of_below h
theorem Cb.below {S : ByteArray} {cc aI gI gF gO m : Nat} {q : Pl} {w w' : World} (h : Cb S cc aI gI gF gO q m w) (hb : Below w.heap.size w w') : Cb S cc aI gI gF gO q m w' := by
  obtain ⟨x, h1, h2⟩ := h.o
  obtain ⟨v, h3, h4, h5⟩ := h.f
  refine ⟨(hb.block _ (Array.getElem?_eq_some_iff.1 h.i).1).trans h.i, ⟨x, (hb.block _ (Array.getElem?_eq_some_iff.1 h1).1).trans h1, h2⟩, ⟨v, (hb.block _ (Array.getElem?_eq_some_iff.1 h3).1).trans h3, h4, fun hm => ?_⟩⟩
  obtain ⟨b', i', n2, c2, e1, e2, e3, e4, e5, e6, e7, e8⟩ := h5 hm
  exact ⟨b', i', n2, c2, e1, e2, e3, Nat.lt_of_lt_of_le e4 hb.size, e5, e6, e7, e8.below hb⟩
/-- A window further in. -/
theorem rdw {w : World} {bi i1 cp k cc W : Nat} {S : ByteArray} (h : Rd w (some ⟨bi, i1, none⟩) (S.extract cc W)) (hW : W ≤ S.size) (hc : W - cc ≤ cp) (hk : ¬ cp = k) (ho : cc + k ≤ W) : Rd w (some ⟨bi, i1 + k, none⟩) (S.extract (cc + k) W) := by
  have hz : (S.extract cc W).size = W - cc := by rw [size_ext]; omega
  have := rd_ite (c := cp) (k := k) h (by rw [hz]; omega) (by rw [if_neg hk])
  rwa [hz, ByteArray.extract_extract, show min (cc + (W - cc)) W = W by omega] at this
theorem cellw {w : World} {bi i1 cc W k : Nat} {S : ByteArray} (h : Rd w (some ⟨bi, i1, none⟩) (S.extract cc W)) (hW : W ≤ S.size) (hk : cc + k < W) : w.cell? ⟨bi, i1 + k, none⟩ = some (.int .u8 (bt S ((cc + k : Nat) : Int))) := by
  have e1 : (⟨bi, i1, none⟩ : Addr).add k = ⟨bi, i1 + k, none⟩ := by
    clear h hW hk
    unfold Addr.add; split <;> simp_all
  obtain ⟨ad, e, -, hc⟩ := h (by rw [size_ext]; omega)
  injection e with e
  subst e
  rw [← e1, hc k (by rw [size_ext]; omega), bt_ext _ _ _ _ (by omega) (by rw [size_ext]; omega)]
  congr 3
theorem rd_lt {w : World} {bi i1 : Nat} {s : ByteArray} (h : Rd w (some ⟨bi, i1, none⟩) s) (h0 : 0 < s.size) : bi < w.heap.size := by
  obtain ⟨ad, e, hl, -⟩ := h h0
  injection e with e
  subst e
  exact hl
theorem echain_end {s : ByteArray} {n E : Nat} : ∀ {qs : List Pl} {off : Nat} {q : Pl}, EChain s n E off (q :: qs) → q.e < E
  | [], off, q, h => by
    have h1 := skip_le isBlank s q.e
    have h2 := h.2.2
    omega
  | r :: qs, off, q, h => by
    have h1 := skip_le isBlank s q.e
    have h2 := echain_end h.2.2
    have h3 := h.2.2.head
    have h4 := skip_le isBlank s (L.skip isBlank s q.e + 1)
    have h5 := h3.2.2.2.1
    have h6 := h3.2.2.2.2.2.1
    omega
theorem kids_first {s : ByteArray} {n E off : Nat} : ∀ {qs : List Pl}, EChain s n E off qs → L.skip isBlank s off < E
  | [], h => by cases h
  | q :: qs, h => by
    have hr := h.head
    have h1 := echain_end h
    have h2 := hr.2.2.2.1
    have h3 := hr.2.2.2.2.2.1
    omega
theorem win_sz {S : ByteArray} {o W : Nat} (hW : W ≤ S.size) : (S.extract o W).size = W - o := by rw [size_ext]; omega
/-- One element of a whole array, in the text up to W. -/
theorem roundW {S : ByteArray} {W cc x nf E : Nat} {q : Pl} {qs : List Pl} (a : Bool) (hWS : W ≤ S.size) (hec : EChain S nf E (cc + x) (q :: qs)) (hEW : E ≤ W) :
    ∃ d k u, getT a (tx (S.extract (cc + x) W)) = some (d, .ok (jk q.kind) k) ∧ cc + x + d = q.b ∧ q.b + k = q.e ∧ 0 < k ∧ rawOf (S.extract (cc + x) W) (jk q.kind) d k = rawAt S q.kind q.b q.e ∧ nxt (tx (S.extract q.e W)) = some u ∧ q.e + u < W ∧
      ((qs = [] ∧ bt S ((q.e + u : Nat) : Int) = 93) ∨ ∃ r qs', qs = r :: qs' ∧ bt S ((q.e + u : Nat) : Int) = 44 ∧ EChain S nf E (q.e + u + 1) (r :: qs')) := by
  obtain ⟨r1, r2, r3, r4, r5, r6, r7, r8⟩ := hec.head
  have hob : cc + x ≤ q.b := by rw [r4]; exact skip_le isBlank S (cc + x)
  have hend := echain_end hec
  have hg := (getT_kid (s := S) (n := nf) (i := cc + x) (m := W) (p := q) a r1 r2 r3).2.2 (by omega) (fun _ => .inr (echain_fol hec))
  rw [← tx_win, ← r4] at hg
  have hsl := skip_le isBlank S q.e
  have hsk : L.skip isBlank S q.e < W := by
    cases qs with
    | nil => have := hec.2.2; omega
    | cons r qs' =>
      have h1 := kids_first hec.2.2
      have h2 := skip_le isBlank S (L.skip isBlank S q.e + 1)
      omega
  have e1 : q.e + (L.skip isBlank S q.e - q.e) = L.skip isBlank S q.e := by omega
  refine ⟨_, _, L.skip isBlank S q.e - q.e, hg, by omega, by omega, by omega, ?_, nxt_win hWS hsk (by omega), by omega, ?_⟩
  · rw [← rawAt_of S r7 (Nat.le_of_lt r6)]
    unfold rawOf
    split
    · rw [ByteArray.extract_extract]
      congr 1 <;> omega
    · rw [ByteArray.extract_extract]
      congr 1 <;> omega
  · rw [e1]
    cases qs with
    | nil => exact .inl ⟨rfl, hec.2.1⟩
    | cons r qs' => exact .inr ⟨r, qs', rfl, hec.2.1, hec.2.2⟩
theorem skip_idem {s : ByteArray} {i : Nat} (h : L.skip isBlank s i < s.size) : L.skip isBlank s (L.skip isBlank s i) = L.skip isBlank s i := by
  obtain ⟨c, hc, h2, _⟩ := tx_at s _ h
  have hnb : blankB c = false := skip_head (s := s) (i := i) (c := c) h2 h
  rw [skip_tw s (i := L.skip isBlank s i) (Nat.le_refl _), hc, List.takeWhile_cons, if_neg (by rw [hnb]; decide)]
  rfl
theorem EChain.skip {s : ByteArray} {n E off : Nat} {q : Pl} {qs : List Pl} (h : EChain s n E off (q :: qs)) : EChain s n E (L.skip isBlank s off) (q :: qs) := by
  have hr : Rdv s n (L.skip isBlank s off) q := by
    obtain ⟨h1, h2, h3, h4, h5⟩ := h.head
    have e := skip_idem (s := s) (i := off) h2
    exact ⟨by omega, by rw [e]; exact h2, by rw [e]; exact h3, by rw [e]; exact h4, h5⟩
  cases qs with
  | nil => exact ⟨hr, h.2⟩
  | cons r qs => exact ⟨hr, h.2⟩
theorem errs_drew {T : Nat → TypeId} {V : Nat → Value} {w : World} (h : Errs T V w) : Errs T V w.drew := ⟨h.e1, h.e2, h.e3, h.e4, h.e5, h.e6⟩
theorem Kp.drew {B : Nat → Prop} {w w' : World} (h : Kp B w.drew w') : Kp B w w' := ⟨h.os, h.tape, h.output, h.size, h.block⟩
set_option maxRecDepth 100000 in
set_option maxHeartbeats 16000000 in
theorem eachW (T : Nat → TypeId) (V : Nat → Value) (S : ByteArray) (cc W E nf : Nat) (kids : List Pl) (q0 : Pl) (aI gI gA gF gO gD gC bi i0 n c j i1 m cp : Nat) (a b : Bool) (cn : Int) (w : World)
    (hS : S.size ≤ 1000000) (hWS : W ≤ S.size) (hm : cc + m = W) (hi1 : i1 = i0 + j) (hmn : m = n - j) (hjn : j < n) (hnc : n ≤ c) (hn : n ≤ 1000000) (hcp : m ≤ cp)
    (h91 : bt S (cc : Nat) = 91) (h93 : bt S (L.skip isBlank S (cc + 1)) ≠ 93) (hec : EChain S nf E (cc + 1) kids) (hEW : E ≤ W) (hkl : kids.length ≤ 1000000)
    (hR : Rd w (some ⟨bi, i1, none⟩) (S.extract cc W)) (hE : Errs T V w) (hEk : ∀ w', Kp (NX gI gF gO) w w' → Errs T V w')
    (hA : w.cell? ⟨gA, 0, none⟩ = some (.int .i64 (aI : Int))) (hD : w.cell? ⟨gD, 0, none⟩ = some (.slice (some ⟨bi, i0, none⟩) n c)) (hC : w.cell? ⟨gC, 0, none⟩ = some (.int .i64 (j : Int)))
    (h1 : gI ≠ gF) (h2 : gI ≠ gO) (h3 : gF ≠ gO) (nA : NX gI gF gO gA) (nD : NX gI gF gO gD) (nC : NX gI gF gO gC) (nB : NX gI gF gO bi) (lA : gA < w.heap.size) (lD : gD < w.heap.size) (lC : gC < w.heap.size) (lI : gI < w.heap.size) (lF : gF < w.heap.size) (lO : gO < w.heap.size)
    (hcb : Cb S cc aI gI gF gO q0 0 w) (hq0 : kids[aI]? = some q0) :
    Calls Tryz.prog 97 #[.agg #[.bool a, .bool b, .int .i64 cn], .slice (some ⟨bi, i1, none⟩) m cp, .func (.func 98) #[] #[.pointer (some ⟨gI, 0, none⟩), .pointer (some ⟨gA, 0, none⟩), .pointer (some ⟨gF, 0, none⟩), .pointer (some ⟨gO, 0, none⟩), .pointer (some ⟨gD, 0, none⟩), .pointer (some ⟨gC, 0, none⟩)], .slice none 0 0] w
      fun e w' => (∃ v, e = .returned v) ∧ Cb S cc aI gI gF gO q0 kids.length w' ∧ Kp (NX gI gF gO) w w' := by
  have NA := Lib.hid nA
  have ND := Lib.hid nD
  have NC := Lib.hid nC
  have NB := Lib.hid nB
  have H1 := Lib.hid h1
  have H2 := Lib.hid h2
  have H3 := Lib.hid h3
  have HQ0 := Lib.hid hq0
  have HA := Lib.hid hA
  have HD := Lib.hid hD
  have HC := Lib.hid hC
  have HEK := Lib.hid hEk
  have H93 := Lib.hid h93
  have HEC := Lib.hid hec
  have HCB := Lib.hid hcb
  clear nA nD nC nB h1 h2 h3 hq0 hA hD hC hEk h93 hec hcb hE
  obtain ⟨w1, hw1⟩ : ∃ w1, w.alloc (.cells #[.bool a, .bool b, .int .i64 cn] 97) = w1 := ⟨_, rfl⟩
  have hb1 : Below w.heap.size w w1 := by rw [← hw1]; exact below_alloc (Below.refl _ _) _
  have hz1 : w.heap.size < w1.heap.size := by rw [← hw1]; simp
  have hcf : CfgAt w1 w.heap.size a b cn := by rw [← hw1]; exact CfgAt.new _ _ _ _
  have hm0 : 0 < m := by rw [hmn]; exact Nat.sub_pos_of_lt hjn
  have hsz : (S.extract cc W).size = m := by rw [win_sz hWS, ← hm, Nat.add_sub_cancel_left]
  have hbi : bi < w.heap.size := rd_lt hR (by rw [hsz]; exact hm0)
  have hk1 := skip_le isBlank S (cc + 1)
  have hr0 := kids_first HEC.out
  obtain ⟨sk0, hu0⟩ : ∃ sk0, L.skip isBlank S (cc + 1) - (cc + 1) = sk0 := ⟨_, rfl⟩
  have hsk : L.skip isBlank S (cc + 1) = cc + 1 + sk0 := by rw [← hu0, Nat.add_sub_cancel' hk1]
  have hsW : cc + 1 + sk0 < W := by rw [← hsk]; exact Nat.lt_of_lt_of_le hr0 hEW
  have hum : 1 + sk0 < m := by omega
  have hcc0 : L.skip isBlank S cc = cc := L.skip_no (by rw [h91]; rintro ⟨-, h⟩; revert h; decide)
  have hccW : cc < W := by omega
  have hccS : cc ≤ W := Nat.le_of_lt hccW
  have hN0 : nxt (tx (S.extract cc W)) = some 0 := by
    have := nxt_win (s := S) (i := cc) (m := W) hWS (by rw [hcc0]; exact hccW) hccS
    rwa [hcc0, Nat.sub_self] at this
  have hN1 : nxt (tx (S.extract (cc + 1) W)) = some sk0 := by
    have := nxt_win (s := S) (i := cc + 1) (m := W) hWS (by rw [hsk]; exact hsW) hccW
    rwa [hu0] at this
  have hmS : m ≤ 1000000 := by omega
  have HNA := Lib.hid (show Calls Tryz.prog 71 #[.agg #[.bool a, .bool b, .int .i64 cn], .slice (some ⟨bi, i1, none⟩) m cp] w1 fun e w' => e = .returned (.int .i64 0) ∧ Below w1.heap.size w1 w' from by
    refine (nextW _ (S.extract cc W) m cp a b cn w1 (hR.below hb1) hsz.symm (by rw [hsz]; exact hmS) (by rw [hsz]; exact hcp)).mono ?_
    rintro e w' ⟨⟨z, rfl, ⟨q', hq', rfl⟩ | ⟨hno, -⟩⟩, hb⟩
    · obtain rfl : 0 = q' := Option.some.inj (hN0.symm.trans hq')
      exact ⟨rfl, hb⟩
    · rw [hN0] at hno; cases hno)
  have HR1 := Lib.hid (hR.below hb1)
  have HCF := Lib.hid hcf
  have HCB1 := Lib.hid (HCB.out.below hb1)
  have HB1 := Lib.hid hb1
  have HN1 := Lib.hid hN1
  have HSK := Lib.hid hsk
  have j0 := hcf.c0
  have j1 := hcf.c1
  have j2 := hcf.c2
  have hc0 : w1.cell? ⟨bi, i1, none⟩ = some (.int .u8 91) := by
    have := cellw (k := 0) (hR.below hb1) hWS (by rw [Nat.add_zero]; exact hccW)
    rwa [Nat.add_zero, Nat.add_zero, h91] at this
  have hcp1 : ¬ cp = 1 := by omega
  have hz0 : ((m : Int) == 0) = false := by rw [beq_eq_false_iff_ne]; omega
  have HR0 := Lib.hid hR
  clear hb1 hN0 hN1 hu0 hcf hR h91 hr0 hk1
  have hR2 := rdw (k := 1) HR1.out hWS (cp := cp) (by rw [← hm, Nat.add_sub_cancel_left]; exact hcp) hcp1 (Nat.succ_le_of_lt hccW)
  have HR2 := Lib.hid hR2
  have HMN := Lib.hid hmn
  have HI1 := Lib.hid hi1
  have HM := Lib.hid hm
  have hm1 : cc + m ≤ W := Nat.le_of_eq hm
  have hm2 : W ≤ cc + m := Nat.le_of_eq hm.symm
  have hmn1 : m ≤ n := by omega
  clear hR2 hmn hi1 hm
  go_enter Tryz.func97, Tryz.ntmps97
  go_upto_region 20 with (first
    | (go_at_call 71; (with_reducible refine HNA.out.mono ?_); rintro e w2 ⟨rfl, hb2⟩
       have hc0 : w2.cell? ⟨bi, i1, none⟩ = some (.int .u8 91) := (hb2.cell (p := ⟨bi, i1, none⟩) (show bi < w1.heap.size from Nat.lt_trans hbi hz1)).trans hc0
       have hcf2 := HCF.out.below hb2
       have j0 := hcf2.c0
       have j1 := hcf2.c1
       have j2 := hcf2.c2
       clear hcf2
       replace hb2 := Lib.hid hb2))
  have HB2 := Lib.hid (below_of HB1.out hb2.out)
  obtain ⟨p0, hp0⟩ : ∃ p0, 1 + sk0 = p0 := ⟨_, rfl⟩
  have f1 : IntKind.i64.wrap (1 + (sk0 : Int)) = (p0 : Int) := by rw [IntWalk.i64_in _ (by omega)]; omega
  have hun : ((sk0 : Int) == -1) = false := by rw [beq_eq_false_iff_ne]; omega
  have HN20 := Lib.hid (nextQ _ (S.extract (cc + 1) W) (m - 1) (cp - 1) sk0 a b cn w2 (HR2.out.below hb2.out) (by rw [win_sz hWS]; omega) (by rw [win_sz hWS]; omega) (by rw [win_sz hWS]; omega) HN1.out)
  go_cut [12] (fun v12 wx => v12 = .int .i64 (sk0 : Int) ∧ Below w2.heap.size w2 wx)
  case first =>
    go_region_with (first
      | (go_at_call 71; (with_reducible refine HN20.out.mono ?_); rintro e w3 ⟨rfl, hb3⟩; replace hb3 := Lib.hid hb3))
    all_goals
      go_wp2_with (fail)
      (try simp only [Act.put, List.getElem_toArray, List.getElem_cons_succ, List.getElem_cons_zero, List.setIfInBounds_toArray, List.set_cons_zero, List.set_cons_succ])
      go_meet
      case rel => exact ⟨rfl, hb3.out⟩
  case rest =>
  obtain ⟨rfl, hb3⟩ := hcut
  obtain ⟨w3, hw3⟩ : ∃ x, x = wc := ⟨_, rfl⟩
  subst hw3
  replace hb3 := Lib.hid hb3
  have HB13 := Lib.hid (below_of hb2.out hb3.out)
  have hc3 : w3.cell? ⟨bi, i1 + p0, none⟩ = some (.int .u8 (bt S ((cc + p0 : Nat) : Int))) := cellw (k := p0) (HR1.out.below HB13.out) hWS (by omega)
  have h93b : (bt S ((cc + p0 : Nat) : Int) == 93) = false := by
    rw [beq_eq_false_iff_ne]
    have := H93.out
    rwa [HSK.out, show cc + 1 + sk0 = cc + p0 by omega] at this
  obtain ⟨z0, hzz0⟩ : ∃ z, bt S ((cc + p0 : Nat) : Int) = z := ⟨_, rfl⟩
  rw [hzz0] at hc3 h93b
  clear hzz0
  have hp0m : (p0 : Int) < (m : Int) := by omega
  have hp00 : (0 : Int) ≤ (p0 : Int) := by omega
  clear j0 j1 j2 hc0
  obtain ⟨q1, qs1, hkk⟩ : ∃ q qs, kids = q :: qs := by
    cases hkk : kids with
    | nil => have := HEC.out; rw [hkk] at this; exact absurd this id
    | cons q qs => exact ⟨q, qs, rfl⟩
  have HKK := Lib.hid hkk
  have HCJ := Lib.hid (show EChain S nf E (cc + p0) (q1 :: qs1) by
    have h := HEC.out
    rw [hkk] at h
    have h2 := h.skip
    rwa [HSK.out, show cc + 1 + sk0 = cc + p0 by omega] at h2)
  have HCB3 := Lib.hid (HCB1.out.below HB13.out)
  have HZ13 := Lib.hid HB13.out.size
  clear hkk
  go_upto_block 0 with (fail)
  clear hc3 h93b
  go_cut [8] (fun v8 wx => ∃ y : Int, v8 = .int .i64 y ∧ Cb S cc aI gI gF gO q0 kids.length wx ∧ Kp (NX gI gF gO) w1 wx)
  case rest =>
    obtain ⟨y, rfl, hcbe, hke⟩ := hcut
    have HCBE := Lib.hid hcbe
    have HKE := Lib.hid hke
    clear hcbe hke
    go_wp2
    (try simp only [Exit.inBlock, Exit.then])
    refine bodyPost_ret (results_tmp2 rfl _ _ _) rfl ?_
    exact ⟨⟨_, rfl⟩, HCBE.out, (Kp.of_below HB1.out).trans HKE.out⟩
  case first =>
    go_wp2_with (fail)
    go_loopg [8] (kids.length + 1) (fun d v8 wx => ∃ (x : Nat) (ds : List Pl) (q : Pl) (qs : List Pl), v8 = .int .i64 (x : Int) ∧ kids = ds ++ q :: qs ∧ EChain S nf E (cc + x) (q :: qs) ∧ Cb S cc aI gI gF gO q0 ds.length wx ∧ qs.length < d ∧ Kp (NX gI gF gO) w1 wx)
    case atStart =>
      refine ⟨p0, [], q1, qs1, rfl, HKK.out, HCJ.out, HCB3.out, ?_, .of_below HB13.out⟩
      rw [HKK.out]; simp only [List.length_cons]; omega
    case round =>
      obtain ⟨x, ds, q, qs, rfl, hkd, hec, hcb, hqd, hkp⟩ := hrel
      have HKD := Lib.hid hkd
      have HECr := Lib.hid hec
      have HCBr := Lib.hid hcb
      have HQD := Lib.hid hqd
      have HKP := Lib.hid hkp
      have HKW := Lib.hid ((Kp.of_below HB1.out).trans hkp)
      obtain ⟨r1, r2, r3, r4, r5, r6, r7, r8⟩ := hec.head
      obtain ⟨dd, k, sk, hg, hd1, hd2, hk0, hraw, hnx, hu, hend⟩ := roundW a hWS hec hEW
      have hdl : ds.length ≤ 1000000 := by
        have := congrArg List.length hkd
        rw [List.length_append] at this
        omega
      have hcfr : CfgAt wr w.heap.size a b cn := (hkp.block _ ⟨Nat.ne_of_gt lI, Nat.ne_of_gt lF, Nat.ne_of_gt lO⟩ hz1).trans HCF.out
      have HCFr := Lib.hid hcfr
      have j0 := hcfr.c0
      have j1 := hcfr.c1
      have j2 := hcfr.c2
      have HRr := Lib.hid (rd_nx HR0.out HKW.out NB.out)
      have HEr := Lib.hid (HEK.out wr HKW.out)
      have HRX := Lib.hid (rdw (k := x) HRr.out hWS (cp := cp) (by omega) (by omega) (by omega))
      obtain ⟨y, hy⟩ : ∃ y, dd + k = y := ⟨_, rfl⟩
      obtain ⟨f, hf⟩ : ∃ f, x + y = f := ⟨_, rfl⟩
      obtain ⟨p, hp⟩ : ∃ p, f + sk = p := ⟨_, rfl⟩
      have hcf : cc + f = q.e := by omega
      have HGQ := Lib.hid (show Calls Tryz.prog 105 #[.agg #[.bool a, .bool b, .int .i64 cn], .slice (some ⟨bi, i1 + x, none⟩) (m - x) (cp - x), .slice none 0 0] wr.drew fun e w' => ∃ (A4 : Option Addr) (n4 c4 : Nat), e = .returned (.tuple #[.slice A4 n4 c4, .int .i64 (jk q.kind : Int), .int .i64 (y : Int), .nilIface]) ∧ n4 = (rawAt S q.kind q.b q.e).size ∧ n4 ≤ c4 ∧ Rd w' A4 (rawAt S q.kind q.b q.e) ∧ Below wr.heap.size wr w' from by
        refine (cgetW T V _ (S.extract (cc + x) W) _ _ a b cn _ (HRX.out.drew) (errs_drew HEr.out) (by rw [win_sz hWS]; omega) (by rw [win_sz hWS]; omega) (by rw [win_sz hWS]; omega)).mono ?_
        rw [hg]
        rintro e w' ⟨⟨A4, n4, c4, he, g1, g2, g3, g4⟩, hb4⟩
        rw [hraw] at g1 g4
        rw [hy] at he
        exact ⟨A4, n4, c4, he, g1, g2, g4, below_drew_one hb4⟩)
      have HNXR := Lib.hid hnx
      have HEND := Lib.hid hend
      have hx1 : (0 : Int) ≤ (x : Int) := by omega
      have hx2 : (x : Int) ≤ (m : Int) := by omega
      have hyn : ((y : Int) == 0) = false := by rw [beq_eq_false_iff_ne]; omega
      have hcx : ¬ cp = x := by omega
      clear hkd hec hcb hqd hkp hcfr r1 r2 r3 r4 hg hraw hnx hend
      have HPQ := Lib.hid (show ds.length = aI → q = q0 from fun e => by
        have h := HQ0.out
        rw [HKD.out, ← e, List.getElem?_append_right (Nat.le_refl _), Nat.sub_self] at h
        exact Option.some.inj h)
      have e5 : IntKind.i64.wrap ((x : Int) + (y : Int)) = (f : Int) := by rw [IntWalk.i64_in _ (by omega)]; omega
      have e7 : IntKind.i64.wrap ((f : Int) + (sk : Int)) = (p : Int) := by rw [IntWalk.i64_in _ (by omega)]; omega
      have e8 : IntKind.i64.wrap ((p : Int) + 1) = (p : Int) + 1 := IntWalk.i64_in _ (by omega)
      have hccb : cc ≤ q.b := by omega
      have hqe : q.e ≤ S.size := r5
      have hqk : q.kind ≤ 6 := r7
      have HK4 := Lib.hid r8
      have hqb : q.b < q.e := r6
      have hfm : f ≤ m := by omega
      have hcf' : ¬ cp = f := by omega
      have HCFE := Lib.hid hcf
      have hfx : (0 : Int) ≤ (f : Int) := by omega
      have hfx2 : (f : Int) ≤ (m : Int) := by omega
      have hpx : (p : Int) < (m : Int) := by omega
      have hpx0 : (0 : Int) ≤ (p : Int) := by omega
      have hun2 : ((sk : Int) == -1) = false := by rw [beq_eq_false_iff_ne]; omega
      have hpe : cc + p = q.e + sk := by omega
      have HPE := Lib.hid hpe
      clear hcf hpe r5 r6 r7 r8 hf hy hp hd1 hd2
      go_upto_region 26 with (fail)
      go_cut [13, 14, 15, 16] (fun v13 v14 v15 v16 wx => ∃ (A4 : Option Addr) (n4 c4 : Nat), v13 = .slice A4 n4 c4 ∧ v14 = .int .i64 (jk q.kind : Int) ∧ v15 = .int .i64 (y : Int) ∧ v16 = .nilIface ∧ n4 = (rawAt S q.kind q.b q.e).size ∧ n4 ≤ c4 ∧ Rd wx A4 (rawAt S q.kind q.b q.e) ∧ Below wr.heap.size wr wx)
      case first =>
        go_region_with (first
          | (go_at_call 105; (with_reducible refine HGQ.out.mono ?_); rintro e w4 ⟨A4, n4, c4, rfl, hn4, hc4, hr4, hb4⟩; replace hr4 := Lib.hid hr4; replace hb4 := Lib.hid hb4; replace hn4 := Lib.hid hn4))
        all_goals
          go_wp2_with (fail)
          (try simp only [Act.put, List.getElem_toArray, List.getElem_cons_succ, List.getElem_cons_zero, List.setIfInBounds_toArray, List.set_cons_zero, List.set_cons_succ])
          go_meet
          case rel => exact ⟨A4, n4, c4, rfl, rfl, rfl, rfl, hn4.out, hc4, hr4.out, hb4.out⟩
      case rest =>
      obtain ⟨A4, n4, c4, rfl, rfl, rfl, rfl, hn4, hc4, hr4, hb4⟩ := hcut
      obtain ⟨w4, hw4⟩ : ∃ x, x = wc := ⟨_, rfl⟩
      subst hw4
      have hx4 : (f : Int) - (n4 : Int) = ((q.b - cc : Nat) : Int) + (if q.kind = 4 then 2 else 0) := by
        have h0 := HCFE.out
        by_cases h4k : q.kind = 4
        · have := HK4.out h4k
          rw [if_pos h4k, hn4, rawAt, if_pos h4k, size_ext]; omega
        · rw [if_neg h4k, hn4, rawAt, if_neg h4k, size_ext]; omega
      have hn4m : n4 ≤ 1000000 := by
        rw [hn4]; unfold rawAt
        split <;> rw [size_ext] <;> omega
      have e6 : IntKind.i64.wrap ((f : Int) - (n4 : Int)) = (f : Int) - (n4 : Int) := IntWalk.i64_in _ (by clear hx4; omega)
      have HKP4 := Lib.hid (HKP.out.trans (.of_below hb4))
      have HKW4 := Lib.hid (HKW.out.trans (.of_below hb4))
      have HCQ := Lib.hid (cbStep S gI gA gF gO gD gC ds.length aI bi i0 n c j cc n4 c4 q q0 A4 ((f : Int) - (n4 : Int)) .nilIface w4 hdl (HCBr.out.below hb4)
        ((World.cell?_of_block (HKW4.out.block gA NA.out lA)).trans HA.out) H1.out H2.out H3.out ((World.cell?_of_block (HKW4.out.block gD ND.out lD)).trans HD.out) ((World.cell?_of_block (HKW4.out.block gC NC.out lC)).trans HC.out)
        ND.out.2.1 ND.out.2.2 NC.out.2.1 NC.out.2.2 HPQ.out hqk hqb hqe hccb HK4.out hn4 hc4 hr4 hx4 hnc hn (by have := HCFE.out; have := HMN.out; clear hx4; omega)
        (by have h := rd_nx HR0.out HKW4.out NB.out; rw [HI1.out] at h; rwa [show cc + (n - j) = W by have := HM.out; have := HMN.out; clear hx4; omega]) (Nat.lt_of_lt_of_le hbi HKW4.out.size) NB.out)
      clear hx4 hn4 hr4 hb4 j0 j1 j2
      go_upto_region 33 with (first
        | (go_at_call 98; (with_reducible refine HCQ.out.mono ?_); rintro e w5 ⟨rfl, hcb5, hk5⟩
           have hkp5 := HKP4.out.trans hk5
           have HKP5 := Lib.hid hkp5
           have HKW5 := Lib.hid (HKW4.out.trans hk5)
           have HCB5 := Lib.hid hcb5
           have hcf5 : CfgAt w5 w.heap.size a b cn := (hkp5.block _ ⟨Nat.ne_of_gt lI, Nat.ne_of_gt lF, Nat.ne_of_gt lO⟩ hz1).trans HCF.out
           have HCF5 := Lib.hid hcf5
           have j0 := hcf5.c0
           have j1 := hcf5.c1
           have j2 := hcf5.c2
           clear hcb5 hk5 hkp5 hcf5))
      have HR5 := Lib.hid (rd_nx HR0.out HKW5.out NB.out)
      have HRf := Lib.hid (show Rd w5 (some ⟨bi, i1 + f, none⟩) (S.extract q.e W) from by
        have h := rdw (k := f) HR5.out hWS (cp := cp) (by omega) hcf' (by omega)
        rwa [HCFE.out] at h)
      have HN33 := Lib.hid (nextQ _ (S.extract q.e W) (m - f) (cp - f) sk a b cn w5 HRf.out (by have := HCFE.out; rw [win_sz hWS]; omega) (by rw [win_sz hWS]; omega) (by have := HCFE.out; rw [win_sz hWS]; omega) HNXR.out)
      go_cut [17] (fun v17 wx => v17 = .int .i64 (sk : Int) ∧ Below w5.heap.size w5 wx)
      case first =>
        go_region_with (first
          | (go_at_call 71; (with_reducible refine HN33.out.mono ?_); rintro e w6 ⟨rfl, hb6⟩; replace hb6 := Lib.hid hb6))
        all_goals
          go_wp2_with (fail)
          (try simp only [Act.put, List.getElem_toArray, List.getElem_cons_succ, List.getElem_cons_zero, List.setIfInBounds_toArray, List.set_cons_zero, List.set_cons_succ])
          go_meet
          case rel => exact ⟨rfl, hb6.out⟩
      case rest =>
      obtain ⟨rfl, hb6⟩ := hcut
      obtain ⟨w6, hw6⟩ : ∃ x, x = wc := ⟨_, rfl⟩
      subst hw6
      have hcp6 : w6.cell? ⟨bi, i1 + p, none⟩ = some (.int .u8 (bt S ((cc + p : Nat) : Int))) := cellw (k := p) (HR5.out.below hb6) hWS (by omega)
      have HCB6 := Lib.hid (HCB5.out.below hb6)
      have HKP6 := Lib.hid (HKP5.out.trans (.of_below hb6))
      rw [HPE.out] at hcp6
      clear hb6 j0 j1 j2
      rcases HEND.out with ⟨hqs, h93⟩ | ⟨r', qs', hqs, h44, hec2⟩
      · rw [h93] at hcp6
        have HQS := Lib.hid hqs
        clear hqs h93
        go_wp2
        go_meet
        case rel =>
          refine ⟨_, rfl, ?_, HKP6.out⟩
          have e : kids.length = ds.length + 1 := by rw [HKD.out, HQS.out, List.length_append]; rfl
          rw [e]
          exact HCB6.out
      · rw [h44] at hcp6
        have HQS := Lib.hid hqs
        have HEC2 := Lib.hid hec2
        clear hqs h44 hec2
        go_wp2
        go_roundg (gk - 1)
        case measure => have := HQD.out; rw [HQS.out] at this; simp only [List.length_cons] at this; omega
        case rel =>
          refine ⟨p + 1, ds ++ [q], r', qs', by go_num, by rw [HKD.out, HQS.out]; simp, ?_, ?_, by have := HQD.out; rw [HQS.out] at this; simp only [List.length_cons] at this; omega, HKP6.out⟩
          · rw [show cc + (p + 1) = q.e + sk + 1 by have := HPE.out; omega]; exact HEC2.out
          · rw [List.length_append]; exact HCB6.out
end Go.Proofs.YtkdkdhcjpgmjdaaGreatDoor.Jp
