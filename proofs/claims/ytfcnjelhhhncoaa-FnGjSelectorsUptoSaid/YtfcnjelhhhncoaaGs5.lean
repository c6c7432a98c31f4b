/- FnGjSelectors: the function value that takes a path, in memory. -/
import Derived.Test.YtfcnjelhhhncoaaGs4
namespace Go.Proofs.Ytfcnjelhhhncoaa.L
open Go.RowKit
set_option linter.unusedVariables false
set_option linter.unusedSimpArgs false

/-- Block g holds this one cell. -/
def One (w : World) (g : Nat) (t : TypeId) (v : Value) : Prop := w.heap[g]? = some (.cells #[v] t (0, 0))
section
variable {w w' : World} {g : Nat} {t : TypeId} {v u : Value}
theorem One.c (h : One w g t v) : w.cell? ⟨g, 0, none⟩ = some v := cell_of_row _ _ 0 _ _ _ h
theorem One.f (h : One w g t v) : w.frozen? ⟨g, 0, none⟩ = false := by unfold One at h; simp [World.frozen?, h]
theorem One.lt (h : One w g t v) : g < w.heap.size := (Array.getElem?_eq_some_iff.1 h).1
theorem One.put (h : One w g t v) : One (w.setCell ⟨g, 0, none⟩ u) g t u := by unfold One at *; simp [World.setCell, Array.getElem?_modify, h]
theorem One.far {k j : Nat} (h : One w g t v) (hne : g ≠ k) : One (w.setCell ⟨k, j, none⟩ u) g t v := (Below.heap_setCell w _ _ g hne).trans h
theorem One.below (h : One w g t v) (hb : Below w.heap.size w w') : One w' g t v := (hb.block g h.lt).trans h
theorem One.grown {row : Option Nat} (h : One w g t v) (hg : w.grownBy w' row) (hr : some g ≠ row) : One w' g t v := (hg.block g h.lt hr).trans h
theorem One.new (w : World) (t : TypeId) (v : Value) : One (w.alloc (.cells #[v] t)) w.heap.size t v := heap_alloc_new w _
end
/-- The six blocks of parseSubSelectors, from h on: the text, the paths taken, the modifier, the colon, the start, the place; the paths' row. -/
structure Gm (w0 : World) (T : ByteArray) (h : Nat) (i col st : Int) (vS : Value) (n : Nat) (xs : List Value) (wx : World) : Prop where
  bel : Below w0.heap.size w0 wx
  o : w0.heap.size ≤ h
  p : One wx h 9 (.string T)
  s : One wx (h + 1) 51 vS
  m : One wx (h + 2) 3 (.int .i64 0)
  c : One wx (h + 3) 3 (.int .i64 col)
  a : One wx (h + 4) 3 (.int .i64 st)
  i : One wx (h + 5) 3 (.int .i64 i)
  row : wx.ownsRow (h + 6) 55 2 vS n xs
theorem info_sel : (Try.prog.info? 55).map (fun i => (i.zero, i.size, i.bytes)) = some (some (.agg #[.string ⟨#[]⟩, .string ⟨#[]⟩]), 2, 32) := by kernel_rfl
theorem Gm.setI {w0 : World} {T : ByteArray} {h : Nat} {i col st i' : Int} {vS : Value} {n : Nat} {xs : List Value} {wx : World} (hG : Gm w0 T h i col st vS n xs wx) : Gm w0 T h i' col st vS n xs (wx.setCell ⟨h + 5, 0, none⟩ (.int .i64 i')) :=
  ⟨hG.bel.setCell (show w0.heap.size ≤ h + 5 by have := hG.o; omega) _, hG.o, hG.p.far (by omega), hG.s.far (by omega), hG.m.far (by omega), hG.c.far (by omega), hG.a.far (by omega), hG.i.put, ownsRow_setCell_below hG.row (show h + 5 < h + 6 by omega) _⟩
theorem Gm.setC {w0 : World} {T : ByteArray} {h : Nat} {i col st c' : Int} {vS : Value} {n : Nat} {xs : List Value} {wx : World} (hG : Gm w0 T h i col st vS n xs wx) : Gm w0 T h i c' st vS n xs (wx.setCell ⟨h + 3, 0, none⟩ (.int .i64 c')) :=
  ⟨hG.bel.setCell (show w0.heap.size ≤ h + 3 by have := hG.o; omega) _, hG.o, hG.p.far (by omega), hG.s.far (by omega), hG.m.far (by omega), hG.c.put, hG.a.far (by omega), hG.i.far (by omega), ownsRow_setCell_below hG.row (show h + 3 < h + 6 by omega) _⟩
/-- A path more. -/
theorem Gm.push {w0 : World} {T : ByteArray} {h : Nat} {i col st i' : Int} {vS v' : Value} {n : Nat} {xs news : List Value} {wx wy : World} (hG : Gm w0 T h i col st vS n xs wx) (ho : wy.ownsRow (h + 6) 55 2 v' (n + 1) (xs ++ news)) (hg : wx.grownBy wy vS.ownBlock) :
    Gm w0 T h i 0 i' v' (n + 1) (xs ++ news) ((((wy.setCell ⟨h + 1, 0, none⟩ v').setCell ⟨h + 3, 0, none⟩ (.int .i64 0)).setCell ⟨h + 2, 0, none⟩ (.int .i64 0)).setCell ⟨h + 4, 0, none⟩ (.int .i64 i')) := by
  have hl : ∀ l, vS.ownBlock = some l → h + 6 ≤ l := fun l e => (hG.row.lt l e).1
  have hne : ∀ l, l < h + 6 → some l ≠ vS.ownBlock := fun l hl' e => by have := hl l e.symm; omega
  have ho0 := hG.o
  refine ⟨?_, ho0, ?_, ?_, ?_, ?_, ?_, ?_, ?_⟩
  · iterate 4 refine Below.setCell ?_ (show w0.heap.size ≤ _ by simp only; omega) _
    exact below_grown hG.bel hg (fun l e => by have := hl l e; omega)
  · exact ((((hG.p.grown hg (hne _ (by omega))).far (by omega)).far (by omega)).far (by omega)).far (by omega)
  · exact (((hG.s.grown hg (hne _ (by omega))).put.far (by omega)).far (by omega)).far (by omega)
  · exact ((((hG.m.grown hg (hne _ (by omega))).far (by omega)).far (by omega)).put).far (by omega)
  · exact ((((hG.c.grown hg (hne _ (by omega))).far (by omega)).put).far (by omega)).far (by omega)
  · exact ((((hG.a.grown hg (hne _ (by omega))).far (by omega)).far (by omega)).far (by omega)).put
  · exact ((((hG.i.grown hg (hne _ (by omega))).far (by omega)).far (by omega)).far (by omega)).far (by omega)
  · exact ownsRow_setCell_below (ownsRow_setCell_below (ownsRow_setCell_below (ownsRow_setCell_below ho (show h + 1 < h + 6 by omega) _) (show h + 3 < h + 6 by omega) _) (show h + 2 < h + 6 by omega) _) (show h + 4 < h + 6 by omega) _
theorem Gm.below {w0 : World} {T : ByteArray} {h : Nat} {i col st : Int} {vS : Value} {n : Nat} {xs : List Value} {wx wy : World} (hG : Gm w0 T h i col st vS n xs wx) (hb : Below wx.heap.size wx wy) : Gm w0 T h i col st vS n xs wy :=
  ⟨below_of hG.bel hb, hG.o, hG.p.below hb, hG.s.below hb, hG.m.below hb, hG.c.below hb, hG.a.below hb, hG.i.below hb, hG.row.kept (grown_of_below hb none) (by cases vS.ownBlock <;> simp)⟩
set_option maxRecDepth 100000 in
set_option maxHeartbeats 8000000 in
theorem pushW (w0 : World) (T nm pt : ByteArray) (h i col st n : Nat) (vS : Value) (xs : List Value) (w : World) (hG : Gm w0 T h (i : Int) (col : Int) (st : Int) vS n xs w) (hn : n ≤ 1048576) (hT : T.size ≤ 140737488355328) (hi : i ≤ T.size) (hst : st ≤ i)
    (hc : (col = 0 ∧ nm = ⟨#[]⟩ ∧ pt = T.extract st i) ∨ (0 < col ∧ st ≤ col ∧ col + 1 ≤ i ∧ nm = T.extract st col ∧ pt = T.extract (col + 1) i)) :
    Calls Try.prog 35 #[.pointer (some ⟨h + 3, 0, none⟩), .pointer (some ⟨h, 0, none⟩), .pointer (some ⟨h + 4, 0, none⟩), .pointer (some ⟨h + 5, 0, none⟩), .pointer (some ⟨h + 1, 0, none⟩), .pointer (some ⟨h + 2, 0, none⟩)] w fun e w' => e = .returned (.tuple #[]) ∧ ∃ v', Gm w0 T h (i : Int) 0 ((i : Int) + 1) v' (n + 1) (xs ++ [.string nm, .string pt]) w' := by
  have hlt5 : h + 5 < w.heap.size := hG.i.lt
  obtain ⟨w1, hw1⟩ : ∃ w1, w.alloc (.cells #[.string ⟨#[]⟩, .string ⟨#[]⟩] 55) = w1 := ⟨_, rfl⟩
  have hb1 : Below w.heap.size w w1 := by rw [← hw1]; exact below_alloc (Below.refl _ _) _
  have hg1 : w1.heap[w.heap.size]? = some (.cells #[.string ⟨#[]⟩, .string ⟨#[]⟩] 55 (0, 0)) := by rw [← hw1]; exact heap_alloc_new w _
  have hz1 : w1.heap.size = w.heap.size + 1 := by rw [← hw1]; simp
  have hG1 := hG.below hb1
  obtain ⟨w2, hw2⟩ : ∃ w2, (if col = 0 then w1.setCell ⟨w.heap.size, 1, none⟩ (.string pt) else (w1.setCell ⟨w.heap.size, 0, none⟩ (.string nm)).setCell ⟨w.heap.size, 1, none⟩ (.string pt)) = w2 := ⟨_, rfl⟩
  have hg2 : w2.heap[w.heap.size]? = some (.cells #[.string nm, .string pt] 55 (0, 0)) := by
    rw [← hw2]
    rcases hc with ⟨h0, rfl, -⟩ | ⟨h0, -⟩
    · rw [if_pos h0]; simp [World.setCell, Array.getElem?_modify, hg1]
    · rw [if_neg (by omega)]; simp [World.setCell, Array.getElem?_modify, hg1]
  have hz2 : w2.heap.size = w.heap.size + 1 := by rw [← hw2]; split <;> simp [World.setCell, hz1]
  have hb2 : Below w.heap.size w w2 := by
    rw [← hw2]
    split
    · exact hb1.setCell (Nat.le_refl _) _
    · exact (hb1.setCell (Nat.le_refl _) _).setCell (Nat.le_refl _) _
  have HG2 := Lib.hid (hG.below hb2)
  have x0 : w1.cell? ⟨w.heap.size, 0, none⟩ = some (.string ⟨#[]⟩) := cell_of_row _ _ 0 _ _ _ hg1
  have x1 : w1.cell? ⟨w.heap.size, 1, none⟩ = some (.string ⟨#[]⟩) := cell_of_row _ _ 1 _ _ _ hg1
  have y0 : ∀ j, w1.frozen? ⟨w.heap.size, j, none⟩ = false := fun j => by simp [World.frozen?, hg1]
  have y00 := y0 0
  have y01 := y0 1
  have c0 := hG1.p.c
  have c2 := hG1.a.c
  have c3 := hG1.c.c
  have c4 := hG1.i.c
  have n1 : ¬ w.heap.size = h := by omega
  have n2 : ¬ w.heap.size = h + 3 := by omega
  have n3 : ¬ w.heap.size = h + 4 := by omega
  have n4 : ¬ w.heap.size = h + 5 := by omega
  have m1 : ¬ h = w.heap.size := by omega
  have m2 : ¬ h + 3 = w.heap.size := by omega
  have m3 : ¬ h + 4 = w.heap.size := by omega
  have m4 : ¬ h + 5 = w.heap.size := by omega
  have H2 := Lib.hid hg2
  have HZ2 := Lib.hid hz2
  have HB2 := Lib.hid hb2
  have i0 : (0 : Int) ≤ (st : Int) := by omega
  have i1 : (st : Int) ≤ (i : Int) := by omega
  have i2 : (i : Int) ≤ (T.size : Int) := by omega
  have ec : IntKind.i64.wrap ((col : Int) + 1) = (col : Int) + 1 := IntWalk.i64_in _ (by omega)
  have ei : IntKind.i64.wrap ((i : Int) + 1) = (i : Int) + 1 := IntWalk.i64_in _ (by omega)
  obtain ⟨k0, hk0, hz0, hz1', hz2'⟩ := info_parts info_sel
  have HI := Lib.hid hk0
  have HZa := Lib.hid hz0
  have HZb := Lib.hid hz1'
  have HZc := Lib.hid hz2'
  clear hk0 hz0 hz1' hz2' hG hG1 hb1 hg1 hz1 hg2 hz2 hb2 y0
  go_enter Try.func35, Try.ntmps35
  rcases hc with ⟨hc0, en, ep⟩ | ⟨hc1, hc2, hc3, en, ep⟩
  focus
    subst hc0
    go_upto_region 5 with (fail)
    rw [if_pos rfl] at hw2
    rw [← ep, hw2]
  rotate_left
  focus
    have hcz : ¬ col = 0 := by omega
    have ccz : ((col : Int) == 0) = false := beq_eq_false_iff_ne.2 (by omega)
    have i3 : (st : Int) ≤ (col : Int) := by omega
    have i4 : (col : Int) ≤ (T.size : Int) := by omega
    have i5 : (0 : Int) ≤ (col : Int) + 1 := by omega
    have i6 : (col : Int) + 1 ≤ (i : Int) := by omega
    go_upto_region 5 with (fail)
    rw [if_neg hcz] at hw2
    rw [← en] at *
    rw [← ep, hw2]
  all_goals
    clear x0 x1 y00 y01 c0 c2 c3 c4 hw2 en ep hw1
    have C1 := HG2.out.s.c
    have X0 : w2.cell? ⟨w.heap.size, 0, none⟩ = some (.string nm) := cell_of_row _ _ 0 _ _ _ H2.out
    have X1 : w2.cell? ⟨w.heap.size, 1, none⟩ = some (.string pt) := cell_of_row _ _ 1 _ _ _ H2.out
    go_wp2_with (first
      | (at_builtin; (refine wpList_append_own_at _ rfl (.tmp 25) (.tmp 27) 51 rfl (h + 6) 55 k0 _ 2 32 Try.underlying51 HI.out HZa.out HZb.out HZc.out rfl (by decide) _ n xs rfl (HG2.out.row.alloc _) ⟨w2.heap.size, 0, none⟩ 1 1 [.string nm, .string pt] rfl rfl ?_ ?_ ?_ ?_ ?_ ?_)
         all_goals try (exact (World.news_of_block (cs := #[.string nm, .string pt]) (t := 55) (fr := (0, 0)) (heap_alloc_new _ _)))
         all_goals try (simp [Value.oneCell']; done)
         all_goals try (simp only [maxLen]; omega)
         all_goals try omega
         all_goals try (have := HZ2.out; simp; omega)
         intro v5 w5 hO5 hg5 _ hat5
         obtain ⟨A5, cc5, rfl, _⟩ := Row.of_own hO5
         have G2a := HG2.out.below (below_alloc (Below.refl _ _) (.cells #[.string nm, .string pt] 55))
         have hne : ∀ l, l < h + 6 → some l ≠ vS.ownBlock := fun l hl' e => by have := (G2a.row.lt l e.symm).1; omega
         have q1 := (G2a.s.grown hg5 (hne _ (by omega))).f
         have q2 := (G2a.m.grown hg5 (hne _ (by omega))).f
         have q3 := (G2a.c.grown hg5 (hne _ (by omega))).f
         have q4 := (G2a.a.grown hg5 (hne _ (by omega))).f
         have r1 := (G2a.s.grown hg5 (hne _ (by omega))).c
         have r2 := (G2a.m.grown hg5 (hne _ (by omega))).c
         have r3 := (G2a.c.grown hg5 (hne _ (by omega))).c
         have r4 := (G2a.a.grown hg5 (hne _ (by omega))).c
         have r5 := (G2a.i.grown hg5 (hne _ (by omega))).c
         have HGA := Lib.hid G2a
         replace hO5 := Lib.hid hO5
         replace hg5 := Lib.hid hg5
         clear hat5 G2a hne))
    go_end0
    exact ⟨rfl, _, HGA.out.push hO5.out hg5.out⟩
end Go.Proofs.Ytfcnjelhhhncoaa.L
