/- FnGjSelectors: the door lays names and paths into two rows. -/
import Derived.Test.YtfcnjelhhhncoaaGs6
namespace Go.Proofs.Ytfcnjelhhhncoaa.L
open Go.RowKit
set_option linter.unusedVariables false
set_option linter.unusedSimpArgs false

/-- Two rows of texts, of blocks that are new since w1; a block of two texts. -/
structure Tri (w1 : World) (g : Nat) (p q : ByteArray) (vA : Value) (nA : Nat) (la : List ByteArray) (vB : Value) (nB : Nat) (lb : List ByteArray) (wx : World) : Prop where
  bel : Below w1.heap.size w1 wx
  a : wx.ownsRow w1.heap.size 9 1 vA nA (keysV la)
  b : wx.ownsRow w1.heap.size 9 1 vB nB (keysV lb)
  ne : ∀ l, vA.ownBlock = some l → vB.ownBlock ≠ some l
  t : wx.heap[g]? = some (.cells #[.string p, .string q] 55 (0, 0))
  ga : vA.ownBlock ≠ some g
  gb : vB.ownBlock ≠ some g
section
variable {w1 : World} {g : Nat} {p q : ByteArray} {vA vB : Value} {nA nB : Nat} {la lb : List ByteArray} {wx wy : World}
theorem Tri.lt (h : Tri w1 g p q vA nA la vB nB lb wx) : g < wx.heap.size := (Array.getElem?_eq_some_iff.1 h.t).1
theorem Tri.c0 (h : Tri w1 g p q vA nA la vB nB lb wx) : wx.cell? ⟨g, 0, none⟩ = some (.string p) := cell_of_row _ _ 0 _ _ _ h.t
theorem Tri.c1 (h : Tri w1 g p q vA nA la vB nB lb wx) : wx.cell? ⟨g, 1, none⟩ = some (.string q) := cell_of_row _ _ 1 _ _ _ h.t
theorem Tri.below (h : Tri w1 g p q vA nA la vB nB lb wx) (hb : Below wx.heap.size wx wy) : Tri w1 g p q vA nA la vB nB lb wy :=
  ⟨below_of h.bel hb, h.a.kept (grown_of_below hb none) (by cases vA.ownBlock <;> simp), h.b.kept (grown_of_below hb none) (by cases vB.ownBlock <;> simp), h.ne, (hb.block g h.lt).trans h.t, h.ga, h.gb⟩
theorem Tri.alloc (h : Tri w1 g p q vA nA la vB nB lb wx) (o : Obj) : Tri w1 g p q vA nA la vB nB lb (wx.alloc o) := h.below (below_alloc (Below.refl _ _) o)
theorem one_new1 (w : World) (o : Obj) (t : TypeId) (v : Value) : One ((w.alloc o).alloc (.cells #[v] t)) (w.heap.size + 1) t v := by
  have h := One.new (w.alloc o) t v
  rw [show (w.alloc o).heap.size = w.heap.size + 1 by simp] at h
  exact h
theorem One.drew {w : World} {g : Nat} {t : TypeId} {v : Value} (h : One w g t v) : One w.drew g t v := h
theorem Tri.drew (h : Tri w1 g p q vA nA la vB nB lb wx) : Tri w1 g p q vA nA la vB nB lb wx.drew := ⟨h.bel.drew, h.a.drew, h.b.drew, h.ne, h.t, h.ga, h.gb⟩
theorem Tri.swap (h : Tri w1 g p q vA nA la vB nB lb wx) : Tri w1 g p q vB nB lb vA nA la wx := ⟨h.bel, h.b, h.a, fun l e k => h.ne l k e, h.t, h.gb, h.ga⟩
theorem Tri.app {l cap : Nat} {s : ByteArray} (h : Tri w1 g p q vA nA la vB nB lb wx) (ho : wy.ownsRow w1.heap.size 9 1 (.slice (some ⟨l, 0, none⟩) (nA + 1) cap) (nA + 1) (keysV la ++ [.string s])) (hg : wx.grownBy wy vA.ownBlock) (hat : vA.ownBlock = some l ∨ l = wx.heap.size) :
    Tri w1 g p q (.slice (some ⟨l, 0, none⟩) (nA + 1) cap) (nA + 1) (la ++ [s]) vB nB lb wy := by
  have hl : ∀ k, (Value.slice (some ⟨l, 0, none⟩) (nA + 1) cap).ownBlock = some k → k = l := fun k e => by
    have e' : some l = some k := e
    injection e' with e'
    exact e'.symm
  have hlt := h.lt
  refine ⟨below_grown h.bel hg (fun k e => (h.a.lt k e).1), ?_, h.b.kept hg ?_, ?_, (hg.block g hlt (fun e => h.ga e.symm)).trans h.t, ?_, h.gb⟩
  · rw [keysV, List.map_append]; exact ho
  · cases e : vB.ownBlock with
    | none => exact .inl rfl
    | some k => exact .inr (fun e2 => h.ne k e2.symm e)
  · intro k e
    obtain rfl := hl k e
    rcases hat with hat | rfl
    · exact h.ne _ hat
    · exact fun e2 => by have := (h.b.lt _ e2).2; omega
  · intro e
    obtain rfl := hl g e
    rcases hat with hat | rfl
    · exact h.ga hat
    · omega
end
theorem wx_keep {w wx : World} (h : Below w.heap.size w wx) : Keeps (fun j => j < w.heap.size) w wx := ⟨h.size, fun j hj _ => h.block j hj⟩
theorem subV_get : ∀ (xs : List Itm) (k : Nat) (x : Itm), xs[k]? = some x → (subV xs)[k * 2 + 0]? = some (.string x.1) ∧ (subV xs)[k * 2 + 1]? = some (.string x.2)
  | [], _, _, h => by cases h
  | y :: ys, 0, x, h => by
    simp only [List.getElem?_cons_zero, Option.some.injEq] at h
    subst h
    exact ⟨rfl, rfl⟩
  | y :: ys, k + 1, x, h => by
    rw [List.getElem?_cons_succ] at h
    obtain ⟨h1, h2⟩ := subV_get ys k x h
    have e : subV (y :: ys) = [.string y.1, .string y.2] ++ subV ys := rfl
    rw [e, List.getElem?_append_right (by simp; omega), List.getElem?_append_right (by simp; omega)]
    simp only [List.length_cons, List.length_nil]
    rw [show (k + 1) * 2 + 0 - (0 + 1 + 1) = k * 2 + 0 by omega, show (k + 1) * 2 + 1 - (0 + 1 + 1) = k * 2 + 1 by omega]
    exact ⟨h1, h2⟩
theorem subV_len (xs : List Itm) : (subV xs).length = xs.length * 2 := by
  induction xs with
  | nil => rfl
  | cons y ys ih => rw [show subV (y :: ys) = [.string y.1, .string y.2] ++ subV ys from rfl, List.length_append, ih]; simp; omega
theorem add_offS (a : Addr) (j : Nat) (h : 0 < j) : a.add j = ⟨a.block, a.off + j, none⟩ := by
  unfold Addr.add
  rw [if_neg (by omega)]
/-- The item at place k. -/
theorem itemAt {w : World} {B : Nat → Prop} {A : Option Addr} {n c k : Nat} {xs : List Itm} {x : Itm} (hR : Row w B 2 A n c (subV xs)) (hk : xs[k]? = some x) :
    ∃ ad, A = some ad ∧ ad.block < w.heap.size ∧ w.cell? (ad.add (k * 2)) = some (.string x.1) ∧ w.cell? ⟨(ad.add (k * 2)).block, (ad.add (k * 2)).off + 1, none⟩ = some (.string x.2) := by
  have hkl : k < xs.length := (List.getElem?_eq_some_iff.1 hk).1
  have hn := hR.1
  rw [subV_len] at hn
  obtain ⟨h0, h1⟩ := subV_get xs k x hk
  obtain ⟨ad, rfl, hB, hlt, hc⟩ := hR.2.2.2 (by omega)
  refine ⟨ad, rfl, hlt, hc _ _ h0, ?_⟩
  rw [← add_offS _ _ (by omega), add_add]
  exact hc _ _ h1
theorem take_fst {xs : List Itm} {k : Nat} {p q : ByteArray} (h : xs[k]? = some (p, q)) : (xs.take (k + 1)).map Prod.fst = (xs.take k).map Prod.fst ++ [p] := by
  rw [List.take_add_one, h]
  simp
theorem take_snd {xs : List Itm} {k : Nat} {p q : ByteArray} (h : xs[k]? = some (p, q)) : (xs.take (k + 1)).map Prod.snd = (xs.take k).map Prod.snd ++ [q] := by
  rw [List.take_add_one, h]
  simp
/-- What the door answers. -/
def DsPost (w : World) (T : ByteArray) (xs : List Itm) (e : Nat) (en : Ending) (w' : World) : Prop := ∃ A cA B cB, en = .returned (.tuple #[.slice A xs.length cA, .slice B xs.length cB, .string (T.extract (e + 1) T.size), .bool true]) ∧ Below w.heap.size w w' ∧
  Row w' (From w.heap.size) 1 A xs.length cA (keysV (xs.map Prod.fst)) ∧ Row w' (From w.heap.size) 1 B xs.length cB (keysV (xs.map Prod.snd))
set_option maxRecDepth 100000 in
set_option maxHeartbeats 8000000 in
theorem doorW (T : ByteArray) (cl : Int) (e : Nat) (all : List Itm) (w : World) (hcl : cl = 93 ∨ cl = 125) (hI : Its T cl 1 all e) (hn : all.length ≤ 1048576) (hT : T.size ≤ 140737488355328) :
    Calls Try.prog 18 #[.string T] w (DsPost w T all e) := by
  have HSUB := Lib.hid (subsW T cl e all w hcl hI hn hT)
  have HN := Lib.hid hn
  obtain ⟨i0, hi0, hz0, hz1, hz2⟩ := info_parts info_str
  have HI := Lib.hid hi0
  have HI0 := Lib.hid hz0
  have HI1 := Lib.hid hz1
  have HI2 := Lib.hid hz2
  obtain ⟨k0, hk0, hy0, hy1, hy2⟩ := info_parts info_sel
  clear hI hn hi0 hz0 hz1 hz2 hcl
  go_enter Try.func18, Try.ntmps18
  go_wp2_with (first
    | (go_at_call 28; (with_reducible refine HSUB.out.mono ?_); rintro e1 w1 ⟨v1, rfl, hb1, ho1⟩
       obtain ⟨As, cs, rfl, hR1⟩ := Row.of_own ho1
       have HB1 := Lib.hid hb1
       have HR1 := Lib.hid (hR1.mono (B' := fun j => j < w1.heap.size) (fun j h _ => h))
       clear hb1 ho1 hR1))
  go_loopg [9, 10, 21] (all.length + 1) (fun d v9 v10 v21 wx => ∃ (k : Nat), v21 = .int .i64 (k : Int) ∧ k ≤ all.length ∧ all.length < d + k ∧ Below w1.heap.size w1 wx ∧ wx.ownsRow w1.heap.size 9 1 v9 k (keysV ((all.take k).map Prod.fst)) ∧ wx.ownsRow w1.heap.size 9 1 v10 k (keysV ((all.take k).map Prod.snd)) ∧ ∀ l, v9.ownBlock = some l → v10.ownBlock ≠ some l)
  case atStart => exact ⟨0, rfl, by omega, by omega, Below.refl _ _, World.ownsRow_nil _ _ _ _, World.ownsRow_nil _ _ _ _, fun l e => by cases e⟩
  case round =>
    obtain ⟨k, rfl, hk, hd, hbw, hoA, hoB, hne⟩ := hrel
    have HD := Lib.hid hd
    have HBW := Lib.hid hbw
    have HOA := Lib.hid hoA
    have HOB := Lib.hid hoB
    have HNE := Lib.hid hne
    clear hd hbw hoA hoB hne
    by_cases hlt : k < all.length
    · obtain ⟨x, hx⟩ : ∃ x, all[k]? = some x := ⟨_, List.getElem?_eq_getElem hlt⟩
      obtain ⟨p, q⟩ := x
      obtain ⟨ad, rfl, hab, a0, a1⟩ := itemAt (HR1.out.keep (wx_keep HBW.out)) hx
      have kk1 : IntKind.i64.wrap ((k : Int) + 1) = (k : Int) + 1 := IntWalk.i64_in _ (by have := HN.out; omega)
      have HX := Lib.hid hx
      clear hx
      go_upto_region 6 with (fail)
      obtain ⟨w2, hw2⟩ : ∃ w2, wr.alloc (.cells #[.string p, .string q] 55) = w2 := ⟨_, rfl⟩
      rw [hw2]
      have HT := Lib.hid (show Tri w1 wr.heap.size p q u9 k ((all.take k).map Prod.fst) u10 k ((all.take k).map Prod.snd) w2 from by
        have hl : ∀ v, ∀ la : List ByteArray, wr.ownsRow w1.heap.size 9 1 v k (keysV la) → v.ownBlock ≠ some wr.heap.size := fun v la h e => by have := (h.lt _ e).2; omega
        have hb : Below wr.heap.size wr w2 := by rw [← hw2]; exact below_alloc (Below.refl _ _) _
        have ht : w2.heap[wr.heap.size]? = some (.cells #[.string p, .string q] 55 (0, 0)) := by rw [← hw2]; exact heap_alloc_new _ _
        exact ⟨below_of HBW.out hb, HOA.out.kept (grown_of_below hb none) (by cases u9.ownBlock <;> simp), HOB.out.kept (grown_of_below hb none) (by cases u10.ownBlock <;> simp), HNE.out, ht, hl _ _ HOA.out, hl _ _ HOB.out⟩)
      have hz2 : w2.heap.size = wr.heap.size + 1 := by rw [← hw2]; simp
      have HZ2 := Lib.hid hz2
      have d0 := HT.out.c0
      have d1 := HT.out.c1
      have e0 := (HT.out.alloc (.cells #[.string p] 9)).c1
      have e1 := (HT.out.alloc (.cells #[.string q] 9)).c0
      clear hw2 hz2 a0 a1
      go_region_law (first
        | (refine step_append_lies _ rfl (.tmp 25) (.tmp 28) 23 rfl w1.heap.size 9 i0 _ 1 16 Try.underlying23 HI.out HI0.out HI1.out HI2.out rfl (by decide) u9 k (keysV ((all.take k).map Prod.fst)) rfl (by first | exact (HT.out.alloc _).drew.a | exact ((HT.out.alloc _).alloc _).drew.a) _ 1 1 [.string p] rfl rfl (by first | exact World.news_of_block (cs := #[.string p]) (t := 9) (fr := (0, 0)) (One.new _ 9 (.string p)).drew | exact World.news_of_block (cs := #[.string p]) (t := 9) (fr := (0, 0)) (one_new1 _ _ 9 (.string p)).drew | exact World.news_of_block (cs := #[.string p]) (t := 9) (fr := (0, 0)) ((One.new _ 9 (.string p)).below (below_alloc (Below.refl _ _) _)).drew) (by simp [Value.oneCell']) (by decide) (by simp only [maxLen]; have := HN.out; omega) (by have := HN.out; omega) (by have := HZ2.out; have := HBW.out.size; simp; omega) _ rfl ?_
           intro g5 cap5 w5 hO5 hg5 hat5 _
           (try have OB := Lib.hid (One.grown (one_new1 w2 (.cells #[.string p] 9) 9 (.string q)).drew hg5 (fun e => by have := (HT.out.a.lt _ e.symm).2; omega)))
           (try have OB := Lib.hid (One.grown ((One.new _ 9 (.string q)).below (below_alloc (Below.refl _ _) (.cells #[.string p] 9))).drew hg5 (fun e => by have := (HT.out.a.lt _ e.symm).2; omega)))
           have HT5 := Lib.hid (Tri.app (by first | exact (HT.out.alloc _).drew | exact ((HT.out.alloc _).alloc _).drew) hO5 hg5 hat5)
           have d5 := HT5.out.c1
           clear hO5 hg5 hat5)
        | (refine step_append_lies _ rfl (.tmp 30) (.tmp 33) 23 rfl w1.heap.size 9 i0 _ 1 16 Try.underlying23 HI.out HI0.out HI1.out HI2.out rfl (by decide) u10 k (keysV ((all.take k).map Prod.snd)) rfl (by first | exact (HT5.out.alloc _).b | exact HT5.out.b) _ 1 1 [.string q] rfl rfl (by first | exact World.news_of_block (cs := #[.string q]) (t := 9) (fr := (0, 0)) (heap_alloc_new _ _) | exact World.news_of_block (cs := #[.string q]) (t := 9) (fr := (0, 0)) OB.out) (by simp [Value.oneCell']) (by decide) (by simp only [maxLen]; have := HN.out; omega) (by have := HN.out; omega) (by have := HT5.out.bel.size; simp; omega) _ rfl ?_
           intro g6 cap6 w6 hO6 hg6 hat6 _
           have HT6 := Lib.hid (Tri.app (by first | exact (HT5.out.alloc _).swap | exact HT5.out.swap) hO6 hg6 hat6)
           clear hO6 hg6 hat6))
      all_goals
        clear d0 d1 e0 e1 d5
        go_wp2
        go_roundg (gk - 1)
        case measure => have := HD.out; omega
        case rel => exact ⟨k + 1, by go_num, by omega, by have := HD.out; omega, HT6.out.bel, by rw [take_fst HX.out]; exact HT6.out.b, by rw [take_snd HX.out]; exact HT6.out.a, fun l e1 e2 => HT6.out.ne l e2 e1⟩
    · obtain rfl : k = all.length := by omega
      rw [List.take_length] at *
      obtain ⟨A9, c9, rfl, hr9⟩ := Row.of_own HOA.out
      obtain ⟨A10, c10, rfl, hr10⟩ := Row.of_own HOB.out
      have H9 := Lib.hid hr9
      have H10 := Lib.hid hr10
      clear hr9 hr10
      go_wp2
      (try simp only [Exit.inBlock, Exit.then])
      refine bodyPost_ret (v := .tuple #[.slice A9 all.length c9, .slice A10 all.length c10, .string (T.extract (e + 1) T.size), .bool true]) (by simp [results, Try.results18, go_sem]) rfl ?_
      have hz := HB1.out.size
      exact ⟨A9, c9, A10, c10, rfl, below_of HB1.out HBW.out, H9.out.mono (fun j _ (h : w1.heap.size ≤ j) => show w.heap.size ≤ j by omega), H10.out.mono (fun j _ (h : w1.heap.size ≤ j) => show w.heap.size ≤ j by omega)⟩
end Go.Proofs.Ytfcnjelhhhncoaa.L
