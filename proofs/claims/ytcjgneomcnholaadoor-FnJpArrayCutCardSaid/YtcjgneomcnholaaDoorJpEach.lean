/- ArrayEach over an array that is cut off: Config.Get, and the call back of JpArrayEach. -/
import Derived.Test.YtcjgneomcnholaaDoorJpCutP
import Derived.Test.YtcjgneomcnholaaDoorJpLawS
namespace Go.Proofs.YtcjgneomcnholaaDoor.Jp
open Go.RowKit L
set_option linter.unusedVariables false
set_option linter.unusedSimpArgs false

set_option maxRecDepth 100000 in
set_option maxHeartbeats 4000000 in
theorem cgetW (T : Nat → TypeId) (V : Nat → Value) (A : Option Addr) (s : ByteArray) (m c : Nat) (ca cb : Bool) (cn : Int) (w : World) (h : Rd w A s) (hE : Errs T V w) (hm : m = s.size) (hs : s.size ≤ 1000000) (hc : s.size ≤ c) :
    Calls Tryd.prog 50 #[.agg #[.bool ca, .bool cb, .int .i64 cn], .slice A m c, .slice none 0 0] w (GetPost T V s (getT ca (tx s)) w) := by
  subst hm
  have HB := Lib.hid (below_alloc (Below.refl w.heap.size w) (.cells #[.bool ca, .bool cb, .int .i64 cn] 91))
  have HR := Lib.hid (h.below HB.out)
  have HE := Lib.hid (hE.below HB.out)
  have hcf := CfgAt.new w ca cb cn
  have hg0 := hcf.c0
  have hg1 := hcf.c1
  have hg2 := hcf.c2
  clear h hE hcf
  obtain ⟨w0, hw0⟩ : ∃ w0, w.alloc (.cells #[.bool ca, .bool cb, .int .i64 cn] 91) = w0 := ⟨_, rfl⟩
  rw [hw0] at HB HR HE hg0 hg1 hg2
  obtain ⟨g, hg⟩ : ∃ g, getT ca (tx s) = g := ⟨_, rfl⟩
  rw [hg]
  have HG := Lib.hid hg
  clear hg
  rcases g with _ | ⟨d, ⟨dt, k⟩ | ⟨dt, err⟩⟩
  all_goals
    go_enter Tryd.func50, Tryd.ntmps50
  · go_wp2_with (first
      | (go_at_call 74; refine (igetW T V _ s _ _ ca cb cn _ HR.out HE.out rfl hs hc).mono ?_; rw [HG.out]; rintro e w1 ⟨rfl, hb1⟩; replace hb1 := Lib.hid hb1))
    (try simp only [Exit.inBlock, Exit.then])
    refine bodyPost_ret (results_tmp4 rfl _ _ _) rfl ?_
    exact ⟨rfl, below_of HB.out hb1.out⟩
  · go_wp2_with (first
      | (go_at_call 74; refine (igetW T V _ s _ _ ca cb cn _ HR.out HE.out rfl hs hc).mono ?_; rw [HG.out]; rintro e w1 ⟨⟨A2, n2, c2, rfl, h1, h2, h3, h4⟩, hb1⟩; replace hb1 := Lib.hid hb1; replace h1 := Lib.hid h1; replace h4 := Lib.hid h4))
    (try simp only [Exit.inBlock, Exit.then])
    refine bodyPost_ret (results_tmp4 rfl _ _ _) rfl ?_
    exact ⟨⟨A2, n2, c2, rfl, h1.out, h2, h3, h4.out⟩, below_of HB.out hb1.out⟩
  · go_wp2_with (first
      | (go_at_call 74; refine (igetW T V _ s _ _ ca cb cn _ HR.out HE.out rfl hs hc).mono ?_; rw [HG.out]; rintro e w1 ⟨rfl, hb1⟩; replace hb1 := Lib.hid hb1))
    (try simp only [Exit.inBlock, Exit.then])
    refine bodyPost_ret (results_tmp4 rfl _ _ _) rfl ?_
    exact ⟨rfl, below_of HB.out hb1.out⟩

/-! ### the call back -/
/-- What the call back has laid: block G, of one cell, holds a row of its own, of blocks from z on. -/
structure Out (z G : Nat) (w : World) (n : Nat) (xs : List Value) : Prop where
  lt : G < z
  sz : z ≤ w.heap.size
  row : ∃ v, w.heap[G]? = some (.cells #[v] 33 (0, 0)) ∧ w.ownsRow z 41 4 v n xs
/-- The blocks of B are as they were, and nothing was said or read. -/
structure Kp (B : Nat → Prop) (w w' : World) : Prop where
  os : w'.os = w.os
  tape : w'.tape = w.tape
  output : w'.output = w.output
  size : w.heap.size ≤ w'.heap.size
  block : ∀ j, B j → j < w.heap.size → w'.heap[j]? = w.heap[j]?
theorem Kp.refl (B : Nat → Prop) (w : World) : Kp B w w := ⟨rfl, rfl, rfl, Nat.le_refl _, fun _ _ _ => rfl⟩
theorem Kp.trans {B : Nat → Prop} {u v w : World} (h : Kp B u v) (k : Kp B v w) : Kp B u w :=
  ⟨k.os.trans h.os, k.tape.trans h.tape, k.output.trans h.output, Nat.le_trans h.size k.size, fun j hj hl => (k.block j hj (Nat.lt_of_lt_of_le hl h.size)).trans (h.block j hj hl)⟩
theorem Kp.of_below {B : Nat → Prop} {w w' : World} (h : Below w.heap.size w w') : Kp B w w' := ⟨h.os, h.tape, h.output, h.size, fun j _ hl => h.block j hl⟩
/-- The blocks below z but G. -/
abbrev Old (z G : Nat) : Nat → Prop := fun j => j < z ∧ j ≠ G
theorem Out.below {z G n : Nat} {w w' : World} {xs : List Value} (h : Out z G w n xs) (hb : Below w.heap.size w w') : Out z G w' n xs := by
  obtain ⟨h1, h2, v, h4, h5⟩ := h
  have hl : G < w.heap.size := by omega
  exact ⟨h1, Nat.le_trans h2 hb.size, v, (hb.block G hl).trans h4, h5.kept (grown_of_below hb none) (by cases v.ownBlock <;> simp)⟩
theorem one_set {w : World} {b : Nat} {v u : Value} {t : TypeId} (h : w.heap[b]? = some (.cells #[v] t (0, 0))) : (w.setCell ⟨b, 0, none⟩ u).heap[b]? = some (.cells #[u] t (0, 0)) := by
  simp [World.setCell, Array.getElem?_modify, h]
theorem info_fd : (Tryd.prog.info? 41).map (fun i => (i.zero, i.size, i.bytes)) = some (some (.agg #[.string ⟨#[]⟩, .string ⟨#[]⟩, .int .i64 0, .int .i64 0]), 4, 48) := by kernel_rfl
set_option maxRecDepth 100000 in
set_option maxHeartbeats 4000000 in
theorem onCall (z G n m c : Nat) (A : Option Addr) (r : ByteArray) (dt x : Int) (ev : Value) (xs : List Value) (w : World) (h : Out z G w n xs) (hr : Rd w A r) (hm : m = r.size) (hrs : r.size ≤ 1000000) (hn : n ≤ 1000000) :
    Calls Tryd.prog 40 #[.slice A m c, .int .i64 dt, .int .i64 x, ev, .pointer (some ⟨G, 0, none⟩)] w fun e w' => e = .returned (.tuple #[]) ∧ Out z G w' (n + 1) (xs ++ [.string ⟨#[]⟩, .string r, .int .i64 dt, .int .i64 x]) ∧ Kp (Old z G) w w' := by
  subst hm
  obtain ⟨h1, h2, v, hg, h5⟩ := h
  have h4 : w.cell? ⟨G, 0, none⟩ = some v := cell_of_row w G 0 _ _ _ hg
  have h3 : w.frozen? ⟨G, 0, none⟩ = false := by simp [World.frozen?, hg]
  have HG := Lib.hid hg
  clear hg
  have hcv : (convert 77 9 (.slice A r.size c)).run Tryd.prog w = .ok (.string r) w := hr.string Tryd.underlying77 Tryd.underlying5 Tryd.underlying9
  obtain ⟨i0, hi0, hz0, hz1, hz2⟩ := info_parts info_fd
  have HI := Lib.hid hi0
  have HZ0 := Lib.hid hz0
  have HZ1 := Lib.hid hz1
  have HZ2 := Lib.hid hz2
  have HO := Lib.hid h5
  have HL := Lib.hid (show ∀ j, v.ownBlock = some j → z ≤ j ∧ j < w.heap.size from fun j hj => h5.lt j hj)
  clear hi0 hz0 hz1 hz2 h5
  go_enter Tryd.func40, Tryd.ntmps40
  go_wp2_with (first
    | (at_builtin; go_must (refine wpList_append_own_at _ rfl (.tmp 9) (.tmp 15) 33 rfl z 41 i0 _ 4 48 Tryd.underlying33 HI.out HZ0.out HZ1.out HZ2.out rfl (by decide) _ n xs rfl (HO.out.alloc _) ⟨w.heap.size, 0, none⟩ 1 1 [.string ⟨#[]⟩, .string r, .int .i64 dt, .int .i64 x] rfl rfl (World.news_of_block (cs := #[.string ⟨#[]⟩, .string r, .int .i64 dt, .int .i64 x]) (t := 41) (fr := (0, 0)) (heap_alloc_new _ _)) (by simp [Value.oneCell']) (by simp only [maxLen]; omega) (by omega) (by simp; omega) ?_)
       intro v5 w5 hO5 hg5 _ hat5
       obtain ⟨A5, cc5, rfl, _⟩ := Row.of_own hO5
       have hGn : some G ≠ v.ownBlock := fun e => by have := HL.out G e.symm; omega
       have hG5 := hg5.block G (by simp; omega) hGn
       rw [Below.heap_alloc w _ G (by omega)] at hG5
       have c5 : w5.cell? ⟨G, 0, none⟩ = some v := (World.cell?_of_block hG5).trans h4
       have f5 : w5.frozen? ⟨G, 0, none⟩ = false := by
         rw [← h3]; simp only [World.frozen?]; rw [hG5]
       replace hO5 := Lib.hid hO5
       replace hg5 := Lib.hid (show (w.alloc (.cells #[.string ⟨#[]⟩, .string r, .int .i64 dt, .int .i64 x] 41)).grownBy w5 v.ownBlock from hg5)
       clear hat5
       replace hG5 := Lib.hid hG5
       clear hGn))
  go_end0
  have hgg : w5.heap[G]? = some (.cells #[v] 33 (0, 0)) := hG5.out.trans HG.out
  have hz5 : w.heap.size + 1 ≤ w5.heap.size := by have := hg5.out.size; simp at this; omega
  refine ⟨rfl, ⟨h1, ?_, _, one_set hgg, Go.RowKit.ownsRow_setCell_below hO5.out h1 _⟩, ⟨hg5.out.os, hg5.out.tape, hg5.out.output, ?_, fun j hj hl => ?_⟩⟩
  · simp [World.setCell]; omega
  · simp [World.setCell]; omega
  · rw [Below.heap_setCell w5 _ _ j hj.2, hg5.out.block j (by simp; omega) (fun e => by have := HL.out j e.symm; omega), Below.heap_alloc w _ j hl]
end Go.Proofs.YtcjgneomcnholaaDoor.Jp
