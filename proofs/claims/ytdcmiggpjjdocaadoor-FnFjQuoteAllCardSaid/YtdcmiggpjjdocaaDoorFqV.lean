/- The cache's getValue, from the empty cache. -/
import Derived.Test.YtdcmiggpjjdocaaDoorFqM
import Derived.Maps.AppendAt
import Derived.Deep.AppendLies
import Derived.Deep.DeepMust
namespace Go.Proofs.YtdcmiggpjjdocaaDoor.L
open Go.RowKit
set_option linter.unusedVariables false
set_option linter.unusedSimpArgs false

theorem info_val : (Tryd.prog.info? 49).map (fun i => (i.zero, i.size, i.bytes)) = some (some (.agg #[.slice none 0 0, .bool false, .slice none 0 0, .string ⟨#[]⟩, .int .i64 0]), 5, 80) := by kernel_rfl
abbrev zval : List Value := [.slice none 0 0, .bool false, .slice none 0 0, .string ⟨#[]⟩, .int .i64 0]
/-- What getValue gives from the empty cache: a new value's place. -/
def GvPost (g : Nat) (b : Value) (q : TypeId) (w : World) (e : Ending) (w' : World) : Prop := ∃ h cap cur, e = .returned (.pointer (some ⟨h, 0, none⟩)) ∧ w.heap.size ≤ h ∧ w'.heap[h]? = some (.cells cur 49 (0, 0)) ∧ cur.toList.take 5 = zval ∧ w'.heap[g]? = some (.cells #[b, .slice (some ⟨h, 0, none⟩) 1 cap] q (0, 0)) ∧ w.grownBy w' (some g)
set_option maxRecDepth 100000 in
set_option maxHeartbeats 4000000 in
theorem getValueW (g : Nat) (b : Value) (q : TypeId) (w : World) (hg : w.heap[g]? = some (.cells #[b, .slice none 0 0] q (0, 0))) :
    Calls Tryd.prog 19 #[.pointer (some ⟨g, 1, none⟩)] w (GvPost g b q w) := by
  have hgl : g < w.heap.size := (Array.getElem?_eq_some_iff.1 hg).1
  have c1 : w.cell? ⟨g, 1, none⟩ = some (.slice none 0 0) := cell_of_row w g 1 _ _ _ hg
  have f1 : w.frozen? ⟨g, 1, none⟩ = false := by simp [World.frozen?, hg]
  obtain ⟨i0, hi0, hz0, hz1, hz2⟩ := info_parts info_val
  have HG := Lib.hid hg
  have HI := Lib.hid hi0
  have HZ0 := Lib.hid hz0
  have HZ1 := Lib.hid hz1
  have HZ2 := Lib.hid hz2
  have C1 := Lib.hid c1
  have F1 := Lib.hid f1
  clear hi0 hz0 hz1 hz2 hg f1
  go_enter Tryd.func19, Tryd.ntmps19
  go_wp2
  go_quiet (fail)
  go_wp2_with (first
    | (at_builtin; go_must (refine wpList_append_own_at _ rfl (.tmp 32) (.tmp 34) 27 rfl w.heap.size 49 i0 _ 5 80 Tryd.underlying27 HI.out HZ0.out HZ1.out HZ2.out rfl (by decide) _ 0 [] rfl (World.ownsRow_nil _ _ _ _) ⟨w.heap.size, 0, none⟩ 1 1 zval rfl rfl (World.news_of_block (cs := zval.toArray) (t := 49) (fr := (0, 0)) (heap_alloc_new _ _)) (by simp [Value.oneCell']) (by simp only [maxLen]; omega) (by omega) (by simp) ?_); intro v5 w5 hO5 hg5 _ hat5
       obtain ⟨-, ⟨-, hbad⟩ | ⟨h, cap, cur, rfl, hbh, hh, hcap, -, -, htk⟩⟩ := hO5
       · exact absurd hbad (by omega)
       have hG5 : w5.heap[g]? = some (.cells #[b, .slice none 0 0] q (0, 0)) := (hg5.block g (by simp; omega) (fun e => by have e' : some g = (none : Option Nat) := e; cases e')).trans ((Below.heap_alloc w _ g hgl).trans HG.out)
       have c5 : w5.cell? ⟨g, 1, none⟩ = some (.slice none 0 0) := cell_of_row w5 g 1 _ _ _ hG5
       have f5 : w5.frozen? ⟨g, 1, none⟩ = false := by simp [World.frozen?, hG5]
       replace hg5 := Lib.hid hg5
       replace hh := Lib.hid hh
       replace htk := Lib.hid htk
       replace hG5 := Lib.hid hG5
       clear hat5))
  go_quiet (fail)
  go_wp2
  go_ret
  have hgh : h ≠ g := by omega
  obtain ⟨nn, hga⟩ : ∃ nn, ((w.drewN nn).alloc (.cells zval.toArray 49)).grownBy w5 none := ⟨_, hg5.out⟩
  refine ⟨h, cap, cur, rfl, hbh, ?_, htk.out, ?_, ?_⟩
  · exact (Below.heap_setCell w5 ⟨g, 1, none⟩ _ h hgh).trans hh.out
  · have e := hG5.out
    simp [World.setCell, Array.getElem?_modify, e]
  · have hga2 : w.grownBy w5 (some g) := ⟨hga.os, hga.tape, hga.output, Nat.le_trans (by simp) hga.size, fun j hj hne => (hga.block j (by simp; omega) (by simp)).trans (Below.heap_alloc (w.drewN nn) _ j hj)⟩
    exact grown_drewN (grown_set (p := ⟨g, 1, none⟩) hga2 (.inl rfl) _) _
end Go.Proofs.YtdcmiggpjjdocaaDoor.L
