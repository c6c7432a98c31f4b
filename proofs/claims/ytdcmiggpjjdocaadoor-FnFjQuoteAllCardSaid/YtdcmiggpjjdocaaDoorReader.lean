/- The walks of spec's reader, first part: here, take, blanks, digits, number, escape, quoted, word. -/
import Derived.Test.YtdcmiggpjjdocaaDoorProg
import Derived.Test.YtdcmiggpjjdocaaDoorJson
import Derived.Test.YtdcmiggpjjdocaaDoorOwn
import Derived.Deep.QuietTactic
import Derived.BigQuiet
import Derived.Outline
import Derived.Deep.LoopGhost
import Derived.Deep.DeepMust
import Derived.Deep.RegionHeld3
namespace Go.Proofs.YtdcmiggpjjdocaaDoor.L
open Go.RowKit
set_option linter.unusedVariables false
set_option linter.unusedSimpArgs false

theorem grown_refl (w : World) (row : Option Nat) : w.grownBy w row := World.grownBy.refl w row
theorem grown_trans {a b c : World} {row : Option Nat} (h : a.grownBy b row) (k : b.grownBy c row) : a.grownBy c row :=
  ⟨k.os.trans h.os, k.tape.trans h.tape, k.output.trans h.output, Nat.le_trans h.size k.size, fun i hi hr => (k.block i (Nat.lt_of_lt_of_le hi h.size) hr).trans (h.block i hi hr)⟩
theorem grown_drewN {a w : World} {row : Option Nat} (h : a.grownBy w row) (n : Nat) : a.grownBy (w.drewN n) row := ⟨h.os, h.tape, h.output, h.size, h.block⟩
theorem grown_drew {a w : World} {row : Option Nat} (h : a.grownBy w row) : a.grownBy w.drew row := ⟨h.os, h.tape, h.output, h.size, h.block⟩
theorem grown_alloc {a w : World} {row : Option Nat} (h : a.grownBy w row) (o : Obj) : a.grownBy (w.alloc o) row :=
  ⟨h.os, h.tape, h.output, Nat.le_trans h.size (by simp), fun i hi hne => (Below.heap_alloc w o i (Nat.lt_of_lt_of_le hi h.size)).trans (h.block i hi hne)⟩
theorem grown_set {a w : World} {g : Nat} (h : a.grownBy w (some g)) {p : Addr} (hp : p.block = g ∨ a.heap.size ≤ p.block) (u : Value) : a.grownBy (w.setCell p u) (some g) :=
  ⟨h.os, h.tape, h.output, by simpa [World.setCell] using h.size, fun i hi hne => (Below.heap_setCell w p u i (by
    rintro rfl
    rcases hp with hp | hp
    · exact hne (by rw [hp])
    · omega)).trans (h.block i hi hne)⟩
theorem grown_new {a w w' : World} {row row' : Option Nat} (h : a.grownBy w row) (k : w.grownBy w' row') (hr : ∀ j, row' = some j → row = some j ∨ a.heap.size ≤ j) : a.grownBy w' row :=
  ⟨k.os.trans h.os, k.tape.trans h.tape, k.output.trans h.output, Nat.le_trans h.size k.size, fun i hi hne => (k.block i (Nat.lt_of_lt_of_le hi h.size) (fun e => by
    rcases hr i e.symm with h' | h'
    · exact hne h'.symm
    · omega)).trans (h.block i hi hne)⟩
theorem below_of_grown {a w : World} (h : a.grownBy w none) : Below a.heap.size a w := ⟨h.os, h.tape, h.output, h.size, fun i hi => h.block i hi (by simp)⟩
theorem grown_of_below {a w : World} (h : Below a.heap.size a w) (row : Option Nat) : a.grownBy w row := ⟨h.os, h.tape, h.output, h.size, fun i hi _ => h.block i hi⟩

/-- The reader at block g stands at byte i of s. -/
def RdS (w : World) (g : Nat) (s : ByteArray) (i : Nat) : Prop := w.heap[g]? = some (.cells #[.string s, .int .i64 (i : Int)] 36 (0, 0))
section
variable {w w' : World} {g : Nat} {s : ByteArray} {i : Nat}
theorem RdS.lt (h : RdS w g s i) : g < w.heap.size := (Array.getElem?_eq_some_iff.1 h).1
theorem RdS.c0 (h : RdS w g s i) : w.cell? ⟨g, 0, none⟩ = some (.string s) := cell_of_row w g 0 _ _ _ h
theorem RdS.c1 (h : RdS w g s i) : w.cell? ⟨g, 1, none⟩ = some (.int .i64 (i : Int)) := cell_of_row w g 1 _ _ _ h
theorem RdS.f1 (h : RdS w g s i) : w.frozen? ⟨g, 1, none⟩ = false := by unfold RdS at h; simp [World.frozen?, h]
theorem RdS.drewN (h : RdS w g s i) (n : Nat) : RdS (w.drewN n) g s i := h
theorem RdS.drew (h : RdS w g s i) : RdS w.drew g s i := h
theorem RdS.alloc (h : RdS w g s i) (o : Obj) : RdS (w.alloc o) g s i := (Below.heap_alloc w o g h.lt).trans h
theorem RdS.set (h : RdS w g s i) {x : Int} {j : Nat} (hx : x = (j : Int)) : RdS (w.setCell ⟨g, 1, none⟩ (.int .i64 x)) g s j := by
  subst hx
  unfold RdS at h ⊢
  simp [World.setCell, Array.getElem?_modify, h]
theorem RdS.far (h : RdS w g s i) {p : Addr} (hp : p.block ≠ g) (u : Value) : RdS (w.setCell p u) g s i := (Below.heap_setCell w p u g (fun e => hp e.symm)).trans h
theorem RdS.grown {row : Option Nat} (h : RdS w g s i) (hb : w.grownBy w' row) (hg : some g ≠ row) : RdS w' g s i := (hb.block g h.lt hg).trans h
end
/-- The reader has been moved; nothing else that was there has turned. -/
structure Mv (w w' : World) (g : Nat) (s : ByteArray) (i : Nat) : Prop where
  rd : RdS w' g s i
  gr : w.grownBy w' (some g)
theorem Mv.trans {w w1 w2 : World} {g : Nat} {s : ByteArray} {i j : Nat} (h : Mv w w1 g s i) (k : Mv w1 w2 g s j) : Mv w w2 g s j := ⟨k.rd, grown_trans h.gr k.gr⟩
theorem Mv.refl {w : World} {g : Nat} {s : ByteArray} {i : Nat} (h : RdS w g s i) : Mv w w g s i := ⟨h, grown_refl _ _⟩
theorem Mv.drewN {w w1 : World} {g : Nat} {s : ByteArray} {i : Nat} (h : Mv w w1 g s i) (n : Nat) : Mv w (w1.drewN n) g s i := ⟨h.rd.drewN n, grown_drewN h.gr n⟩
theorem Mv.bump {w w1 : World} {g : Nat} {s : ByteArray} {i : Nat} (h : Mv w w1 g s i) {x : Int} {j : Nat} (hx : x = (j : Int)) : Mv w (w1.setCell ⟨g, 1, none⟩ (.int .i64 x)) g s j := ⟨h.rd.set hx, grown_set h.gr (.inl rfl) _⟩

theorem Mv.next {w w1 : World} {g : Nat} {s : ByteArray} {i : Nat} (h : Mv w w1 g s i) : Mv w (w1.setCell ⟨g, 1, none⟩ (.int .i64 ((i : Int) + 1))) g s (i + 1) := h.bump (by omega)

abbrev rp (g : Nat) : Value := .pointer (some ⟨g, 0, none⟩)

theorem here (g : Nat) (s : ByteArray) (i : Nat) (w : World) (h : RdS w g s i) (hs : s.size ≤ 140737488351232) : Calls Tryd.prog 25 #[rp g] w fun e w' => e = .returned (.int .u8 (bt s i)) ∧ ∃ n, w' = w.drewN n := by
  have c0 := h.c0
  have c1 := h.c1
  by_cases hlt : i < s.size
  · have hx : ∀ h : i < s.size, ((s[i]'h).toNat : Int) = bt s i := bt_at s i
    clear h
    go_enter Tryd.func25, Tryd.ntmps25
    go_wp2
    go_quiet (fail)
    go_wp2
    go_quiet (fail)
    go_wp2
    go_ret
    exact ⟨by simp, _, World.drewN_drewN ..⟩
  · have e0 := bt_out s i (by omega)
    rw [e0]
    clear h e0
    go_enter Tryd.func25, Tryd.ntmps25
    go_wp2
    go_quiet (fail)
    go_wp2
    go_ret
    exact ⟨by simp, _, rfl⟩

/-- What a function answers that goes over something if it stands here. -/
def OptPost (w : World) (g : Nat) (s : ByteArray) (r : Option Nat) (e : Ending) (w' : World) : Prop :=
  ∃ j, j ≤ s.size ∧ Mv w w' g s j ∧ e = .returned (.bool r.isSome) ∧ ∀ k, r = some k → j = k
theorem OptPost.yes {w w' : World} {g : Nat} {s : ByteArray} {r : Option Nat} {e : Ending} {j : Nat} (hM : Mv w w' g s j) (hr : r = some j) (hj : j ≤ s.size) (he : e = .returned (.bool true)) : OptPost w g s r e w' :=
  ⟨j, hj, hM, by rw [he, hr]; rfl, fun k hk => by rw [hr] at hk; injection hk⟩
theorem OptPost.no {w w' : World} {g : Nat} {s : ByteArray} {r : Option Nat} {e : Ending} {j : Nat} (hM : Mv w w' g s j) (hr : r = none) (hj : j ≤ s.size) (he : e = .returned (.bool false)) : OptPost w g s r e w' :=
  ⟨j, hj, hM, by rw [he, hr]; rfl, fun k hk => by rw [hr] at hk; cases hk⟩

end Go.Proofs.YtdcmiggpjjdocaaDoor.L
