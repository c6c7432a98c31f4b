/- FnGjMatchesHas: the walks. -/
import Derived.Test.YtclemmgfilkkgaaDoorProg
import Derived.Test.YtclemmgfilkkgaaDoorBase
import Derived.WalkKit
import Derived.Deep.QuietTactic
import Derived.BigQuiet
import Derived.Outline
import Derived.Lib.Hide
import Derived.Deep.RegionHeld3
import Derived.Deep.CutBlock
import Derived.Laws.ResultCell
namespace Go.Proofs.YtclemmgfilkkgaaDoor.Mh
open Go.RowKit L
set_option linter.unusedVariables false
set_option linter.unusedSimpArgs false

theorem store_float (P : Program) (w : World) (a : Addr) (m : Mode) (k : FloatKind) (b : Nat) : (store a (.float k b) m).run P w = stored P w a (.float k b) m := run_store P w a _ m rfl
attribute [local go_sem] store_float

theorem fitsYes (k : Int) (raw str : ByteArray) (n e : Value) (w : World) (h1 : raw.size ≤ 2147483647) (h2 : str.size ≤ 2147483647) :
    Calls Tryd.prog 8 #[.agg #[.int .i64 k, .string raw, .string str, n, e]] w fun en w' => en = .returned (.bool true) ∧ Below w.heap.size w w' := by
  go_enter Tryd.func8, Tryd.ntmps8
  go_wp2
  go_ret
  exact ⟨rfl, below_alloc (Below.refl _ _) _⟩
theorem fitsNo (k : Int) (raw str : ByteArray) (n e : Value) (w : World) (h1 : raw.size ≤ 9223372036854775807) (h2 : str.size ≤ 9223372036854775807) (h : ¬ (raw.size ≤ 2147483647 ∧ str.size ≤ 2147483647)) :
    Calls Tryd.prog 8 #[.agg #[.int .i64 k, .string raw, .string str, n, e]] w fun en w' => en = .returned (.bool false) ∧ Below w.heap.size w w' := by
  by_cases c1 : raw.size ≤ 2147483647
  · have c2 : ¬ str.size ≤ 2147483647 := fun c => h ⟨c1, c⟩
    clear h
    go_enter Tryd.func8, Tryd.ntmps8
    go_wp2
    go_ret
    exact ⟨rfl, below_alloc (Below.refl _ _) _⟩
  · clear h
    go_enter Tryd.func8, Tryd.ntmps8
    go_wp2
    go_ret
    exact ⟨rfl, below_alloc (Below.refl _ _) _⟩
/-- gjson's Result. -/
abbrev Rv (k : Int) (raw str : ByteArray) (n : Nat) : Value := .agg #[.int .i64 k, .string raw, .string str, .float .f64 n, .int .i64 0, .slice none 0 0]
theorem gjOfW (k : Int) (raw str : ByteArray) (n : Nat) (e : Bool) (w : World) :
    Calls Tryd.prog 17 #[.agg #[.int .i64 k, .string raw, .string str, .float .f64 n, .bool e]] w fun en w' => en = .returned (Rv k raw str n) ∧ Below w.heap.size w w' := by
  go_enter Tryd.func17, Tryd.ntmps17
  go_wp2
  refine bodyPost_ret (v := Rv k raw str n) (by simp [results, Tryd.results17, go_sem]) rfl ⟨rfl, ?_⟩
  repeat (first | exact Below.refl _ _ | apply below_alloc | (refine Below.setCell ?_ (by simp) _))
def existsB (k : Int) (raw : ByteArray) : Bool := !(decide (k = 0)) || !(decide (raw.size = 0))
theorem existsW (k : Int) (raw str : ByteArray) (n : Nat) (b : Bool) (hb : existsB k raw = b) (w : World) (hr : raw.size ≤ 2147483647) :
    Calls Tryd.prog 24 #[Rv k raw str n] w fun en w' => en = .returned (.bool b) ∧ Below w.heap.size w w' := by
  subst hb
  unfold existsB
  by_cases hk : k = 0
  · subst hk
    by_cases h0 : raw.size = 0
    · have h1 : ((raw.size : Int) != 0) = false := by rw [h0]; rfl
      rw [decide_eq_true rfl, decide_eq_true h0]
      go_enter Tryd.func24, Tryd.ntmps24
      go_wp2
      go_ret
      exact ⟨rfl, below_alloc (Below.refl _ _) _⟩
    · have h1 : ((raw.size : Int) != 0) = true := bne_iff_ne.2 (by omega)
      rw [decide_eq_true rfl, decide_eq_false h0]
      go_enter Tryd.func24, Tryd.ntmps24
      go_wp2
      go_ret
      exact ⟨rfl, below_alloc (Below.refl _ _) _⟩
  · have h1 : (k != 0) = true := by simp; exact hk
    rw [decide_eq_false hk]
    go_enter Tryd.func24, Tryd.ntmps24
    go_wp2
    go_ret
    exact ⟨rfl, below_alloc (Below.refl _ _) _⟩
theorem below_of {a b c : World} (h : Below a.heap.size a b) (k : Below b.heap.size b c) : Below a.heap.size a c := h.trans (k.mono h.size)
/-- A row of values in a block of its own. -/
def Bk (w : World) (g : Nat) (t : TypeId) (xs : Array Value) : Prop := w.heap[g]? = some (.cells xs t (0, 0))
section
variable {w w' : World} {g : Nat} {t : TypeId} {xs : Array Value}
theorem Bk.new (w : World) (t : TypeId) (xs : Array Value) : Bk (w.alloc (.cells xs t)) w.heap.size t xs := heap_alloc_new w _
theorem Bk.lt (h : Bk w g t xs) : g < w.heap.size := (Array.getElem?_eq_some_iff.1 h).1
theorem Bk.c (h : Bk w g t xs) (j : Nat) {v : Value} (hv : xs[j]? = some v) : w.cell? ⟨g, j, none⟩ = some v := by
  have := cell_of_row w g j _ _ _ h
  first | exact this.trans hv | exact this hv | (rw [this]; exact hv)
theorem Bk.f (h : Bk w g t xs) (j : Nat) : w.frozen? ⟨g, j, none⟩ = false := by unfold Bk at h; simp [World.frozen?, h]
theorem Bk.below (h : Bk w g t xs) (hb : Below w.heap.size w w') : Bk w' g t xs := (hb.block g h.lt).trans h
end
set_option maxRecDepth 100000 in
set_option maxHeartbeats 4000000 in
theorem qmNo (g : Nat) (k : Int) (raw str op right : ByteArray) (n : Nat) (w : World) (hb : existsB k raw = false) (hr : raw.size ≤ 2147483647) (hs : right.size ≤ 2147483647)
    (h11 : w.cell? ⟨g, 11, none⟩ = some (.string op)) (h12 : w.cell? ⟨g, 12, none⟩ = some (.string right)) (ht : ∀ h : 0 < right.size, (right[0]'h).toNat ≠ 126) (hg : g < w.heap.size) :
    Calls Tryd.prog 26 #[.pointer (some ⟨g, 0, none⟩), Rv k raw str n] w fun en w' => en = .returned (.bool false) ∧ Below w.heap.size w w' := by
  have HB := Lib.hid hb
  clear hb
  obtain ⟨w1, hw1⟩ : ∃ w1, w.alloc (.cells #[.int .i64 k, .string raw, .string str, .float .f64 n, .int .i64 0, .slice none 0 0] 38) = w1 := ⟨_, rfl⟩
  have HB1 := Lib.hid (show Below w.heap.size w w1 by rw [← hw1]; exact below_alloc (Below.refl _ _) _)
  have g11 : w1.cell? ⟨g, 11, none⟩ = some (.string op) := (HB1.out.cell hg).trans h11
  have g12 : w1.cell? ⟨g, 12, none⟩ = some (.string right) := (HB1.out.cell hg).trans h12
  have hk : Bk w1 w.heap.size 38 #[.int .i64 k, .string raw, .string str, .float .f64 n, .int .i64 0, .slice none 0 0] := by rw [← hw1]; exact Bk.new _ _ _
  have k0 := hk.c 0 (v := .int .i64 k) rfl
  have k1 := hk.c 1 (v := .string raw) rfl
  have k2 := hk.c 2 (v := .string str) rfl
  have k3 := hk.c 3 (v := .float .f64 n) rfl
  have k4 := hk.c 4 (v := .int .i64 0) rfl
  have k5 := hk.c 5 (v := .slice none 0 0) rfl
  clear hk
  by_cases h0 : 0 < right.size
  · have hx : (((right[0]'h0).toNat : Int) == 126) = false := beq_eq_false_iff_ne.2 (by have := ht h0; omega)
    go_enter Tryd.func26, Tryd.ntmps26
    go_wp2_with (first
      | (go_at_call 24; (with_reducible refine (existsW k raw str n false HB.out _ hr).mono ?_); rintro en w2 ⟨rfl, hb2⟩; replace hb2 := Lib.hid hb2))
    go_ret
    exact ⟨rfl, below_of HB1.out hb2.out⟩
  · go_enter Tryd.func26, Tryd.ntmps26
    go_wp2_with (first
      | (go_at_call 24; (with_reducible refine (existsW k raw str n false HB.out _ hr).mono ?_); rintro en w2 ⟨rfl, hb2⟩; replace hb2 := Lib.hid hb2))
    go_ret
    exact ⟨rfl, below_of HB1.out hb2.out⟩
set_option maxRecDepth 100000 in
set_option maxHeartbeats 4000000 in
theorem qmYes (g : Nat) (k : Int) (raw str right : ByteArray) (n : Nat) (w : World) (hb : existsB k raw = true) (hr : raw.size ≤ 2147483647) (hs : right.size ≤ 2147483647)
    (h11 : w.cell? ⟨g, 11, none⟩ = some (.string ⟨#[]⟩)) (h12 : w.cell? ⟨g, 12, none⟩ = some (.string right)) (ht : ∀ h : 0 < right.size, (right[0]'h).toNat ≠ 126) (hg : g < w.heap.size) :
    Calls Tryd.prog 26 #[.pointer (some ⟨g, 0, none⟩), Rv k raw str n] w fun en w' => en = .returned (.bool true) ∧ Below w.heap.size w w' := by
  have HB := Lib.hid hb
  clear hb
  obtain ⟨w1, hw1⟩ : ∃ w1, w.alloc (.cells #[.int .i64 k, .string raw, .string str, .float .f64 n, .int .i64 0, .slice none 0 0] 38) = w1 := ⟨_, rfl⟩
  have HB1 := Lib.hid (show Below w.heap.size w w1 by rw [← hw1]; exact below_alloc (Below.refl _ _) _)
  have g11 : w1.cell? ⟨g, 11, none⟩ = some (.string ⟨#[]⟩) := (HB1.out.cell hg).trans h11
  have g12 : w1.cell? ⟨g, 12, none⟩ = some (.string right) := (HB1.out.cell hg).trans h12
  have hk : Bk w1 w.heap.size 38 #[.int .i64 k, .string raw, .string str, .float .f64 n, .int .i64 0, .slice none 0 0] := by rw [← hw1]; exact Bk.new _ _ _
  have k0 := hk.c 0 (v := .int .i64 k) rfl
  have k1 := hk.c 1 (v := .string raw) rfl
  have k2 := hk.c 2 (v := .string str) rfl
  have k3 := hk.c 3 (v := .float .f64 n) rfl
  have k4 := hk.c 4 (v := .int .i64 0) rfl
  have k5 := hk.c 5 (v := .slice none 0 0) rfl
  clear hk
  by_cases h0 : 0 < right.size
  · have hx : (((right[0]'h0).toNat : Int) == 126) = false := beq_eq_false_iff_ne.2 (by have := ht h0; omega)
    go_enter Tryd.func26, Tryd.ntmps26
    go_wp2_with (first
      | (go_at_call 24; (with_reducible refine (existsW k raw str n true HB.out _ hr).mono ?_); rintro en w2 ⟨rfl, hb2⟩; have g11' : w2.cell? ⟨g, 11, none⟩ = some (.string ⟨#[]⟩) := (hb2.cell (Nat.lt_of_lt_of_le hg HB1.out.size)).trans g11; replace hb2 := Lib.hid hb2))
    go_ret
    exact ⟨rfl, below_of HB1.out hb2.out⟩
  · go_enter Tryd.func26, Tryd.ntmps26
    go_wp2_with (first
      | (go_at_call 24; (with_reducible refine (existsW k raw str n true HB.out _ hr).mono ?_); rintro en w2 ⟨rfl, hb2⟩; have g11' : w2.cell? ⟨g, 11, none⟩ = some (.string ⟨#[]⟩) := (hb2.cell (Nat.lt_of_lt_of_le hg HB1.out.size)).trans g11; replace hb2 := Lib.hid hb2))
    go_ret
    exact ⟨rfl, below_of HB1.out hb2.out⟩

/-- The cells of an arrayPathResult. -/
abbrev apr (op right : ByteArray) : Array Value := #[.string ⟨#[]⟩, .string ⟨#[]⟩, .string ⟨#[]⟩, .bool false, .bool false, .bool false, .bool false, .string ⟨#[]⟩, .bool false, .bool false, .string ⟨#[]⟩, .string op, .string right]
theorem Bk.set {w : World} {g : Nat} {t : TypeId} {xs : Array Value} (h : Bk w g t xs) (j : Nat) (v : Value) {ys : Array Value} (hy : xs.setIfInBounds j v = ys) : Bk (w.setCell ⟨g, j, none⟩ v) g t ys := by
  subst hy
  unfold Bk at h ⊢
  simp [World.setCell, Array.getElem?_modify, h]
set_option maxRecDepth 100000 in
set_option maxHeartbeats 4000000 in
theorem doorW (k : Int) (raw str op right : ByteArray) (n : Nat) (b : Bool) (w : World) (hb : existsB k raw = b) (hr : raw.size ≤ 2147483647) (hs : right.size ≤ 2147483647) (ht : ∀ h : 0 < right.size, (right[0]'h).toNat ≠ 126) (hop : b = true → op = ⟨#[]⟩) :
    Calls Tryd.prog 16 #[Rv k raw str n, .string op, .string right] w fun en w' => en = .returned (.bool b) ∧ Below w.heap.size w w' := by
  have HB := Lib.hid hb
  have HOP := Lib.hid hop
  clear hb hop
  obtain ⟨w1, hw1⟩ : ∃ w1, w.alloc (.cells #[.int .i64 k, .string raw, .string str, .float .f64 n, .int .i64 0, .slice none 0 0] 38) = w1 := ⟨_, rfl⟩
  have HB1 := Lib.hid (show Below w.heap.size w w1 by rw [← hw1]; exact below_alloc (Below.refl _ _) _)
  have HK1 := Lib.hid (show Bk w1 w.heap.size 38 #[.int .i64 k, .string raw, .string str, .float .f64 n, .int .i64 0, .slice none 0 0] by rw [← hw1]; exact Bk.new _ _ _)
  obtain ⟨w2, hw2⟩ : ∃ w2, w1.alloc (.cells (apr ⟨#[]⟩ ⟨#[]⟩) 55) = w2 := ⟨_, rfl⟩
  have HB2 := Lib.hid (show Below w1.heap.size w1 w2 by rw [← hw2]; exact below_alloc (Below.refl _ _) _)
  have hp2 : Bk w2 w1.heap.size 55 (apr ⟨#[]⟩ ⟨#[]⟩) := by rw [← hw2]; exact Bk.new _ _ _
  have p11 := hp2.c 11 (v := .string ⟨#[]⟩) rfl
  have f11 := hp2.f 11
  obtain ⟨w3, hw3⟩ : ∃ w3, w2.setCell ⟨w1.heap.size, 11, none⟩ (.string op) = w3 := ⟨_, rfl⟩
  have hp3 : Bk w3 w1.heap.size 55 (apr op ⟨#[]⟩) := by rw [← hw3]; exact hp2.set 11 _ rfl
  have p12 := hp3.c 12 (v := .string ⟨#[]⟩) rfl
  have f12 := hp3.f 12
  obtain ⟨w4, hw4⟩ : ∃ w4, w3.setCell ⟨w1.heap.size, 12, none⟩ (.string right) = w4 := ⟨_, rfl⟩
  have hp4 : Bk w4 w1.heap.size 55 (apr op right) := by rw [← hw4]; exact hp3.set 12 _ rfl
  have HB4 := Lib.hid (show Below w1.heap.size w1 w4 by rw [← hw4, ← hw3]; exact (HB2.out.setCell (Nat.le_refl _) _).setCell (Nat.le_refl _) _)
  have HK4 := Lib.hid (HK1.out.below HB4.out)
  have HP4 := Lib.hid hp4
  have k0 := HK4.out.c 0 (v := .int .i64 k) rfl
  have k1 := HK4.out.c 1 (v := .string raw) rfl
  have k2 := HK4.out.c 2 (v := .string str) rfl
  have k3 := HK4.out.c 3 (v := .float .f64 n) rfl
  have k4 := HK4.out.c 4 (v := .int .i64 0) rfl
  have k5 := HK4.out.c 5 (v := .slice none 0 0) rfl
  clear hp2 hp3 hp4
  cases b with
  | false =>
    go_enter Tryd.func16, Tryd.ntmps16
    go_wp2_with (first
      | (go_at_call 26; (with_reducible refine (qmNo w1.heap.size k raw str op right n _ HB.out hr hs (HP4.out.c 11 rfl) (HP4.out.c 12 rfl) ht HP4.out.lt).mono ?_); rintro en w5 ⟨rfl, hb5⟩; replace hb5 := Lib.hid hb5))
    go_ret
    exact ⟨rfl, below_of (below_of HB1.out HB4.out) hb5.out⟩
  | true =>
    obtain rfl := HOP.out rfl
    go_enter Tryd.func16, Tryd.ntmps16
    go_wp2_with (first
      | (go_at_call 26; (with_reducible refine (qmYes w1.heap.size k raw str right n _ HB.out hr hs (HP4.out.c 11 rfl) (HP4.out.c 12 rfl) ht HP4.out.lt).mono ?_); rintro en w5 ⟨rfl, hb5⟩; replace hb5 := Lib.hid hb5))
    go_ret
    exact ⟨rfl, below_of (below_of HB1.out HB4.out) hb5.out⟩
set_option maxRecDepth 100000 in
set_option maxHeartbeats 4000000 in
theorem gjMatchesW (k : Int) (raw str op right : ByteArray) (n : Nat) (ex b : Bool) (w : World) (hb : existsB k raw = b) (hr : raw.size ≤ 2147483647) (hs : right.size ≤ 2147483647) (ht : ∀ h : 0 < right.size, (right[0]'h).toNat ≠ 126) (hop : b = true → op = ⟨#[]⟩) :
    Calls Tryd.prog 9 #[.agg #[.int .i64 k, .string raw, .string str, .float .f64 n, .bool ex], .string op, .string right] w fun en w' => en = .returned (.bool b) ∧ Below w.heap.size w w' := by
  have HB := Lib.hid hb
  have HOP := Lib.hid hop
  clear hb hop
  obtain ⟨w1, hw1⟩ : ∃ w1, w.alloc (.cells #[.int .i64 k, .string raw, .string str, .float .f64 n, .bool ex] 28) = w1 := ⟨_, rfl⟩
  have HB1 := Lib.hid (show Below w.heap.size w w1 by rw [← hw1]; exact below_alloc (Below.refl _ _) _)
  have hk : Bk w1 w.heap.size 28 #[.int .i64 k, .string raw, .string str, .float .f64 n, .bool ex] := by rw [← hw1]; exact Bk.new _ _ _
  have k0 := hk.c 0 (v := .int .i64 k) rfl
  have k1 := hk.c 1 (v := .string raw) rfl
  have k2 := hk.c 2 (v := .string str) rfl
  have k3 := hk.c 3 (v := .float .f64 n) rfl
  have k4 := hk.c 4 (v := .bool ex) rfl
  clear hk
  go_enter Tryd.func9, Tryd.ntmps9
  go_wp2_with (first
    | (go_at_call 17; (with_reducible refine (gjOfW k raw str n ex _).mono ?_); rintro en w2 ⟨rfl, hb2⟩; replace hb2 := Lib.hid hb2)
    | (go_at_call 16; (with_reducible refine (doorW k raw str op right n b _ HB.out hr hs ht HOP.out).mono ?_); rintro en w3 ⟨rfl, hb3⟩; replace hb3 := Lib.hid hb3))
  go_ret
  exact ⟨rfl, below_of (below_of HB1.out hb2.out) hb3.out⟩
end Go.Proofs.YtclemmgfilkkgaaDoor.Mh
