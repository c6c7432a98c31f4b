/- Rows in memory, rows of texts. -/
import Derived.Test.YtfcnjelhhhncoaaApp
import Derived.Test.YtfcnjelhhhncoaaOwn
import Derived.Deep.AppendLies
import Derived.Deep.DeepCutAuto
import Derived.Deep.CutBlock
import Derived.Deep.RegionWith
import Derived.Deep.RegionLaw
import Derived.Deep.LoopGhost
import Derived.Deep.Light
import Derived.Lib.Hide
namespace Go.Proofs.Ytfcnjelhhhncoaa.L
open Go.RowKit
set_option linter.unusedVariables false
set_option linter.unusedSimpArgs false

/-- The blocks of B are as they were. -/
structure Keeps (B : Nat → Prop) (w w' : World) : Prop where
  size : w.heap.size ≤ w'.heap.size
  block : ∀ j, B j → j < w.heap.size → w'.heap[j]? = w.heap[j]?
abbrev From (b : Nat) : Nat → Prop := fun j => b ≤ j
theorem Keeps.refl (B : Nat → Prop) (w : World) : Keeps B w w := ⟨Nat.le_refl _, fun _ _ _ => rfl⟩
theorem Keeps.trans {B : Nat → Prop} {u v w : World} (h : Keeps B u v) (k : Keeps B v w) : Keeps B u w :=
  ⟨Nat.le_trans h.size k.size, fun j hj hl => (k.block j hj (Nat.lt_of_lt_of_le hl h.size)).trans (h.block j hj hl)⟩
theorem Keeps.of_grown {B : Nat → Prop} {row : Option Nat} {w w' : World} (h : w.grownBy w' row) (hg : ∀ j, B j → some j ≠ row) : Keeps B w w' :=
  ⟨h.size, fun j hj hl => h.block j hl (hg j hj)⟩
theorem Keeps.of_below {B : Nat → Prop} {w w' : World} (h : Below w.heap.size w w') : Keeps B w w' := ⟨h.size, fun j _ hl => h.block j hl⟩
theorem Keeps.alloc (B : Nat → Prop) (w : World) (o : Obj) : Keeps B w (w.alloc o) := .of_below (below_alloc (Below.refl _ _) o)
theorem Keeps.drewN (B : Nat → Prop) (w : World) (n : Nat) : Keeps B w (w.drewN n) := ⟨Nat.le_refl _, fun _ _ _ => rfl⟩

/-- A slice's address and length; its cells: all in blocks of B. -/
def Row (w : World) (B : Nat → Prop) (size : Nat) (A : Option Addr) (n c : Nat) (xs : List Value) : Prop :=
  xs.length = n * size ∧ n ≤ c ∧ c ≤ maxLen ∧ (0 < n → ∃ ad, A = some ad ∧ B ad.block ∧ ad.block < w.heap.size ∧ ∀ j u, xs[j]? = some u → w.cell? (ad.add j) = some u)
theorem Row.keep {w w' : World} {B : Nat → Prop} {size : Nat} {A : Option Addr} {n c : Nat} {xs : List Value} (h : Row w B size A n c xs) (hk : Keeps B w w') : Row w' B size A n c xs :=
  ⟨h.1, h.2.1, h.2.2.1, fun hn => by
    obtain ⟨ad, rfl, hl, hlt, hc⟩ := h.2.2.2 hn
    exact ⟨ad, rfl, hl, Nat.lt_of_lt_of_le hlt hk.size, fun j u hu => (World.cell?_of_block (by rw [add_block]; exact hk.block _ hl hlt)).trans (hc j u hu)⟩⟩
theorem Row.mono {w : World} {B B' : Nat → Prop} {size : Nat} {A : Option Addr} {n c : Nat} {xs : List Value} (h : Row w B size A n c xs) (hb : ∀ j, j < w.heap.size → B j → B' j) : Row w B' size A n c xs :=
  ⟨h.1, h.2.1, h.2.2.1, fun hn => by
    obtain ⟨ad, rfl, hl, hlt, hc⟩ := h.2.2.2 hn
    exact ⟨ad, rfl, hb _ hlt hl, hlt, hc⟩⟩
theorem Row.nil (w : World) (B : Nat → Prop) (size : Nat) : Row w B size none 0 0 [] := ⟨by simp, by omega, by decide, fun h => absurd h (by omega)⟩
theorem Row.of_own {w : World} {base e size n : Nat} {v : Value} {xs : List Value} (h : w.ownsRow base e size v n xs) : ∃ A c, v = .slice A n c ∧ Row w (From base) size A n c xs := by
  rcases h.2 with ⟨rfl, rfl⟩ | ⟨g, cap, cur, rfl, hb, hg, hn, hm, hs, ht⟩
  · exact ⟨none, 0, rfl, h.1, by omega, by decide, fun h => absurd h (by omega)⟩
  · refine ⟨_, cap, rfl, h.1, hn, hm, fun _ => ⟨_, rfl, hb, (Array.getElem?_eq_some_iff.1 hg).1, fun j u hu => h.cells (g := g) rfl j u hu⟩⟩
/-- A row of texts. -/
abbrev keysV (ks : List ByteArray) : List Value := ks.map Value.string
theorem keyAt {w : World} {B : Nat → Prop} {A : Option Addr} {n c k : Nat} {ks : List ByteArray} {x : ByteArray} (hR : Row w B 1 A n c (keysV ks)) (hk : ks[k]? = some x) :
    ∃ ad, A = some ad ∧ ad.block < w.heap.size ∧ w.cell? (ad.add k) = some (.string x) := by
  have hn := hR.1
  simp only [keysV, List.length_map, Nat.mul_one] at hn
  have hkl : k < ks.length := (List.getElem?_eq_some_iff.1 hk).1
  obtain ⟨ad, rfl, hB, hlt, hc⟩ := hR.2.2.2 (by omega)
  exact ⟨ad, rfl, hlt, hc k _ (by simp [keysV, hk])⟩
theorem keys_len {w : World} {B : Nat → Prop} {A : Option Addr} {n c : Nat} {ks : List ByteArray} (hR : Row w B 1 A n c (keysV ks)) : n = ks.length ∧ n ≤ 9223372036854775807 := by
  have hn := hR.1
  have h2 := hR.2.1
  have h3 := hR.2.2.1
  simp only [keysV, List.length_map, Nat.mul_one] at hn
  simp only [maxLen] at h3
  omega
theorem grown_of_below {a w : World} (h : Below a.heap.size a w) (row : Option Nat) : a.grownBy w row := ⟨h.os, h.tape, h.output, h.size, fun i hi _ => h.block i hi⟩
theorem below_grown {w wx wy : World} {row : Option Nat} (h : Below w.heap.size w wx) (hg : wx.grownBy wy row) (hr : ∀ l, row = some l → w.heap.size ≤ l) : Below w.heap.size w wy :=
  ⟨hg.os.trans h.os, hg.tape.trans h.tape, hg.output.trans h.output, Nat.le_trans h.size hg.size, fun j hj => (hg.block j (Nat.lt_of_lt_of_le hj h.size) (fun e => by have := hr j e.symm; omega)).trans (h.block j hj)⟩

theorem below_of {w w1 w2 : World} (h : Below w.heap.size w w1) (k : Below w1.heap.size w1 w2) : Below w.heap.size w w2 := below_step h k
theorem below_drew_one {w w' : World} (h : Below w.drew.heap.size w.drew w') : Below w.heap.size w w' := ⟨h.os, h.tape, h.output, h.size, h.block⟩
theorem row_news {w : World} {B : Nat → Prop} {ad : Addr} {n c : Nat} {xs : List Value} (h : Row w B 1 (some ad) n c xs) : ∀ j u, xs[j]? = some u → w.cell? (ad.add j) = some u := fun j u hu => by
  by_cases hn : 0 < n
  · obtain ⟨ad', e, -, -, hc⟩ := h.2.2.2 hn
    injection e with e
    subst e
    exact hc j u hu
  · have : xs = [] := List.eq_nil_of_length_eq_zero (by rw [h.1]; omega)
    subst this
    cases hu
/-- Rows of texts, their cells: a slice each. -/
def KsO (w : World) (B : Nat → Prop) (ps : List (List ByteArray)) (xs : List Value) : Prop :=
  xs.length = ps.length ∧ ∀ (i : Nat) (k : List ByteArray), ps[i]? = some k → ∃ A c, xs[i]? = some (.slice A k.length c) ∧ Row w B 1 A k.length c (keysV k)
theorem KsO.keep {w w' : World} {B : Nat → Prop} {ps : List (List ByteArray)} {xs : List Value} (h : KsO w B ps xs) (hk : Keeps B w w') : KsO w' B ps xs := ⟨h.1, fun i k hi => by
  obtain ⟨ad, c, h1, h2⟩ := h.2 i k hi
  exact ⟨ad, c, h1, h2.keep hk⟩⟩
/-- Row k of the rows of texts. -/
theorem ksAtO {w : World} {B : Nat → Prop} {A : Option Addr} {n c k : Nat} {ps : List (List ByteArray)} {xs : List Value} {x : List ByteArray} (hR : Row w B 1 A n c xs) (hC : KsO w B ps xs) (hk : ps[k]? = some x) :
    ∃ ad Ak ck, A = some ad ∧ ad.block < w.heap.size ∧ w.cell? (ad.add k) = some (.slice Ak x.length ck) ∧ Row w B 1 Ak x.length ck (keysV x) := by
  have hn := hR.1
  have hx := hC.1
  have hkl : k < ps.length := (List.getElem?_eq_some_iff.1 hk).1
  obtain ⟨ad, rfl, hB, hlt, hc⟩ := hR.2.2.2 (by omega)
  obtain ⟨Ak, ck, h1, h2⟩ := hC.2 k x hk
  exact ⟨ad, Ak, ck, rfl, hlt, hc k _ h1, h2⟩
theorem info_str : (Try.prog.info? 9).map (fun i => (i.zero, i.size, i.bytes)) = some (some (.string ⟨#[]⟩), 1, 16) := by kernel_rfl
end Go.Proofs.Ytfcnjelhhhncoaa.L
