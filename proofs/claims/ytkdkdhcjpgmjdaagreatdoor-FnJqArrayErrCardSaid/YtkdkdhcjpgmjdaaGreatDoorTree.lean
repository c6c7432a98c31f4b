/- Trees of places in memory. -/
import Derived.Test.YtkdkdhcjpgmjdaaGreatDoorReader2
namespace Go.Proofs.YtkdkdhcjpgmjdaaGreatDoor.L
open Go.RowKit
set_option linter.unusedVariables false
set_option linter.unusedSimpArgs false

/-- The blocks of B are as they were. -/
structure Keeps (B : Nat → Prop) (w w' : World) : Prop where
  size : w.heap.size ≤ w'.heap.size
  block : ∀ j, B j → j < w.heap.size → w'.heap[j]? = w.heap[j]?
abbrev From (b : Nat) : Nat → Prop := fun j => b ≤ j
theorem Keeps.refl (B : Nat → Prop) (w : World) : Keeps B w w := ⟨Nat.le_refl _, fun _ _ _ => rfl⟩
theorem Keeps.trans {B : Nat → Prop} {u v w : World} (h : Keeps B u v) (k : Keeps B v w) : Keeps B u w :=
  ⟨Nat.le_trans h.size k.size, fun j hj hl => (k.block j hj (Nat.lt_of_lt_of_le hl h.size)).trans (h.block j hj hl)⟩
theorem Keeps.of_grown {B : Nat → Prop} {row : Option Nat} {w w' : World} (h : w.grownBy w' row) (hg : ∀ j, B j → some j ≠ row) : Keeps B w w' :=
  ⟨h.size, fun j hj hl => h.block j hl (hg j hj)⟩
theorem Keeps.of_below {B : Nat → Prop} {w w' : World} (h : Below w.heap.size w w') : Keeps B w w' := ⟨h.size, fun j _ hl => h.block j hl⟩
theorem Keeps.alloc (B : Nat → Prop) (w : World) (o : Obj) : Keeps B w (w.alloc o) := .of_below (below_alloc (Below.refl _ _) o)
theorem Keeps.drewN (B : Nat → Prop) (w : World) (n : Nat) : Keeps B w (w.drewN n) := ⟨Nat.le_refl _, fun _ _ _ => rfl⟩

/-- A slice's address and length; its cells: all in blocks of B. -/
def Row (w : World) (B : Nat → Prop) (size : Nat) (A : Option Addr) (n c : Nat) (xs : List Value) : Prop :=
  xs.length = n * size ∧ n ≤ c ∧ c ≤ maxLen ∧ (0 < n → ∃ ad, A = some ad ∧ B ad.block ∧ ad.block < w.heap.size ∧ ∀ j u, xs[j]? = some u → w.cell? (ad.add j) = some u)
theorem Row.keep {w w' : World} {B : Nat → Prop} {size : Nat} {A : Option Addr} {n c : Nat} {xs : List Value} (h : Row w B size A n c xs) (hk : Keeps B w w') : Row w' B size A n c xs :=
  ⟨h.1, h.2.1, h.2.2.1, fun hn => by
    obtain ⟨ad, rfl, hl, hlt, hc⟩ := h.2.2.2 hn
    exact ⟨ad, rfl, hl, Nat.lt_of_lt_of_le hlt hk.size, fun j u hu => (World.cell?_of_block (by rw [add_block]; exact hk.block _ hl hlt)).trans (hc j u hu)⟩⟩
theorem Row.mono {w : World} {B B' : Nat → Prop} {size : Nat} {A : Option Addr} {n c : Nat} {xs : List Value} (h : Row w B size A n c xs) (hb : ∀ j, j < w.heap.size → B j → B' j) : Row w B' size A n c xs :=
  ⟨h.1, h.2.1, h.2.2.1, fun hn => by
    obtain ⟨ad, rfl, hl, hlt, hc⟩ := h.2.2.2 hn
    exact ⟨ad, rfl, hb _ hlt hl, hlt, hc⟩⟩
theorem Row.nil (w : World) (B : Nat → Prop) (size : Nat) : Row w B size none 0 0 [] := ⟨by simp, by omega, by decide, fun h => absurd h (by omega)⟩
theorem Row.of_own {w : World} {base e size n : Nat} {v : Value} {xs : List Value} (h : w.ownsRow base e size v n xs) : ∃ A c, v = .slice A n c ∧ Row w (From base) size A n c xs := by
  rcases h.2 with ⟨rfl, rfl⟩ | ⟨g, cap, cur, rfl, hb, hg, hn, hm, hs, ht⟩
  · exact ⟨none, 0, rfl, h.1, by omega, by decide, fun h => absurd h (by omega)⟩
  · refine ⟨_, cap, rfl, h.1, hn, hm, fun _ => ⟨_, rfl, hb, (Array.getElem?_eq_some_iff.1 hg).1, fun j u hu => h.cells (g := g) rfl j u hu⟩⟩

def spv (ns : List (Nat × Nat)) : List Value := ns.flatMap fun x => [.int .i64 (x.1 : Int), .int .i64 (x.2 : Int)]
theorem spv_append (a b : List (Nat × Nat)) : spv (a ++ b) = spv a ++ spv b := by simp [spv]

mutual
/-- The five cells of a place. -/
def PlC (w : World) (B : Nat → Prop) : Pl → List Value → Prop
  | .mk k b e ns ks, cs => ∃ An cn Ak ck xs, cs = [.int .i64 (k : Int), .int .i64 (b : Int), .int .i64 (e : Int), .slice An ns.length cn, .slice Ak ks.length ck] ∧
      Row w B 2 An ns.length cn (spv ns) ∧ Row w B 5 Ak ks.length ck xs ∧ PlsC w B ks xs
/-- The cells of a list of places, five each. -/
def PlsC (w : World) (B : Nat → Prop) : List Pl → List Value → Prop
  | [], xs => xs = []
  | p :: ps, xs => ∃ cs r, xs = cs ++ r ∧ cs.length = 5 ∧ PlC w B p cs ∧ PlsC w B ps r
end
theorem PlC.len {w : World} {B : Nat → Prop} {p : Pl} {cs : List Value} (h : PlC w B p cs) : cs.length = 5 := by
  cases p
  simp only [PlC] at h
  obtain ⟨An, cn, Ak, ck, xs, rfl, _⟩ := h
  rfl
theorem PlsC.snoc {w : World} {B : Nat → Prop} {p : Pl} {cs : List Value} (hp : PlC w B p cs) : ∀ {ps : List Pl} {xs : List Value}, PlsC w B ps xs → PlsC w B (ps ++ [p]) (xs ++ cs)
  | [], xs, h => by
    simp only [PlsC] at h
    subst h
    simp only [List.nil_append, PlsC]
    exact ⟨cs, [], by simp, hp.len, hp, rfl⟩
  | q :: qs, xs, h => by
    simp only [PlsC, List.cons_append] at h ⊢
    obtain ⟨c1, r, rfl, hl, hq, hr⟩ := h
    exact ⟨c1, r ++ cs, by simp, hl, hq, PlsC.snoc hp hr⟩
theorem PlsC.length {w : World} {B : Nat → Prop} : ∀ {ps : List Pl} {xs : List Value}, PlsC w B ps xs → xs.length = ps.length * 5
  | [], xs, h => by simp only [PlsC] at h; subst h; rfl
  | p :: ps, xs, h => by
    simp only [PlsC] at h
    obtain ⟨cs, r, rfl, hl, _, hr⟩ := h
    have := PlsC.length hr
    simp only [List.length_append, List.length_cons]
    omega
mutual
theorem PlC.keep {w w' : World} {B : Nat → Prop} (hk : Keeps B w w') : ∀ {p : Pl} {cs : List Value}, PlC w B p cs → PlC w' B p cs
  | .mk k b' e ns ks, cs, h => by
    simp only [PlC] at h ⊢
    obtain ⟨An, cn, Ak, ck, xs, rfl, h1, h2, h3⟩ := h
    exact ⟨An, cn, Ak, ck, xs, rfl, h1.keep hk, h2.keep hk, PlsC.keep hk h3⟩
theorem PlsC.keep {w w' : World} {B : Nat → Prop} (hk : Keeps B w w') : ∀ {ps : List Pl} {xs : List Value}, PlsC w B ps xs → PlsC w' B ps xs
  | [], xs, h => by simp only [PlsC] at h ⊢; exact h
  | p :: ps, xs, h => by
    simp only [PlsC] at h ⊢
    obtain ⟨cs, r, rfl, hl, hp, hr⟩ := h
    exact ⟨cs, r, rfl, hl, PlC.keep hk hp, PlsC.keep hk hr⟩
end
mutual
theorem PlC.mono {w : World} {B B' : Nat → Prop} (hb : ∀ j, j < w.heap.size → B j → B' j) : ∀ {p : Pl} {cs : List Value}, PlC w B p cs → PlC w B' p cs
  | .mk k b' e ns ks, cs, h => by
    simp only [PlC] at h ⊢
    obtain ⟨An, cn, Ak, ck, xs, rfl, h1, h2, h3⟩ := h
    exact ⟨An, cn, Ak, ck, xs, rfl, h1.mono hb, h2.mono hb, PlsC.mono hb h3⟩
theorem PlsC.mono {w : World} {B B' : Nat → Prop} (hb : ∀ j, j < w.heap.size → B j → B' j) : ∀ {ps : List Pl} {xs : List Value}, PlsC w B ps xs → PlsC w B' ps xs
  | [], xs, h => by simp only [PlsC] at h ⊢; exact h
  | p :: ps, xs, h => by
    simp only [PlsC] at h ⊢
    obtain ⟨cs, r, rfl, hl, hp, hr⟩ := h
    exact ⟨cs, r, rfl, hl, PlC.mono hb hp, PlsC.mono hb hr⟩
end
end Go.Proofs.YtkdkdhcjpgmjdaaGreatDoor.L
