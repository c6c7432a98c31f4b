/- Objects' insides and the ways that keys lead, in plain Lean: no program in sight. -/
import Derived.Test.YtkdkdhcjpgmjdaaGreatDoorJpEach5
import Derived.Test.YtkdkdhcjpgmjdaaGreatDoorUnqP
namespace Go.Proofs.YtkdkdhcjpgmjdaaGreatDoor.Jp
open L
set_option linter.unusedVariables false
set_option linter.unusedSimpArgs false
set_option linter.unusedSectionVars false

/-! ### bytes that a search passes over -/
def nln (x : Int) : Bool := decide (x ≠ 34) && decide (x ≠ 39) && decide (x ≠ 91) && decide (x ≠ 58) && decide (x ≠ 123) && decide (x ≠ 125)
def Nls (s : ByteArray) (i j : Nat) : Prop := ∀ k : Nat, i ≤ k → k < j → nln (bt s k) = true
theorem nls_skip {p : Int → Bool} {s : ByteArray} (hp : ∀ x, p x = true → nln x = true) (i : Nat) : Nls s i (L.skip p s i) := fun k h1 h2 => hp _ (skip_run (Nat.le_refl _) k h1 h2)
theorem nln_blank (x : Int) (h : isBlank x = true) : nln x = true := by
  simp only [isBlank, Bool.or_eq_true, beq_iff_eq] at h
  simp only [nln, Bool.and_eq_true, decide_eq_true_eq]
  omega
theorem nln_digit (x : Int) (h : isDigit x = true) : nln x = true := by
  simp only [isDigit, Bool.and_eq_true, decide_eq_true_eq] at h
  simp only [nln, Bool.and_eq_true, decide_eq_true_eq]
  omega
theorem nls_app {s : ByteArray} {i j k : Nat} (h1 : Nls s i j) (h2 : Nls s j k) : Nls s i k := fun m a b => by
  by_cases h : m < j
  · exact h1 m a h
  · exact h2 m (by omega) b
theorem nls_nil {s : ByteArray} {i j : Nat} (h : j ≤ i) : Nls s i j := fun m a b => by omega
theorem nls_one {s : ByteArray} {i : Nat} {x : Int} (hx : bt s i = x) (h : nln x = true) : Nls s i (i + 1) := fun m a b => by
  obtain rfl : m = i := by omega
  rw [hx]; exact h
theorem nls_digits {s : ByteArray} {i j : Nat} (h : digitsAt s i = some j) : Nls s i j := by
  unfold digitsAt at h
  split at h
  · injection h with h
    rw [← h]
    exact nls_skip nln_digit i
  · cases h
theorem nls_num {s : ByteArray} {i j : Nat} (h : numAt s i = some j) : Nls s i j := by
  unfold numAt at h
  simp only [Option.bind_eq_some_iff] at h
  obtain ⟨a, h1, b, h2, h3⟩ := h
  have p0 : Nls s i (if bt s i = 45 then i + 1 else i) := by
    split
    · rename_i h; exact nls_one h (by decide)
    · exact nls_nil (Nat.le_refl _)
  have p1 : Nls s (if bt s i = 45 then i + 1 else i) a := by
    generalize (if bt s i = 45 then i + 1 else i) = m at h1
    unfold numInt at h1
    split at h1
    · rename_i h
      injection h1 with h1
      rw [← h1]
      exact nls_one h (by decide)
    · exact nls_digits h1
  have p2 : Nls s a b := by
    unfold numFrac at h2
    split at h2
    · rename_i h
      exact nls_app (nls_one h (by decide)) (nls_digits h2)
    · injection h2 with h2
      exact nls_nil (by omega)
  have p3 : Nls s b j := by
    unfold numExp at h3
    split at h3
    · rename_i h
      refine nls_app (j := b + 1) ?_ (nls_app (j := numSign s (b + 1)) ?_ (nls_digits h3))
      · rcases h with h | h <;> exact nls_one h (by decide)
      · unfold numSign
        split
        · rename_i h
          rcases h with h | h <;> exact nls_one h (by decide)
        · exact nls_nil (Nat.le_refl _)
    · injection h3 with h3
      exact nls_nil (by omega)
  exact nls_app (nls_app (nls_app p0 p1) p2) p3
theorem nls_word {s t : ByteArray} {i : Nat} (h : wordAt s i t = true) (ht : ∀ k : Nat, k < t.size → nln (bt t k) = true) : Nls s i (i + t.size) := fun m a b => by
  have := word_bt h (m - i) (by omega)
  rw [show i + (m - i) = m by omega] at this
  rw [this]
  exact ht _ (by omega)
theorem nln_null : ∀ k : Nat, k < nullT.size → nln (bt nullT k) = true := by
  intro k hk
  have : nullT.size = 4 := rfl
  rcases (by omega : k = 0 ∨ k = 1 ∨ k = 2 ∨ k = 3) with rfl | rfl | rfl | rfl <;> rfl
theorem nln_true : ∀ k : Nat, k < trueT.size → nln (bt trueT k) = true := by
  intro k hk
  have : trueT.size = 4 := rfl
  rcases (by omega : k = 0 ∨ k = 1 ∨ k = 2 ∨ k = 3) with rfl | rfl | rfl | rfl <;> rfl
theorem nln_false : ∀ k : Nat, k < falseT.size → nln (bt falseT k) = true := by
  intro k hk
  have : falseT.size = 5 := rfl
  rcases (by omega : k = 0 ∨ k = 1 ∨ k = 2 ∨ k = 3 ∨ k = 4) with rfl | rfl | rfl | rfl | rfl <;> rfl


theorem nls_val {s : ByteArray} {n i j : Nat} {p : Pl} (h : valN s n i = some (j, p)) (hk : p.kind ≤ 3) : Nls s i j := by
  cases n with
  | zero => cases h
  | succ n =>
    unfold valN at h
    split at h
    · simp only [Option.map_eq_some_iff, Prod.mk.injEq] at h
      obtain ⟨a, h1, rfl, rfl⟩ := h
      exact absurd hk (by simp [Pl.kind])
    · split at h
      · simp only [Option.map_eq_some_iff, Prod.mk.injEq] at h
        obtain ⟨a, h1, rfl, rfl⟩ := h
        exact absurd hk (by simp [Pl.kind])
      · split at h
        · simp only [Option.map_eq_some_iff, Prod.mk.injEq] at h
          obtain ⟨a, h1, rfl, rfl⟩ := h
          exact absurd hk (by simp [Pl.kind])
        · split at h
          · simp only [Option.map_eq_some_iff, Prod.mk.injEq] at h
            obtain ⟨a, h1, rfl, rfl⟩ := h
            exact nls_num h1
          · split at h
            · rename_i hw
              simp only [Option.some.injEq, Prod.mk.injEq] at h
              obtain ⟨rfl, rfl⟩ := h
              exact nls_word hw nln_null
            · split at h
              · rename_i hw
                simp only [Option.some.injEq, Prod.mk.injEq] at h
                obtain ⟨rfl, rfl⟩ := h
                exact nls_word hw nln_false
              · split at h
                · rename_i hw
                  simp only [Option.some.injEq, Prod.mk.injEq] at h
                  obtain ⟨rfl, rfl⟩ := h
                  exact nls_word hw nln_true
                · cases h

/-! ### an object's inside -/
/-- A member from off on: its name's place, its value. -/
def Memb (s : ByteArray) (n off : Nat) (x : Nat × Nat) (q : Pl) : Prop :=
  off ≤ s.size ∧ L.skip isBlank s off = x.1 ∧ bt s x.1 = 34 ∧ strAt s x.1 = some x.2 ∧ x.1 + 1 < x.2 ∧ x.2 ≤ s.size ∧ bt s (L.skip isBlank s x.2) = 58 ∧ Rdv s n (L.skip isBlank s x.2 + 1) q
/-- Members from off on; the object ends at E. -/
def MChain (s : ByteArray) (n E : Nat) : Nat → List (Nat × Nat) → List Pl → Prop
  | off, [x], [q] => Memb s n off x q ∧ bt s (L.skip isBlank s q.e) = 125 ∧ L.skip isBlank s q.e + 1 = E
  | off, x :: y :: ns, q :: r :: qs => Memb s n off x q ∧ bt s (L.skip isBlank s q.e) = 44 ∧ MChain s n E (L.skip isBlank s q.e + 1) (y :: ns) (r :: qs)
  | _, _, _ => False
theorem MChain.cons {s : ByteArray} {n E off : Nat} {ns : List (Nat × Nat)} {qs : List Pl} (h : MChain s n E off ns qs) : ∃ x ns' q qs', ns = x :: ns' ∧ qs = q :: qs' ∧ Memb s n off x q := by
  match ns, qs, h with
  | [x], [q], h => exact ⟨x, [], q, [], rfl, rfl, h.1⟩
  | x :: y :: ns, q :: r :: qs, h => exact ⟨x, y :: ns, q, r :: qs, rfl, rfl, h.1⟩
theorem mchain_of {s : ByteArray} {n : Nat} : ∀ {k off : Nat} {ns : List (Nat × Nat)} {ks : List Pl} {j : Nat} {r : List (Nat × Nat) × List Pl}, off ≤ s.size → membsN (valN s n) s k (L.skip isBlank s off) ns ks = some (j, r) → ∃ ns' ks', r = (ns ++ ns', ks ++ ks') ∧ MChain s n j off ns' ks'
  | 0, _, _, _, _, _, _, h => by cases h
  | k + 1, off, ns, ks, j, r, hi, h => by
    have hsk := skip_top isBlank s hi
    unfold membsN at h
    split at h
    · rename_i h34
      split at h
      · cases h
      · rename_i m hm
        have h1 := strAt_step hm
        have h3 := skip_top isBlank s h1.2
        split at h
        · rename_i h58
          have h4 := lt_of_bt (s := s) (i := L.skip isBlank s m) (by omega)
          have h6 := skip_top isBlank s (i := L.skip isBlank s m + 1) (by omega)
          split at h
          · cases h
          · rename_i l p hl
            obtain ⟨hr, rfl⟩ := rdv_of (off := L.skip isBlank s m + 1) (by omega) h6 hl
            have hmb : Memb s n off (L.skip isBlank s off, m) p := ⟨hi, rfl, h34, hm, h1.1, h1.2, h58, hr⟩
            have g3 := skip_top isBlank s hr.2.2.2.2.1
            split at h
            · rename_i hc
              simp only [Option.some.injEq, Prod.mk.injEq] at h
              obtain ⟨rfl, rfl⟩ := h
              exact ⟨[_], [_], rfl, hmb, hc, rfl⟩
            · split at h
              · rename_i hc
                have g4 := lt_of_bt (s := s) (i := L.skip isBlank s p.e) (by omega)
                obtain ⟨ns', ks', rfl, hq⟩ := mchain_of (off := L.skip isBlank s p.e + 1) (by omega) h
                obtain ⟨y, ns2, q, qs2, rfl, rfl, -⟩ := hq.cons
                exact ⟨_ :: y :: ns2, p :: q :: qs2, by simp, hmb, hc, hq⟩
              · cases h
        · cases h
    · cases h
/-- An object's inside. -/
theorem obj_in {s : ByteArray} {n i j : Nat} {p : Pl} (h : valN s (n + 1) i = some (j, p)) (hk : p.kind = 6) :
    bt s i = 123 ∧ i < s.size ∧ ((p.names = [] ∧ p.kids = []) ∨ MChain s n j (i + 1) p.names p.kids) := by
  unfold valN at h
  split at h
  · rename_i hb
    have h0 := lt_of_bt (s := s) (i := i) (by omega)
    simp only [Option.map_eq_some_iff, Prod.mk.injEq] at h
    obtain ⟨⟨a, b⟩, h1, rfl, rfl⟩ := h
    refine ⟨hb, h0, ?_⟩
    unfold membsAt at h1
    split at h1
    · simp only [Option.some.injEq, Prod.mk.injEq] at h1
      obtain ⟨rfl, rfl⟩ := h1
      exact .inl ⟨rfl, rfl⟩
    · obtain ⟨ns', ks', rfl, hq⟩ := mchain_of (off := i + 1) (by omega) h1
      exact .inr hq
  · split at h
    · simp only [Option.map_eq_some_iff, Prod.mk.injEq] at h
      obtain ⟨a, h1, rfl, rfl⟩ := h
      cases hk
    · split at h
      · simp only [Option.map_eq_some_iff, Prod.mk.injEq] at h
        obtain ⟨a, h1, rfl, rfl⟩ := h
        cases hk
      · split at h
        · simp only [Option.map_eq_some_iff, Prod.mk.injEq] at h
          obtain ⟨a, h1, rfl, rfl⟩ := h
          cases hk
        · split at h
          · simp only [Option.some.injEq, Prod.mk.injEq] at h
            obtain ⟨rfl, rfl⟩ := h
            cases hk
          · split at h
            · simp only [Option.some.injEq, Prod.mk.injEq] at h
              obtain ⟨rfl, rfl⟩ := h
              cases hk
            · split at h
              · simp only [Option.some.injEq, Prod.mk.injEq] at h
                obtain ⟨rfl, rfl⟩ := h
                cases hk
              · cases h
/-- Where the members stand. -/
theorem Memb.pos {s : ByteArray} {n off : Nat} {x : Nat × Nat} {q : Pl} (h : Memb s n off x q) : off ≤ x.1 ∧ x.1 + 1 < x.2 ∧ x.2 ≤ L.skip isBlank s x.2 ∧ L.skip isBlank s x.2 + 1 ≤ q.b ∧ q.b < q.e ∧ q.e ≤ s.size := by
  obtain ⟨h1, h2, h3, h4, h5, h6, h7, h8⟩ := h
  have a1 := skip_le isBlank s off
  have a2 := skip_le isBlank s x.2
  have a3 := skip_le isBlank s (L.skip isBlank s x.2 + 1)
  obtain ⟨b1, b2, b3, b4, b5, b6, b7⟩ := h8
  omega
theorem MChain.end_ {s : ByteArray} {n E : Nat} : ∀ {off : Nat} {ns : List (Nat × Nat)} {qs : List Pl}, MChain s n E off ns qs → off < E ∧ (∀ q qs', qs = q :: qs' → L.skip isBlank s q.e < E) ∧ E ≤ s.size
  | off, [x], [q], h => by
    have hp := h.1.pos
    have h3 := h.2.2
    have h4 := skip_le isBlank s q.e
    have h5 := lt_of_bt (s := s) (i := L.skip isBlank s q.e) (by have := h.2.1; omega)
    exact ⟨by omega, fun q' qs' e => by simp only [List.cons.injEq] at e; obtain ⟨rfl, -⟩ := e; omega, by omega⟩
  | off, x :: y :: ns, q :: r :: qs, h => by
    have hp := h.1.pos
    have h4 := skip_le isBlank s q.e
    have ih := MChain.end_ h.2.2
    exact ⟨by omega, fun q' qs' e => by simp only [List.cons.injEq] at e; obtain ⟨rfl, -⟩ := e; omega, ih.2.2⟩
  | off, [], _, h => by cases h
  | off, [x], [], h => by cases h
  | off, [x], _ :: _ :: _, h => by cases h
  | off, _ :: _ :: _, [], h => by cases h
  | off, _ :: _ :: _, [q], h => by cases h

/-! ### the way that keys lead -/
/-- A name's characters. -/
def nameOf (s : ByteArray) (x : Nat × Nat) : ByteArray := strOfNums (unq (s.extract (x.1 + 1) (x.2 - 1)) 0)
/-- The number that bytes 1 to n write. -/
def idxN (k : ByteArray) : Nat → Option Nat
  | 0 => some 0
  | n + 1 => if isDigit (bt k (n + 1 : Nat)) = true then (idxN k n).map fun m => m * 10 + (bt k (n + 1 : Nat) - 48).toNat else none
/-- The index of a key "[n]", n without a needless zero. -/
def brk (k : ByteArray) : Option Nat :=
  if 3 ≤ k.size ∧ bt k 0 = 91 ∧ bt k (k.size - 1 : Nat) = 93 ∧ (k.size = 3 ∨ bt k 1 ≠ 48) then idxN k (k.size - 2) else none
/-- A key that begins as an index does. -/
def isIdx (k : ByteArray) : Bool := decide (bt k 0 = 91)
inductive Leads (s : ByteArray) : Pl → List ByteArray → Pl → Prop
  | nil (p : Pl) : Leads s p [] p
  | obj {p q r : Pl} {key : ByteArray} {ks : List ByteArray} {i : Nat} {x : Nat × Nat} (hk : p.kind = 6) (hb : isIdx key = false) (hx : p.names[i]? = some x) (hn : nameOf s x = key)
      (hu : ∀ j y, p.names[j]? = some y → nameOf s y = key → j = i) (hq : p.kids[i]? = some q) (h : Leads s q ks r) : Leads s p (key :: ks) r
  | arr {p q r : Pl} {key : ByteArray} {ks : List ByteArray} {i : Nat} (hk : p.kind = 5) (hi : brk key = some i) (hq : p.kids[i]? = some q) (h : Leads s q ks r) : Leads s p (key :: ks) r

/-! ### where a search stands -/
/-- From c on: level, number of keys found, whether the last name was sought; all of it ahead of W. -/
inductive Core (s : ByteArray) (W : Nat) (ks : List ByteArray) (r : Pl) : Nat → Nat → Bool → Nat → Prop
  | path {l n off : Nat} {p : Pl} (hlt : l < ks.length) (hr : Rdv s n off p) (hW : p.e ≤ W) (hl : Leads s p (ks.drop l) r) : Core s W ks r l l true p.b
  | name {l n E off i : Nat} {ns : List (Nat × Nat)} {qs : List Pl} {q : Pl} {x : Nat × Nat} {key : ByteArray} {lm : Bool} (hkey : ks[l]? = some key) (hm : MChain s n E off ns qs) (hW : E ≤ W) (hx : ns[i]? = some x) (hn : nameOf s x = key)
      (hu : ∀ j y, j < i → ns[j]? = some y → nameOf s y ≠ key) (hq : qs[i]? = some q) (hl : Leads s q (ks.drop (l + 1)) r) : Core s W ks r (l + 1) l lm (L.skip isBlank s off)
  | val {l n off : Nat} {q0 : Pl} {lm : Bool} (hr : Rdv s n off q0) (hk : 4 ≤ q0.kind) (hc : bt s (L.skip isBlank s q0.e) = 44) (h : Core s W ks r (l + 1) l false (L.skip isBlank s (L.skip isBlank s q0.e + 1))) : Core s W ks r (l + 1) l false q0.b
end Go.Proofs.YtkdkdhcjpgmjdaaGreatDoor.Jp
