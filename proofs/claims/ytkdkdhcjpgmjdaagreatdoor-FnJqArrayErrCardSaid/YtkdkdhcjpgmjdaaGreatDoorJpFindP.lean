/- What the reference says of the ways that keys lead, in plain Lean: no program in sight. -/
import Derived.Test.YtkdkdhcjpgmjdaaGreatDoorJpKeyP
import Derived.Test.YtkdkdhcjpgmjdaaGreatDoorUnqV
namespace Go.Proofs.YtkdkdhcjpgmjdaaGreatDoor.Jp
open L
set_option linter.unusedVariables false
set_option linter.unusedSimpArgs false
set_option linter.unusedSectionVars false

/-! ### values that are read -/
def IsVal (s : ByteArray) (p : Pl) : Prop := ∃ n off, Rdv s n off p
theorem echain_val {s : ByteArray} {n E : Nat} : ∀ {qs : List Pl} {off : Nat}, EChain s n E off qs → ∀ q ∈ qs, IsVal s q
  | [q], off, h, q', hq => by
    simp only [List.mem_singleton] at hq
    subst hq
    exact ⟨n, off, h.1⟩
  | q :: r :: qs, off, h, q', hq => by
    rcases List.mem_cons.1 hq with rfl | hq
    · exact ⟨n, off, h.1⟩
    · exact echain_val h.2.2 q' hq
theorem mchain_val {s : ByteArray} {n E : Nat} : ∀ {off : Nat} {ns : List (Nat × Nat)} {qs : List Pl}, MChain s n E off ns qs → ns.length = qs.length ∧ (∀ q ∈ qs, IsVal s q) ∧ ∀ x ∈ ns, x.1 + 1 < x.2 ∧ x.2 ≤ s.size ∧ strAt s x.1 = some x.2
  | off, [x], [q], h => by
    have hm := h.1
    refine ⟨rfl, fun q' hq => ?_, fun x' hx => ?_⟩
    · simp only [List.mem_singleton] at hq; subst hq; exact ⟨_, _, hm.2.2.2.2.2.2.2⟩
    · simp only [List.mem_singleton] at hx; subst hx; exact ⟨hm.2.2.2.2.1, hm.2.2.2.2.2.1, hm.2.2.2.1⟩
  | off, x :: y :: ns, q :: r :: qs, h => by
    have hm := h.1
    obtain ⟨h1, h2, h3⟩ := mchain_val h.2.2
    refine ⟨by simp only [List.length_cons] at h1 ⊢; omega, fun q' hq => ?_, fun x' hx => ?_⟩
    · rcases List.mem_cons.1 hq with rfl | hq
      · exact ⟨_, _, hm.2.2.2.2.2.2.2⟩
      · exact h2 q' hq
    · rcases List.mem_cons.1 hx with rfl | hx
      · exact ⟨hm.2.2.2.2.1, hm.2.2.2.2.2.1, hm.2.2.2.1⟩
      · exact h3 x' hx
  | off, [], _, h => by cases h
  | off, [x], [], h => by cases h
  | off, [x], _ :: _ :: _, h => by cases h
  | off, _ :: _ :: _, [], h => by cases h
  | off, _ :: _ :: _, [q], h => by cases h
theorem leaf_val {s : ByteArray} {n i j : Nat} {p : Pl} (h : valN s (n + 1) i = some (j, p)) (h6 : p.kind ≠ 6) (h5 : p.kind ≠ 5) : p.names = [] ∧ p.kids = [] := by
  unfold valN at h
  split at h
  · simp only [Option.map_eq_some_iff, Prod.mk.injEq] at h
    obtain ⟨a, h1, rfl, rfl⟩ := h
    exact absurd rfl h6
  · split at h
    · simp only [Option.map_eq_some_iff, Prod.mk.injEq] at h
      obtain ⟨a, h1, rfl, rfl⟩ := h
      exact absurd rfl h5
    · split at h
      · simp only [Option.map_eq_some_iff, Prod.mk.injEq] at h
        obtain ⟨a, h1, rfl, rfl⟩ := h
        exact ⟨rfl, rfl⟩
      · split at h
        · simp only [Option.map_eq_some_iff, Prod.mk.injEq] at h
          obtain ⟨a, h1, rfl, rfl⟩ := h
          exact ⟨rfl, rfl⟩
        · split at h
          · simp only [Option.some.injEq, Prod.mk.injEq] at h
            obtain ⟨rfl, rfl⟩ := h
            exact ⟨rfl, rfl⟩
          · split at h
            · simp only [Option.some.injEq, Prod.mk.injEq] at h
              obtain ⟨rfl, rfl⟩ := h
              exact ⟨rfl, rfl⟩
            · split at h
              · simp only [Option.some.injEq, Prod.mk.injEq] at h
                obtain ⟨rfl, rfl⟩ := h
                exact ⟨rfl, rfl⟩
              · cases h
theorem arr_names {s : ByteArray} {n i j : Nat} {p : Pl} (h : valN s (n + 1) i = some (j, p)) (hk : p.kind = 5) : p.names = [] := by
  unfold valN at h
  split at h
  · simp only [Option.map_eq_some_iff, Prod.mk.injEq] at h
    obtain ⟨a, h1, rfl, rfl⟩ := h
    cases hk
  · split at h
    · simp only [Option.map_eq_some_iff, Prod.mk.injEq] at h
      obtain ⟨a, h1, rfl, rfl⟩ := h
      rfl
    · split at h
      · simp only [Option.map_eq_some_iff, Prod.mk.injEq] at h
        obtain ⟨a, h1, rfl, rfl⟩ := h
        cases hk
      · split at h
        · simp only [Option.map_eq_some_iff, Prod.mk.injEq] at h
          obtain ⟨a, h1, rfl, rfl⟩ := h
          cases hk
        · split at h
          · simp only [Option.some.injEq, Prod.mk.injEq] at h
            obtain ⟨rfl, rfl⟩ := h
            cases hk
          · split at h
            · simp only [Option.some.injEq, Prod.mk.injEq] at h
              obtain ⟨rfl, rfl⟩ := h
              cases hk
            · split at h
              · simp only [Option.some.injEq, Prod.mk.injEq] at h
                obtain ⟨rfl, rfl⟩ := h
                cases hk
              · cases h
/-- What a value that is read has in it. -/
theorem isval_in {s : ByteArray} {p : Pl} (h : IsVal s p) : (∀ q ∈ p.kids, IsVal s q) ∧ (∀ x ∈ p.names, x.1 + 1 < x.2 ∧ x.2 ≤ s.size ∧ strAt s x.1 = some x.2) ∧ (p.kind = 6 → p.names.length = p.kids.length) ∧ (p.kind = 5 → p.names = []) := by
  obtain ⟨n, off, hr⟩ := h
  have hv := hr.2.2.1
  have hl := hr.2.1
  cases n with
  | zero => cases hv
  | succ n =>
    by_cases h6 : p.kind = 6
    · obtain ⟨-, -, ho⟩ := obj_in hv h6
      rcases ho with ⟨h1, h2⟩ | ho
      · rw [h1, h2]
        exact ⟨(fun q hq => by cases hq), (fun x hx => by cases hx), fun _ => rfl, fun _ => rfl⟩
      · obtain ⟨m1, m2, m3⟩ := mchain_val ho
        exact ⟨m2, m3, fun _ => m1, fun h5 => by rw [h6] at h5; cases h5⟩
    · by_cases h5 : p.kind = 5
      · obtain ⟨-, -, ha⟩ := arr_in2 (by omega) hv h5
        have hn := arr_names hv h5
        rw [hn]
        refine ⟨?_, (fun x hx => by cases hx), fun h => absurd h h6, fun _ => rfl⟩
        rcases ha with ⟨h1, -⟩ | ⟨-, ha⟩
        · rw [h1]; exact fun q hq => by cases hq
        · exact echain_val ha
      · obtain ⟨h1, h2⟩ := leaf_val hv h6 h5
        rw [h1, h2]
        exact ⟨(fun q hq => by cases hq), (fun x hx => by cases hx), fun h => absurd h h6, fun h => absurd h h5⟩
/-! ### names -/
theorem bt_cut {s : ByteArray} {a b i : Nat} (h : a + i < b) (hb : b ≤ s.size) : bt (s.extract a b) (i : Nat) = bt s ((a + i : Nat) : Int) := by
  rw [bt_ext _ _ _ _ (by omega) (by rw [size_ext]; omega)]
  congr 1
theorem str_ok {s : ByteArray} {a : Nat} : ∀ {k i j : Nat}, a ≤ i → strN s k i = some j → EscOk (s.extract a (j - 1)) (i - a)
  | 0, _, _, _, h => by cases h
  | k + 1, i, j, ha, h => by
    have hst := strN_step h
    have hsz : (s.extract a (j - 1)).size = j - 1 - a := by rw [size_ext]; omega
    unfold strN at h
    split at h
    · split at h
      · injection h with h
        subst h
        have e : i - a = (s.extract a (i + 1 - 1)).size := by rw [hsz]; omega
        rw [e]
        exact EscOk.done
      · split at h
        · cases h
        · split at h
          · rename_i h92
            split at h
            · rename_i l hl
              have h1 := escAt_step hl
              have h2 := strN_step h
              have ih := str_ok (a := a) (by omega) h
              have hb : ∀ m : Nat, a + m < j - 1 → bt (s.extract a (j - 1)) (m : Nat) = bt s ((a + m : Nat) : Int) := fun m hm => bt_cut hm (by omega)
              refine EscOk.esc (j := l - a) (by omega) ?_ ?_ ih
              · rw [hb _ (by omega), show a + (i - a) = i by omega]; exact h92
              · have hl' := hl
                unfold escAt at hl' ⊢
                rw [hb (i - a + 1) (by omega), show a + (i - a + 1) = i + 1 by omega]
                split at hl'
                · rename_i hc
                  rw [if_pos hc]
                  injection hl' with hl'
                  congr 1; omega
                · rename_i hc
                  rw [if_neg hc]
                  split at hl'
                  · rename_i hu
                    rw [if_pos hu]
                    split at hl'
                    · rename_i hh
                      injection hl' with hl'
                      have g1 := hb (i - a + 1 + 1) (by omega)
                      have g2 := hb (i - a + 1 + 2) (by omega)
                      have g3 := hb (i - a + 1 + 3) (by omega)
                      have g4 := hb (i - a + 1 + 4) (by omega)
                      rw [show a + (i - a + 1 + 1) = i + 1 + 1 by omega] at g1
                      rw [show a + (i - a + 1 + 2) = i + 1 + 2 by omega] at g2
                      rw [show a + (i - a + 1 + 3) = i + 1 + 3 by omega] at g3
                      rw [show a + (i - a + 1 + 4) = i + 1 + 4 by omega] at g4
                      rw [g1, g2, g3, g4, if_pos hh]
                      congr 1; omega
                    · cases hl'
                  · cases hl'
            · cases h
          · rename_i h34 _ h92
            have h2 := strN_step h
            have ih := str_ok (a := a) (by omega) h
            rw [show i + 1 - a = i - a + 1 by omega] at ih
            refine EscOk.plain (by omega) ?_ ih
            rw [bt_cut (by omega) (by omega), show a + (i - a) = i by omega]
            exact h92
    · cases h
/-- A name's inside is in order. -/
theorem name_ok {s : ByteArray} {x : Nat × Nat} (h : strAt s x.1 = some x.2) : EscOk (s.extract (x.1 + 1) (x.2 - 1)) 0 := by
  have := str_ok (a := x.1 + 1) (Nat.le_refl _) (show strN s (s.size + 1) (x.1 + 1) = some x.2 from h)
  rwa [Nat.sub_self] at this
/-! ### steps -/
def namedN (s key : ByteArray) : List (Nat × Nat) → Option Nat
  | [] => none
  | x :: xs => if nameOf s x = key then some 0 else (namedN s key xs).map (· + 1)
def countN (s key : ByteArray) : List (Nat × Nat) → Nat
  | [] => 0
  | x :: xs => (if nameOf s x = key then 1 else 0) + countN s key xs
theorem named_some {s key : ByteArray} : ∀ {ns : List (Nat × Nat)} {i : Nat}, namedN s key ns = some i → (∃ x, ns[i]? = some x ∧ nameOf s x = key) ∧ ∀ j y, j < i → ns[j]? = some y → nameOf s y ≠ key
  | [], _, h => by cases h
  | x :: xs, i, h => by
    unfold namedN at h
    split at h
    · rename_i hx
      injection h with h
      subst h
      exact ⟨⟨x, rfl, hx⟩, fun j y hj => by omega⟩
    · rename_i hx
      obtain ⟨i', h1, rfl⟩ := Option.map_eq_some_iff.1 h
      obtain ⟨⟨y, g1, g2⟩, g3⟩ := named_some h1
      refine ⟨⟨y, by rw [List.getElem?_cons_succ]; exact g1, g2⟩, fun j z hj hz => ?_⟩
      cases j with
      | zero => simp only [List.getElem?_cons_zero, Option.some.injEq] at hz; subst hz; exact hx
      | succ j => rw [List.getElem?_cons_succ] at hz; exact g3 j z (by omega) hz
theorem count_pos {s key : ByteArray} : ∀ {ns : List (Nat × Nat)} {j : Nat} {y : Nat × Nat}, ns[j]? = some y → nameOf s y = key → 1 ≤ countN s key ns
  | [], _, _, h, _ => by cases h
  | x :: xs, 0, y, h, hy => by
    simp only [List.getElem?_cons_zero, Option.some.injEq] at h
    subst h
    unfold countN
    rw [if_pos hy]; omega
  | x :: xs, j + 1, y, h, hy => by
    rw [List.getElem?_cons_succ] at h
    have := count_pos h hy
    unfold countN
    omega
theorem count_one {s key : ByteArray} {ns : List (Nat × Nat)} : ∀ {i j : Nat} {x y : Nat × Nat}, countN s key ns ≤ 1 → ns[i]? = some x → nameOf s x = key → ns[j]? = some y → nameOf s y = key → j = i := by
  induction ns with
  | nil => intro i j x y _ h; cases h
  | cons z zs ih =>
    intro i j x y hc hx hnx hy hny
    unfold countN at hc
    cases i with
    | zero =>
      simp only [List.getElem?_cons_zero, Option.some.injEq] at hx
      subst hx
      rw [if_pos hnx] at hc
      cases j with
      | zero => rfl
      | succ j =>
        rw [List.getElem?_cons_succ] at hy
        have := count_pos hy hny
        omega
    | succ i =>
      rw [List.getElem?_cons_succ] at hx
      have h1 := count_pos hx hnx
      cases j with
      | zero =>
        simp only [List.getElem?_cons_zero, Option.some.injEq] at hy
        subst hy
        rw [if_pos hny] at hc
        omega
      | succ j =>
        rw [List.getElem?_cons_succ] at hy
        have := ih (by omega) hx hnx hy hny
        omega
/-- A step by a key. -/
def stepI (s : ByteArray) (p : Pl) (key : ByteArray) : Option Nat :=
  if p.kind = 6 then namedN s key p.names else if p.kind = 5 then (brk key).bind fun i => if i < p.kids.length then some i else none else none
def stepP (s : ByteArray) (p : Pl) (key : ByteArray) : Option Pl := (stepI s p key).bind fun i => p.kids[i]?
def onceP (s : ByteArray) : Pl → List ByteArray → Bool
  | _, [] => true
  | p, k :: ks => if p.kind = 6 ∧ 1 < countN s k p.names then false else match stepP s p k with | none => true | some q => onceP s q ks
def foundP (s : ByteArray) : Pl → List ByteArray → Option Pl
  | p, [] => some p
  | p, k :: ks => if p.kind = 6 ∧ isIdx k = true then none else match stepP s p k with | none => none | some q => foundP s q ks
theorem leads_of {s : ByteArray} : ∀ {ks : List ByteArray} {p r : Pl}, onceP s p ks = true → foundP s p ks = some r → Leads s p ks r
  | [], p, r, _, h => by
    injection h with h
    subst h
    exact Leads.nil p
  | k :: ks, p, r, ho, hf => by
    unfold onceP at ho
    unfold foundP at hf
    split at ho
    · cases ho
    · rename_i hc
      split at hf
      · cases hf
      · rename_i hb
        cases hs : stepP s p k with
        | none => rw [hs] at hf; cases hf
        | some q =>
          rw [hs] at hf ho
          have ih := leads_of (p := q) ho hf
          unfold stepP at hs
          obtain ⟨i, hi, hq⟩ := Option.bind_eq_some_iff.1 hs
          unfold stepI at hi
          split at hi
          · rename_i h6
            obtain ⟨⟨x, h1, h2⟩, -⟩ := named_some hi
            refine Leads.obj h6 ?_ h1 h2 (fun j y hj hy => count_one (Nat.le_of_not_lt fun h => hc ⟨h6, h⟩) h1 h2 hj hy) hq ih
            cases hx : isIdx k with
            | false => rfl
            | true => exact absurd ⟨h6, hx⟩ hb
          · split at hi
            · rename_i h5
              obtain ⟨m, hm, hm2⟩ := Option.bind_eq_some_iff.1 hi
              split at hm2
              · injection hm2 with hm2
                subst hm2
                exact Leads.arr h5 hm hq ih
              · cases hm2
            · cases hi
end Go.Proofs.YtkdkdhcjpgmjdaaGreatDoor.Jp
