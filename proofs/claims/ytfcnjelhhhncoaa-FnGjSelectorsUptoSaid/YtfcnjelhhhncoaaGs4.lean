/- FnGjSelectors: the text of a list of paths, in plain Lean; the function value that takes a path. -/
import Derived.Test.YtfcnjelhhhncoaaGs3
namespace Go.Proofs.Ytfcnjelhhhncoaa.L
open Go.RowKit
set_option linter.unusedVariables false
set_option linter.unusedSimpArgs false

/-- In t, from a on, stands s. -/
def At (t : ByteArray) (a : Nat) (s : ByteArray) : Prop := a + s.size ≤ t.size ∧ ∀ j : Nat, j < s.size → bt t ((a + j : Nat) : Int) = bt s (j : Int)
theorem At.app {t : ByteArray} {a : Nat} {s r : ByteArray} (h : At t a (s ++ r)) : At t a s ∧ At t (a + s.size) r := by
  obtain ⟨h1, h2⟩ := h
  rw [ByteArray.size_append] at h1 h2
  refine ⟨⟨by omega, fun j hj => ?_⟩, ⟨by omega, fun j hj => ?_⟩⟩
  · rw [h2 j (by omega), bt_app_left _ _ _ (by omega) (by omega)]
  · rw [Nat.add_assoc, h2 (s.size + j) (by omega), bt_app_right _ _ _ (by omega)]
    congr 1
    omega
theorem At.ext {t : ByteArray} {a : Nat} {s : ByteArray} (h : At t a s) : t.extract a (a + s.size) = s := by
  refine eq_of_bt (by rw [size_ext]; have := h.1; omega) fun k hk => ?_
  rw [size_ext] at hk
  rw [bt_ext _ _ _ _ (by omega) (by rw [size_ext]; omega), show (a : Int) + (k : Int) = ((a + k : Nat) : Int) by omega]
  exact h.2 k (by have := h.1; omega)
theorem at_mid (p s r : ByteArray) : At (p ++ s ++ r) p.size s := by
  refine ⟨by rw [ByteArray.size_append, ByteArray.size_append]; omega, fun j hj => ?_⟩
  rw [bt_app_left _ _ _ (by omega) (by rw [ByteArray.size_append]; omega), bt_app_right _ _ _ (by omega)]
  congr 1
  omega
theorem one_size (x : UInt8) : (⟨#[x]⟩ : ByteArray).size = 1 := rfl
theorem bt_one (x : UInt8) : bt ⟨#[x]⟩ ((0 : Nat) : Int) = (x.toNat : Int) := rfl
/-- A name (with its quotation marks, or none) and a path. -/
abbrev Itm := ByteArray × ByteArray
def itT (x : Itm) : ByteArray := if x.1.size = 0 then x.2 else x.1 ++ ⟨#[58]⟩ ++ x.2
/-- Items, commas between them. -/
def body : List Itm → ByteArray
  | [] => ByteArray.empty
  | [x] => itT x
  | x :: y :: r => itT x ++ ⟨#[44]⟩ ++ body (y :: r)
theorem body_snoc : ∀ (xs : List Itm) (x : Itm), xs ≠ [] → body (xs ++ [x]) = body xs ++ ⟨#[44]⟩ ++ itT x
  | [], x, h => absurd rfl h
  | [y], x, _ => rfl
  | y :: z :: r, x, _ => by
    have ih := body_snoc (z :: r) x (by simp)
    simp only [List.cons_append, body] at ih ⊢
    rw [ih]
    simp only [ByteArray.append_assoc]
/-- A path of words; a name without quotation marks and backslashes inside. -/
def Good (x : Itm) : Prop := (0 < x.2.size ∧ ∀ j : Nat, j < x.2.size → PlainB (bt x.2 (j : Int))) ∧ (x.1 = ⟨#[]⟩ ∨ ∃ nm : ByteArray, x.1 = quoB nm ∧ ∀ j : Nat, j < nm.size → bt nm (j : Int) ≠ 34 ∧ bt nm (j : Int) ≠ 92)
/-- An item stands from a to b. -/
def It (t : ByteArray) (a b : Nat) (x : Itm) : Prop := b ≤ t.size ∧
  ((x.1 = ⟨#[]⟩ ∧ a ≤ b ∧ x.2 = t.extract a b ∧ ∀ j : Nat, a ≤ j → j < b → PlainB (bt t (j : Int))) ∨
   ∃ c : Nat, a < c ∧ c + 2 ≤ b ∧ bt t (a : Int) = 34 ∧ bt t (c : Int) = 34 ∧ (∀ j : Nat, a < j → j < c → bt t (j : Int) ≠ 34 ∧ bt t (j : Int) ≠ 92) ∧ bt t ((c + 1 : Nat) : Int) = 58 ∧ x.1 = t.extract a (c + 1) ∧ x.2 = t.extract (c + 2) b ∧ ∀ j : Nat, c + 2 ≤ j → j < b → PlainB (bt t (j : Int)))
/-- Items stand from a on, commas between them, the closing bracket at e. -/
inductive Its (t : ByteArray) (cl : Int) : Nat → List Itm → Nat → Prop
  | last {a b : Nat} {x : Itm} (h : It t a b x) (hb : b < t.size) (hc : bt t (b : Int) = cl) : Its t cl a [x] b
  | cons {a b e : Nat} {x : Itm} {xs : List Itm} (h : It t a b x) (hb : b < t.size) (hc : bt t (b : Int) = 44) (r : Its t cl (b + 1) xs e) : Its t cl a (x :: xs) e
theorem it_of {t : ByteArray} {a : Nat} {x : Itm} (hg : Good x) (h : At t a (itT x)) : It t a (a + (itT x).size) x := by
  obtain ⟨⟨-, hp⟩, hn⟩ := hg
  refine ⟨h.1, ?_⟩
  rcases hn with hn | ⟨nm, hn, hnm⟩
  · have hz : x.1.size = 0 := by rw [hn]; rfl
    have e : itT x = x.2 := by unfold itT; rw [if_pos hz]
    rw [e] at h ⊢
    refine .inl ⟨hn, by omega, h.ext.symm, fun j hj hj2 => ?_⟩
    have := h.2 (j - a) (by omega)
    rw [show a + (j - a) = j by omega] at this
    rw [this]
    exact hp _ (by omega)
  · have hq : x.1.size = nm.size + 2 := by rw [hn]; unfold quoB; rw [ByteArray.size_append, ByteArray.size_append, one_size]; omega
    have e : itT x = x.1 ++ ⟨#[58]⟩ ++ x.2 := by unfold itT; rw [if_neg (by omega)]
    rw [e] at h ⊢
    obtain ⟨h1, h2⟩ := h.app
    obtain ⟨h3, h4⟩ := h1.app
    rw [ByteArray.size_append, ByteArray.size_append, one_size] at *
    have h3' := h3
    rw [hn] at h3
    unfold quoB at h3
    obtain ⟨k1, k2⟩ := h3.app
    obtain ⟨k3, k4⟩ := k1.app
    rw [ByteArray.size_append, one_size] at k2
    rw [one_size] at k4
    refine .inr ⟨a + nm.size + 1, by omega, by omega, ?_, ?_, fun j hj hj2 => ?_, ?_, ?_, ?_, fun j hj hj2 => ?_⟩
    · exact (k3.2 0 (by rw [one_size]; omega)).trans (bt_one 34)
    · have := (k2.2 0 (by rw [one_size]; omega)).trans (bt_one 34)
      rw [show a + (1 + nm.size) + 0 = a + nm.size + 1 by omega] at this
      exact this
    · have := k4.2 (j - (a + 1)) (by omega)
      rw [show a + 1 + (j - (a + 1)) = j by omega] at this
      rw [this]
      exact hnm _ (by omega)
    · have := (h4.2 0 (by rw [one_size]; omega)).trans (bt_one 58)
      rw [hq, show a + (nm.size + 2) + 0 = a + nm.size + 1 + 1 by omega] at this
      exact this
    · have := h3'.ext
      rw [hq] at this
      rw [show a + nm.size + 1 + 1 = a + (nm.size + 2) by omega]
      exact this.symm
    · have := h2.ext
      rw [hq] at this
      rw [show a + nm.size + 1 + 2 = a + (nm.size + 2 + 1) by omega, hq, show a + (nm.size + 2 + 1 + x.2.size) = a + (nm.size + 2 + 1) + x.2.size by omega]
      exact this.symm
    · have := h2.2 (j - (a + (nm.size + 2 + 1))) (by omega)
      rw [hq, show a + (nm.size + 2 + 1) + (j - (a + (nm.size + 2 + 1))) = j by omega] at this
      rw [this]
      exact hp _ (by omega)
theorem its_of {t : ByteArray} {cl : Int} : ∀ {xs : List Itm} {a : Nat}, xs ≠ [] → (∀ x ∈ xs, Good x) → At t a (body xs) → a + (body xs).size < t.size → bt t ((a + (body xs).size : Nat) : Int) = cl → Its t cl a xs (a + (body xs).size)
  | [], a, h, _, _, _, _ => absurd rfl h
  | [x], a, _, hg, h, hs, hc => Its.last (it_of (hg x (by simp)) h) hs hc
  | x :: y :: r, a, _, hg, h, hs, hc => by
    simp only [body] at h hs hc ⊢
    obtain ⟨h1, h2⟩ := h.app
    obtain ⟨h3, h4⟩ := h1.app
    rw [ByteArray.size_append, ByteArray.size_append, one_size] at *
    have hcm := (h4.2 0 (by rw [one_size]; omega)).trans (bt_one 44)
    rw [Nat.add_zero] at hcm
    rw [show a + ((itT x).size + 1 + (body (y :: r)).size) = a + (itT x).size + 1 + (body (y :: r)).size by omega] at *
    rw [show a + ((itT x).size + 1) = a + (itT x).size + 1 by omega] at h2
    exact Its.cons (it_of (hg x (by simp)) h3) (by have := h4.1; rw [one_size] at this; omega) hcm (its_of (by simp) (fun z hz => hg z (List.mem_cons_of_mem _ hz)) h2 hs hc)
end Go.Proofs.Ytfcnjelhhhncoaa.L
