/- Numbers in decimal digits, zeros ahead of them. No program in sight. -/
import Derived.Lib.ParseIntB
import Derived.Test.YtgemkbpilmmajaaDoorPFnFfZerosx1
namespace Go.Proofs.YtgemkbpilmmajaaDoor.Ff
open Go.Lib Go.RowKit Go.Proofs.YtgemkbpilmmajaaDoorW.PrintWords Go.Proofs.YtgemkbpilmmajaaDoor.PFnFfZeros
set_option linter.unusedVariables false

theorem ten20 : 18446744073709551616 ≤ 10 ^ 20 := by decide +kernel
/-- The digits of n, the last one first ahead of what is there. -/
def digs : Nat → Nat → List Nat → List Nat
  | 0, _, acc => acc
  | f + 1, n, acc => if n / 10 = 0 then (48 + n % 10) :: acc else digs f (n / 10) ((48 + n % 10) :: acc)
def decs (n : Nat) : List Nat := digs 20 n []
attribute [irreducible] decs
/-- What decimal digits are worth behind acc. -/
def dstep (a c : Nat) : Nat := a * 10 + (c - 48)
def worth (acc : Nat) (l : List Nat) : Nat := l.foldl dstep acc
theorem worth_nil (a : Nat) : worth a [] = a := rfl
theorem dstep_eq (a c : Nat) : dstep a c = a * 10 + (c - 48) := by unfold dstep; rfl
attribute [irreducible] dstep
theorem worth_cons (a c : Nat) (r : List Nat) : worth a (c :: r) = worth (a * 10 + (c - 48)) r := by rw [← dstep_eq]; rfl
def AllDig (l : List Nat) : Prop := ∀ c ∈ l, 48 ≤ c ∧ c ≤ 57
theorem digs_len : ∀ (f n : Nat) (acc : List Nat), (digs f n acc).length ≤ f + acc.length
  | 0, n, acc => by simp [digs]
  | f + 1, n, acc => by
    unfold digs
    split
    · simp; omega
    · have := digs_len f (n / 10) ((48 + n % 10) :: acc)
      simp at this
      omega
theorem digs_dig : ∀ (f n : Nat) (acc : List Nat), AllDig acc → AllDig (digs f n acc)
  | 0, n, acc, h => h
  | f + 1, n, acc, h => by
    have h2 : AllDig ((48 + n % 10) :: acc) := fun c hc => by
      rcases List.mem_cons.1 hc with rfl | hc
      · omega
      · exact h c hc
    unfold digs
    split
    · exact h2
    · exact digs_dig f (n / 10) _ h2
theorem digs_ne : ∀ (f n : Nat) (acc : List Nat), 0 < f → digs f n acc ≠ []
  | f + 1, n, acc, _ => by
    unfold digs
    split
    · simp
    · cases f with
      | zero => simp [digs]
      | succ f => exact digs_ne (f + 1) _ _ (by omega)
theorem worth_app : ∀ (a b : List Nat) (x : Nat), worth x (a ++ b) = worth (worth x a) b
  | [], b, x => rfl
  | c :: a, b, x => by rw [List.cons_append, worth_cons, worth_cons]; exact worth_app a b _
theorem digs_split : ∀ (f n : Nat) (acc : List Nat), n < 10 ^ f → 0 < f → ∃ d, digs f n acc = d ++ acc ∧ worth 0 d = n
  | f + 1, n, acc, h, _ => by
    unfold digs
    split
    · rename_i h0
      refine ⟨[48 + n % 10], rfl, ?_⟩
      rw [worth_cons, worth_nil]
      omega
    · rename_i h0
      cases f with
      | zero => simp at h; omega
      | succ f =>
        obtain ⟨d, hd, hw⟩ := digs_split (f + 1) (n / 10) ((48 + n % 10) :: acc) (by rw [Nat.pow_succ] at h; omega) (by omega)
        refine ⟨d ++ [48 + n % 10], by rw [hd]; simp, ?_⟩
        rw [worth_app, hw, worth_cons, worth_nil]
        omega
theorem decs_eq (n : Nat) : decs n = digs 20 n [] := by unfold decs; rfl
theorem decs_worth {n : Nat} (h : n < 18446744073709551616) : worth 0 (decs n) = n := by
  obtain ⟨d, hd, hw⟩ := digs_split 20 n [] (Nat.lt_of_lt_of_le h ten20) (by decide)
  rw [decs_eq, hd, List.append_nil, hw]
theorem zeros_worth : ∀ (k : Nat) (l : List Nat), worth 0 (List.replicate k 48 ++ l) = worth 0 l
  | 0, l => rfl
  | k + 1, l => by rw [List.replicate_succ, List.cons_append, worth_cons]; exact zeros_worth k l
theorem worth_mono : ∀ (l : List Nat) (x : Nat), x ≤ worth x l
  | [], x => Nat.le_refl _
  | c :: l, x => by
    have := worth_mono l (x * 10 + (c - 48))
    rw [worth_cons]; omega
/-- The whole text. -/
def text (k n : Nat) : List Nat := List.replicate k 48 ++ decs n
theorem text_dig (k n : Nat) : AllDig (text k n) := fun c hc => by
  rcases List.mem_append.1 hc with h | h
  · have := List.eq_of_mem_replicate h; omega
  · rw [decs_eq] at h; exact digs_dig 20 n [] (fun _ h => by cases h) c h
theorem text_worth {k n : Nat} (h : n < 18446744073709551616) : worth 0 (text k n) = n := by unfold text; rw [zeros_worth, decs_worth h]
theorem text_len (k n : Nat) : (text k n).length ≤ k + 20 ∧ 0 < (text k n).length := by
  unfold text
  have h1 := digs_len 20 n []
  have h2 := digs_ne 20 n [] (by decide)
  rw [← decs_eq] at h1 h2
  have h3 : 0 < (decs n).length := List.length_pos_iff.2 h2
  simp only [List.length_append, List.length_replicate]
  have h4 : (decs n).length ≤ 20 := by simpa using h1
  omega

/-! ### spec's DigitsOf -/
def ints (l : List Nat) : List Int := l.map fun (c : Nat) => (c : Int)
theorem u64_id {i : Int} (h0 : 0 ≤ i) (h : i < 18446744073709551616) : IntKind.u64.wrap i = i := by
  rw [show IntKind.u64.wrap i = i % 18446744073709551616 by simp [IntKind.wrap, IntKind.bits, IntKind.signed]]
  omega
theorem digits_l0 : ∀ (f k n : Nat) (acc : List Nat), n < 10 ^ f → 0 < f → n < 18446744073709551616 → acc.length + f ≤ 1000 → spec_DigitsOf.l0 (k + f) (n : Int) (ints acc) = some (strOfNums (ints (digs f n acc)))
  | f + 1, k, n, acc, h, _, hn, hl => by
    have e1 : Int.tmod (n : Int) 10 = ((n % 10 : Nat) : Int) := by rw [Int.tmod_eq_emod_of_nonneg (by omega)]; omega
    have e2 : Int.tdiv (n : Int) 10 = ((n / 10 : Nat) : Int) := by rw [Int.tdiv_eq_ediv_of_nonneg (by omega)]; omega
    have e3 : IntKind.u64.wrap (48 + ((n % 10 : Nat) : Int)) = ((48 + n % 10 : Nat) : Int) := by rw [u64_id (by omega) (by omega)]; omega
    have e4 : IntKind.u64.wrap ((n / 10 : Nat) : Int) = ((n / 10 : Nat) : Int) := u64_id (by omega) (by omega)
    have e5 : ((48 + n % 10 : Nat) : Int) % 256 = ((48 + n % 10 : Nat) : Int) := by omega
    have e6 : (([((48 + n % 10 : Nat) : Int)] : List Int) ++ ints acc) = ints ((48 + n % 10) :: acc) := rfl
    rw [show k + (f + 1) = (k + f) + 1 by omega, spec_DigitsOf.l0]
    simp only [e1, e2, e3, e4, e5, Option.bind_some]
    rw [if_pos (by simp [ints]; omega), e6]
    unfold digs
    by_cases h0 : n / 10 = 0
    · rw [if_pos (by omega), if_pos h0]
    · rw [if_neg (by omega), if_neg h0]
      cases f with
      | zero => simp at h; omega
      | succ f => exact digits_l0 (f + 1) k (n / 10) _ (by rw [Nat.pow_succ] at h; omega) (by omega) (by omega) (by simp; omega)
theorem digits_f {n : Nat} (h : n < 18446744073709551616) : spec_DigitsOf.f 20 (n : Int) = some (strOfNums (ints (decs n))) := by
  have := digits_l0 20 0 n [] (Nat.lt_of_lt_of_le h ten20) (by decide) h (by decide)
  rw [decs_eq]
  exact this

/-! ### the library's ParseUint -/
theorem parse_ok : ∀ (l : List UInt8) (x : Nat), AllDig (l.map UInt8.toNat) → worth x (l.map UInt8.toNat) < 18446744073709551616 → parseUintM (2 ^ 64 - 1) x l = .ok (worth x (l.map UInt8.toNat))
  | [], x, _, _ => rfl
  | c :: r, x, hd, hw => by
    have hc := hd c.toNat (by simp)
    rw [List.map_cons, worth_cons] at hw ⊢
    have hm := worth_mono (r.map UInt8.toNat) (x * 10 + (c.toNat - 48))
    have ih := parse_ok r (x * 10 + (c.toNat - 48)) (fun d hdm => hd d (by simp at hdm ⊢; exact .inr hdm)) hw
    unfold parseUintM
    rw [if_pos hc, if_neg (by omega), if_neg (by omega)]
    exact ih
end Go.Proofs.YtgemkbpilmmajaaDoor.Ff
