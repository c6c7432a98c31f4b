/- Eight bytes at once: where the sum of the two tests is 0, none of the bytes is the sought one. No program in sight. -/
import Derived.Test.YtkdkdhcjpgmjdaaGreatDoorJpPure
import Derived.Laws.BitsAllLaws
import Derived.Lib.Endian
import Derived.Lib.ValidLaws
namespace Go.Proofs.YtkdkdhcjpgmjdaaGreatDoor.Jp
open L
set_option linter.unusedVariables false
set_option linter.unusedSimpArgs false

/-- The test on a word: a byte that is 0 leaves a bit. -/
def hitN (x : Nat) : Nat := (((x + 18374403900871474943) % 18446744073709551616) &&& (18446744073709551615 - x)) &&& 9259542123273814144
theorem hit_bit {x k : Nat} (hx : x < 18446744073709551616) (hk : k < 64) (h1 : (x + 18374403900871474943) % 18446744073709551616 / 2 ^ k % 2 = 1) (h2 : x / 2 ^ k % 2 = 0) (h3 : Nat.testBit 9259542123273814144 k = true) : hitN x ≠ 0 := fun h => by
  have := congrArg (fun n => Nat.testBit n k) h
  unfold hitN at this
  simp only [Nat.testBit_and, Nat.zero_testBit, h3, Bool.and_true] at this
  have e : 18446744073709551615 - x = 2 ^ 64 - (x + 1) := by omega
  rw [e, Nat.testBit_two_pow_sub_succ (by omega)] at this
  have b1 : Nat.testBit ((x + 18374403900871474943) % 18446744073709551616) k = true := by
    rw [Nat.testBit_eq_decide_div_mod_eq, h1]; rfl
  have b2 : Nat.testBit x k = false := by
    rw [Nat.testBit_eq_decide_div_mod_eq, h2]; rfl
  rw [b1, b2, decide_eq_true hk] at this
  cases this
theorem zero_hit (b0 b1 b2 b3 b4 b5 b6 b7 : Nat) (h0 : b0 < 256) (h1 : b1 < 256) (h2 : b2 < 256) (h3 : b3 < 256) (h4 : b4 < 256) (h5 : b5 < 256) (h6 : b6 < 256) (h7 : b7 < 256)
    (h : hitN (b0 + 256 * (b1 + 256 * (b2 + 256 * (b3 + 256 * (b4 + 256 * (b5 + 256 * (b6 + 256 * b7))))))) = 0) : b0 ≠ 0 ∧ b1 ≠ 0 ∧ b2 ≠ 0 ∧ b3 ≠ 0 ∧ b4 ≠ 0 ∧ b5 ≠ 0 ∧ b6 ≠ 0 ∧ b7 ≠ 0 := by
  have hx : b0 + 256 * (b1 + 256 * (b2 + 256 * (b3 + 256 * (b4 + 256 * (b5 + 256 * (b6 + 256 * b7)))))) < 18446744073709551616 := by omega
  have c0 : b0 ≠ 0 := fun e => hit_bit (k := 7) hx (by omega) (by omega) (by omega) (by decide) h
  have c1 : b1 ≠ 0 := fun e => hit_bit (k := 15) hx (by omega) (by omega) (by omega) (by decide) h
  have c2 : b2 ≠ 0 := fun e => hit_bit (k := 23) hx (by omega) (by omega) (by omega) (by decide) h
  have c3 : b3 ≠ 0 := fun e => hit_bit (k := 31) hx (by omega) (by omega) (by omega) (by decide) h
  have c4 : b4 ≠ 0 := fun e => hit_bit (k := 39) hx (by omega) (by omega) (by omega) (by decide) h
  have c5 : b5 ≠ 0 := fun e => hit_bit (k := 47) hx (by omega) (by omega) (by omega) (by decide) h
  have c6 : b6 ≠ 0 := fun e => hit_bit (k := 55) hx (by omega) (by omega) (by omega) (by decide) h
  have c7 : b7 ≠ 0 := fun e => hit_bit (k := 63) hx (by omega) (by omega) (by omega) (by decide) h
  exact ⟨c0, c1, c2, c3, c4, c5, c6, c7⟩
theorem xor_byte (b q r s : Nat) (hb : b < 256) (hq : q < 256) : (b + 256 * r) ^^^ (q + 256 * s) = (b ^^^ q) + 256 * (r ^^^ s) := by
  have hx : b ^^^ q < 2 ^ 8 := Nat.xor_lt_two_pow (by omega) (by omega)
  have m := Nat.xor_mod_two_pow (a := b + 256 * r) (b := q + 256 * s) (n := 8)
  have d := Nat.shiftRight_xor_distrib (a := b + 256 * r) (b := q + 256 * s) (i := 8)
  simp only [Nat.shiftRight_eq_div_pow] at d
  rw [show (b + 256 * r) % 2 ^ 8 = b by omega, show (q + 256 * s) % 2 ^ 8 = q by omega] at m
  rw [show (b + 256 * r) / 2 ^ 8 = r by omega, show (q + 256 * s) / 2 ^ 8 = s by omega] at d
  omega
theorem xor_ne {a b : Nat} (h : a ^^^ b ≠ 0) : a ≠ b := fun e => h (by rw [e, Nat.xor_self])
theorem xor_lt {a b : Nat} (ha : a < 256) (hb : b < 256) : a ^^^ b < 256 := Nat.xor_lt_two_pow (n := 8) ha hb
theorem byte_lt (c : UInt8) : c.toNat < 256 := c.toNat_lt
theorem swar_no (b0 b1 b2 b3 b4 b5 b6 b7 : UInt8) (q : Nat) (hq : q < 256) (h : hitN (Lib.leNat [b0, b1, b2, b3, b4, b5, b6, b7] ^^^ (q * 72340172838076673)) = 0) :
    b0.toNat ≠ q ∧ b1.toNat ≠ q ∧ b2.toNat ≠ q ∧ b3.toNat ≠ q ∧ b4.toNat ≠ q ∧ b5.toNat ≠ q ∧ b6.toNat ≠ q ∧ b7.toNat ≠ q := by
  have e1 : q * 72340172838076673 = q + 256 * (q + 256 * (q + 256 * (q + 256 * (q + 256 * (q + 256 * (q + 256 * (q + 256 * 0))))))) := by omega
  simp only [Lib.leNat] at h
  rw [e1, xor_byte _ _ _ _ (byte_lt _) hq, xor_byte _ _ _ _ (byte_lt _) hq, xor_byte _ _ _ _ (byte_lt _) hq, xor_byte _ _ _ _ (byte_lt _) hq, xor_byte _ _ _ _ (byte_lt _) hq,
    xor_byte _ _ _ _ (byte_lt _) hq, xor_byte _ _ _ _ (byte_lt _) hq, xor_byte _ _ _ _ (byte_lt _) hq] at h
  obtain ⟨h0, h1, h2, h3, h4, h5, h6, h7⟩ := zero_hit _ _ _ _ _ _ _ _ (xor_lt (byte_lt _) hq) (xor_lt (byte_lt _) hq) (xor_lt (byte_lt _) hq) (xor_lt (byte_lt _) hq) (xor_lt (byte_lt _) hq) (xor_lt (byte_lt _) hq) (xor_lt (byte_lt _) hq) (xor_lt (byte_lt _) hq) h
  exact ⟨xor_ne h0, xor_ne h1, xor_ne h2, xor_ne h3, xor_ne h4, xor_ne h5, xor_ne h6, xor_ne h7⟩

theorem leNat8_lt (b0 b1 b2 b3 b4 b5 b6 b7 : UInt8) : Lib.leNat [b0, b1, b2, b3, b4, b5, b6, b7] < 18446744073709551616 := by
  have h := Lib.leNat_lt [b0, b1, b2, b3, b4, b5, b6, b7]
  simpa using h
/-- The walk's spelling of the test on a word. -/
theorem hit_walk (x : Nat) (hx : x < 18446744073709551616) (m : Int) (hm : m = 18446744073709551615) :
    bits .and .u64 (bits .and .u64 (IntKind.u64.wrap ((x : Int) - 72340172838076673)) (bits .xor .u64 m (x : Int))) 9259542123273814144 = ((hitN x : Nat) : Int) := by
  have e1 : IntKind.u64.wrap ((x : Int) - 72340172838076673) = (((x + 18374403900871474943) % 18446744073709551616 : Nat) : Int) := by
    have : IntKind.u64.wrap ((x : Int) - 72340172838076673) = ((x : Int) - 72340172838076673) % 18446744073709551616 := by simp [IntKind.wrap, IntKind.bits, IntKind.signed]
    rw [this]
    omega
  have e2 : bits .xor .u64 m (x : Int) = ((18446744073709551615 - x : Nat) : Int) := by
    subst hm
    rw [u64_xor _ _ (by omega) (by omega) (by omega) (by omega)]
    rw [Int.toNat_natCast, show (18446744073709551615 : Int).toNat = 2 ^ 64 - 1 by simp]
    refine congrArg Nat.cast ?_
    refine Nat.eq_of_testBit_eq fun i => ?_
    rw [Nat.testBit_xor, show 18446744073709551615 - x = 2 ^ 64 - (x + 1) by omega, Nat.testBit_two_pow_sub_succ (by omega), Nat.testBit_two_pow_sub_succ (by omega), Nat.zero_testBit]
    by_cases hi : i < 64
    · simp [hi]
    · have : x.testBit i = false := Nat.testBit_lt_two_pow (Nat.lt_of_lt_of_le (show x < 2 ^ 64 by omega) (Nat.pow_le_pow_right (by omega) (by omega)))
      simp [hi, this]
  rw [e1, e2, u64_and_nat _ _ (by omega) (by omega)]
  have hl : (x + 18374403900871474943) % 18446744073709551616 &&& (18446744073709551615 - x) < 18446744073709551616 := Nat.lt_of_le_of_lt Nat.and_le_left (by omega)
  rw [u64_and _ _ (by omega) (by omega) (by omega) (by omega), Int.toNat_natCast, show (9259542123273814144 : Int).toNat = 9259542123273814144 by simp]
  unfold hitN
  exact Eq.refl _
theorem hitN_lt (x : Nat) : hitN x < 18446744073709551616 := Nat.lt_of_le_of_lt Nat.and_le_left (Nat.lt_of_le_of_lt Nat.and_le_left (by omega))
theorem or_zero {a b : Nat} (h : a ||| b = 0) : a = 0 ∧ b = 0 := Nat.or_eq_zero_iff.1 h
theorem swar_walk {q : UInt8} {Q : Int} {b0 b1 b2 b3 b4 b5 b6 b7 : UInt8} {m : Int} (hm : m = 18446744073709551615) (hQ : Q = ((q.toNat * 72340172838076673 : Nat) : Int))
    (h : (bits .or .u64
        (bits .and .u64 (bits .and .u64 (IntKind.u64.wrap (bits .xor .u64 ((Lib.leNat [b0, b1, b2, b3, b4, b5, b6, b7] : Nat) : Int) Q - 72340172838076673)) (bits .xor .u64 m (bits .xor .u64 ((Lib.leNat [b0, b1, b2, b3, b4, b5, b6, b7] : Nat) : Int) Q))) 9259542123273814144)
        (bits .and .u64 (bits .and .u64 (IntKind.u64.wrap (bits .xor .u64 ((Lib.leNat [b0, b1, b2, b3, b4, b5, b6, b7] : Nat) : Int) 6655295901103053916 - 72340172838076673)) (bits .xor .u64 m (bits .xor .u64 ((Lib.leNat [b0, b1, b2, b3, b4, b5, b6, b7] : Nat) : Int) 6655295901103053916))) 9259542123273814144) == 0) = true) :
    ∀ b ∈ [b0, b1, b2, b3, b4, b5, b6, b7], b ≠ q ∧ b ≠ 92 := by
  have hw := leNat8_lt b0 b1 b2 b3 b4 b5 b6 b7
  have hq := byte_lt q
  have hs1 := swar_no b0 b1 b2 b3 b4 b5 b6 b7 q.toNat hq
  have hs2 := swar_no b0 b1 b2 b3 b4 b5 b6 b7 92 (by omega)
  generalize Lib.leNat [b0, b1, b2, b3, b4, b5, b6, b7] = w at h hw hs1 hs2
  subst hQ
  have x1 : bits .xor .u64 (w : Int) ((q.toNat * 72340172838076673 : Nat) : Int) = ((w ^^^ (q.toNat * 72340172838076673) : Nat) : Int) := u64_xor_nat _ _ hw (by omega)
  have x2 : bits .xor .u64 (w : Int) 6655295901103053916 = ((w ^^^ (92 * 72340172838076673) : Nat) : Int) := u64_xor_nat w (92 * 72340172838076673) hw (by omega)
  have l1 : w ^^^ (q.toNat * 72340172838076673) < 18446744073709551616 := Nat.xor_lt_two_pow (n := 64) hw (by omega)
  have l2 : w ^^^ (92 * 72340172838076673) < 18446744073709551616 := Nat.xor_lt_two_pow (n := 64) hw (by omega)
  rw [x1, x2, hit_walk _ l1 m hm, hit_walk _ l2 m hm, u64_or_nat _ _ (hitN_lt _) (hitN_lt _)] at h
  have h0 : hitN (w ^^^ (q.toNat * 72340172838076673)) ||| hitN (w ^^^ (92 * 72340172838076673)) = 0 := by
    have := eq_of_beq h
    exact_mod_cast this
  obtain ⟨g1, g2⟩ := or_zero h0
  obtain ⟨a0, a1, a2, a3, a4, a5, a6, a7⟩ := hs1 g1
  obtain ⟨c0, c1, c2, c3, c4, c5, c6, c7⟩ := hs2 g2
  have ne : ∀ {b k : UInt8}, b.toNat ≠ k.toNat → b ≠ k := fun h e => h (by rw [e])
  intro b hb
  simp only [List.mem_cons, List.not_mem_nil, or_false] at hb
  rcases hb with rfl | rfl | rfl | rfl | rfl | rfl | rfl | rfl
  · exact ⟨ne a0, ne c0⟩
  · exact ⟨ne a1, ne c1⟩
  · exact ⟨ne a2, ne c2⟩
  · exact ⟨ne a3, ne c3⟩
  · exact ⟨ne a4, ne c4⟩
  · exact ⟨ne a5, ne c5⟩
  · exact ⟨ne a6, ne c6⟩
  · exact ⟨ne a7, ne c7⟩
end Go.Proofs.YtkdkdhcjpgmjdaaGreatDoor.Jp
