/- FnFfZeros: the walk of the law. -/
import Derived.Test.YtgemkbpilmmajaaDoorFfWalk
namespace Go.Proofs.YtgemkbpilmmajaaDoor.Ff
open Go.Lib Go.RowKit
set_option linter.unusedVariables false
set_option linter.unusedSimpArgs false

theorem below_of {w w1 w2 : World} (h : Below w.heap.size w w1) (k : Below w1.heap.size w1 w2) : Below w.heap.size w w2 :=
  h.trans ⟨k.os, k.tape, k.output, k.size, fun i hi => k.block i (Nat.lt_of_lt_of_le hi h.size)⟩
/-- k zeros. -/
def zeroS (k : Nat) : ByteArray := ⟨(List.replicate k (48 : UInt8)).toArray⟩
theorem zeroS_succ (k : Nat) : zeroS k ++ (⟨#[48]⟩ : ByteArray) = zeroS (k + 1) := by
  apply ByteArray.ext
  apply Array.ext'
  simp [zeroS, ByteArray.data_append, List.replicate_succ']
theorem codes_zero (k : Nat) : codes (zeroS k) = List.replicate k 48 := by
  simp [codes, zeroS]
theorem codes_app (a b : ByteArray) : codes (a ++ b) = codes a ++ codes b := by
  simp [codes, ByteArray.data_append]
theorem codes_dec (n : Nat) : codes (strOfNums (ints (decs n))) = decs n := by
  have hd : AllDig (decs n) := by rw [decs_eq]; exact digs_dig 20 n [] (fun _ h => by cases h)
  unfold codes ints
  rw [strOfNums_data]
  rw [List.map_map, List.map_map]
  have : ∀ (l : List Nat), AllDig l → List.map (UInt8.toNat ∘ (fun n : Int => UInt8.ofNat n.toNat) ∘ fun (c : Nat) => (c : Int)) l = l := by
    intro l
    induction l with
    | nil => intro _; rfl
    | cons c r ih =>
      intro h
      have hc := h c (by simp)
      rw [List.map_cons, ih (fun d hdd => h d (by simp [hdd]))]
      congr 1
      simp
      omega
  exact this _ hd
theorem num_of (k n : Nat) (hk : k ≤ 100) (hn : n < 18446744073709551616) : Num (zeroS k ++ strOfNums (ints (decs n))) n := by
  have hc : codes (zeroS k ++ strOfNums (ints (decs n))) = text k n := by
    rw [codes_app, codes_zero, codes_dec]; rfl
  have hl := text_len k n
  have hz := codes_len (zeroS k ++ strOfNums (ints (decs n)))
  rw [hc] at hz
  exact ⟨by rw [hc]; exact text_dig k n, by rw [hc]; exact text_worth hn, hn, by omega, by omega⟩

theorem zero_size (k : Nat) : (zeroS k).size = k := by
  show (List.replicate k (48 : UInt8)).toArray.size = k
  simp
theorem dec_size (n : Nat) : (strOfNums (ints (decs n))).size ≤ 20 := by
  rw [strOfNums_size]
  have h := digs_len 20 n []
  rw [← decs_eq] at h
  simpa [ints] using h
theorem u64W (s : ByteArray) (n : Nat) (w : World) (h : Num s n) :
    Calls Tryd.prog 14 #[.string s] w fun e w' => e = .returned (.tuple #[.int .u64 (n : Int), .bool true]) ∧ Below w.heap.size w w' := by
  have HC := Lib.hid (parseW s n w h)
  clear h
  go_enter Tryd.func14, Tryd.ntmps14
  go_wp2_with fail
  refine HC.out.mono ?_
  rintro e w1 ⟨rfl, hb⟩
  have HB := Lib.hid hb
  clear hb
  go_wp2
  go_quiet (fail)
  go_wp2
  go_ret2
  exact ⟨rfl, Go.Proofs.YtgemkbpilmmajaaDoor.L.below_drewN HB.out _⟩
theorem bestW (s : ByteArray) (n : Nat) (w : World) (h : Num s n) :
    Calls Tryd.prog 15 #[.string s] w fun e w' => e = .returned (.int .u64 (n : Int)) ∧ Below w.heap.size w w' := by
  have HC := Lib.hid (parseBestW s n w h)
  clear h
  go_enter Tryd.func15, Tryd.ntmps15
  go_wp2_with fail
  refine HC.out.mono ?_
  rintro e w1 ⟨rfl, hb⟩
  go_wp2
  go_ret
  exact ⟨rfl, hb⟩
set_option maxHeartbeats 1000000 in
theorem lawZ (n0 z0 : Int) (w : World) (hn : (Lit.int IntKind.u64 n0).wf = true) (hz : (Lit.int IntKind.u8 z0).wf = true) : Calls Tryd.prog 5 #[.int .u64 n0, .int .u8 z0] w fun e w' => e = .returned (.bool true) ∧ Below w.heap.size w w' := by
  have hn2 : 0 ≤ n0 ∧ n0 ≤ 18446744073709551615 := by simpa [Lit.wf, IntKind.min, IntKind.max, IntKind.signed, IntKind.bits] using hn
  have hz2 : 0 ≤ z0 ∧ z0 ≤ 255 := by simpa [Lit.wf, IntKind.min, IntKind.max, IntKind.signed, IntKind.bits] using hz
  obtain ⟨n, rfl⟩ := Int.eq_ofNat_of_zero_le hn2.1
  obtain ⟨z, rfl⟩ := Int.eq_ofNat_of_zero_le hz2.1
  have hzu : (z : Int) ≤ 255 := hz2.2
  have hnl : n < 18446744073709551616 := by omega
  have HNL := Lib.hid hnl
  clear hn hz hn2 hz2 hnl
  have hm : z % 101 ≤ 100 := by omega
  have ew : IntKind.i64.wrap (z : Int) = (z : Int) := by rw [IntKind.wrap_i64]; omega
  go_enter Tryd.func5, Tryd.ntmps5
  go_wp2
  go_loopg [5, 6] (z % 101) (fun d v5 v6 wr => ∃ k : Nat, v5 = .string (zeroS k) ∧ v6 = .int .i64 (k : Int) ∧ k ≤ z % 101 ∧ z % 101 - k ≤ d ∧ wr = w)
  case atStart => exact ⟨0, rfl, rfl, by omega, by omega, rfl⟩
  case round =>
    obtain ⟨k, rfl, rfl, hk, hd, hwr⟩ := hrel
    subst hwr
    have HD := Lib.hid hd
    clear hd
    have hs1 : (zeroS k).size ≤ 100 := by rw [zero_size]; omega
    have hs2 := dec_size n
    by_cases hlt : k < z % 101
    · have t1 : decide ((k : Int) < (z : Int) % 101) = true := by simp; omega
      have ez := zeroS_succ k
      go_wp2
      clear t1 ez
      go_roundg (gk - 1)
      case measure => have := HD.out; omega
      case rel => exact ⟨k + 1, by rw [← zeroS_succ], by go_num, by omega, by have := HD.out; omega, rfl⟩
    · have t1 : decide ((k : Int) < (z : Int) % 101) = false := by simp; omega
      have HN := Lib.hid (num_of k n (by omega) HNL.out)
      have HF := Lib.hid (digits_f HNL.out)
      go_wp2_with fail
      refine (Go.Proofs.YtgemkbpilmmajaaDoor.PFnFfZeros.spec_DigitsOf.calls 20 (n : Int) _ _ HF.out).mono ?_
      rintro e w1 ⟨rfl, hb1⟩
      have HB1 := Lib.hid hb1
      clear hb1
      go_wp2_with fail
      refine (u64W _ n _ HN.out).mono ?_
      rintro e w2 ⟨rfl, hb2⟩
      have HB2 := Lib.hid (below_of HB1.out hb2)
      clear hb2
      go_wp2_with fail
      refine (bestW _ n _ HN.out).mono ?_
      rintro e w3 ⟨rfl, hb3⟩
      have HB3 := Lib.hid (below_of HB2.out hb3)
      clear hb3
      go_wp2
      go_ret
      exact ⟨rfl, HB3.out⟩
end Go.Proofs.YtgemkbpilmmajaaDoor.Ff
