/- The walks of fastfloat's ParseUint64 and ParseUint64BestEffort on decimal digits. -/
import Derived.Test.YtgemkbpilmmajaaDoorFfPure
import Derived.Test.YtgemkbpilmmajaaDoorShelf
import Derived.Test.YtgemkbpilmmajaaDoorBase
import Derived.WalkKit
import Derived.Below
import Derived.Lib.Hide
import Derived.Outline
import Derived.BigQuiet
import Derived.Deep.QuietTactic
import Derived.Deep.LoopGhost
import Derived.Deep.DeepMust
namespace Go.Proofs.YtgemkbpilmmajaaDoor.Ff
open Go.Lib Go.RowKit
set_option linter.unusedVariables false
set_option linter.unusedSimpArgs false

/-- A text's bytes. -/
def codes (s : ByteArray) : List Nat := s.data.toList.map UInt8.toNat
theorem codes_len (s : ByteArray) : (codes s).length = s.size := by simp [codes]
theorem codes_at (s : ByteArray) {i : Nat} (h : i < s.size) : (codes s).getD i 0 = (s[i]'h).toNat := by
  unfold codes
  rw [List.getD_eq_getElem?_getD, List.getElem?_map, List.getElem?_eq_getElem (by simpa using h)]
  rfl
theorem worth_snoc (l : List Nat) {i : Nat} (h : i < l.length) : worth 0 (l.take (i + 1)) = worth 0 (l.take i) * 10 + (l.getD i 0 - 48) := by
  rw [List.take_succ_eq_append_getElem h, worth_app, worth_cons, worth_nil, List.getD_eq_getElem?_getD, List.getElem?_eq_getElem h]
  rfl
theorem worth_lt : ∀ (l : List Nat) (x : Nat), AllDig l → worth x l < (x + 1) * 10 ^ l.length
  | [], x, _ => by rw [worth_nil]; simp
  | c :: r, x, h => by
    have hc := h c (by simp)
    rw [worth_cons]
    have ih := worth_lt r (x * 10 + (c - 48)) (fun d hd => h d (by simp [hd]))
    refine Nat.lt_of_lt_of_le ih ?_
    rw [List.length_cons, Nat.pow_succ, Nat.mul_comm (10 ^ r.length) 10, ← Nat.mul_assoc]
    exact Nat.mul_le_mul_right _ (by omega)
theorem ten18 : 10 ^ 18 = 1000000000000000000 := by decide +kernel
theorem worth_small {l : List Nat} (h : AllDig l) {i : Nat} (hi : i ≤ 18) : worth 0 (l.take i) < 1000000000000000000 := by
  have h1 := worth_lt (l.take i) 0 (fun c hc => h c (List.mem_of_mem_take hc))
  have h2 : (l.take i).length ≤ 18 := by simp; omega
  have h3 : 10 ^ (l.take i).length ≤ 10 ^ 18 := Nat.pow_le_pow_right (by decide) h2
  rw [ten18] at h3
  omega
/-- A text of decimal digits that is a uint64. -/
structure Num (s : ByteArray) (n : Nat) : Prop where
  dig : AllDig (codes s)
  val : worth 0 (codes s) = n
  lt : n < 18446744073709551616
  pos : 0 < s.size
  le : s.size ≤ 1000
theorem Num.byte {s : ByteArray} {n : Nat} (h : Num s n) {i : Nat} (hi : i < s.size) : 48 ≤ (s[i]'hi).toNat ∧ (s[i]'hi).toNat ≤ 57 := by
  rw [← codes_at s hi]
  have hl := codes_len s
  refine h.dig _ ?_
  rw [List.getD_eq_getElem?_getD, List.getElem?_eq_getElem (by omega)]
  exact List.getElem_mem _
theorem Num.parse {s : ByteArray} {n : Nat} (h : Num s n) : parseUintB 64 s.data.toList = .ok n := by
  unfold parseUintB
  have hp := h.pos
  have hz : s.data.toList.length = s.size := by simp
  rw [if_neg (fun e => by rw [e] at hz; exact absurd (show s.size = 0 from hz.symm) (by omega))]
  have := parse_ok s.data.toList 0 h.dig (by rw [show worth 0 (s.data.toList.map UInt8.toNat) = n from h.val]; exact h.lt)
  rw [show worth 0 (s.data.toList.map UInt8.toNat) = n from h.val] at this
  exact this
theorem Num.whole {s : ByteArray} {n : Nat} (h : Num s n) : worth 0 ((codes s).take s.size) = n := by
  rw [List.take_of_length_le (by rw [codes_len]; omega), h.val]

set_option maxHeartbeats 2000000 in
theorem parseW (s : ByteArray) (n : Nat) (w : World) (h : Num s n) :
    Calls Tryd.prog 28 #[.string s] w fun e w' => e = .returned (.tuple #[.int .u64 (n : Int), .nilIface]) ∧ Below w.heap.size w w' := by
  have hp := h.pos
  have hle := h.le
  have H := Lib.hid h
  clear h
  have hne : ((s.size : Int) == 0) = false := by
    rw [beq_eq_false_iff_ne]; omega
  go_enter Tryd.func28, Tryd.ntmps28
  go_wp2
  go_loopg [4, 5] (s.size) (fun d v4 v5 wr => ∃ (i x : Nat), v4 = .int .u64 (i : Int) ∧ v5 = .int .u64 (x : Int) ∧ i ≤ s.size ∧ i ≤ 18 ∧ s.size - i ≤ d ∧ wr = w ∧ x = worth 0 ((codes s).take i))
  case atStart => exact ⟨0, 0, rfl, rfl, by omega, by omega, by omega, rfl, rfl⟩
  case round =>
    obtain ⟨i, x, rfl, rfl, hi, hi18, hd, hwr, hx⟩ := hrel
    subst hwr
    have hxs := worth_small H.out.dig hi18
    rw [← hx] at hxs
    have HD := Lib.hid hd
    have HX := Lib.hid hx
    clear hd hx
    have hsz : IntKind.u64.wrap (s.size : Int) = (s.size : Int) := u64_id (by omega) (by omega)
    by_cases hlt : i < s.size
    · obtain ⟨h48, h57⟩ := H.out.byte hlt
      have hsn := worth_snoc (codes s) (i := i) (by rw [codes_len]; exact hlt)
      rw [codes_at s hlt, ← HX.out] at hsn
      obtain ⟨c, hc⟩ : ∃ c, (s[i]'hlt).toNat = c := ⟨_, rfl⟩
      rw [hc] at h48 h57 hsn
      have HSN := Lib.hid hsn
      clear hsn
      have e1 : IntKind.u64.wrap ((x : Int) * 10) = (x : Int) * 10 := u64_id (by omega) (by omega)
      have e2 : IntKind.u64.wrap ((x : Int) * 10 + ((c : Int) - 48)) = (x : Int) * 10 + ((c : Int) - 48) := u64_id (by omega) (by omega)
      have e3 : IntKind.u64.wrap ((i : Int) + 1) = (i : Int) + 1 := u64_id (by omega) (by omega)
      have t1 : decide ((48 : Int) ≤ (c : Int)) = true := by simp; omega
      have t2 : decide ((c : Int) ≤ 57) = true := by simp; omega
      by_cases h18 : i = 18
      · subst h18
        go_wp2_with fail
        refine (Tryd.strconv_ParseUint_10_at64_ok s (by omega) n H.out.parse _).mono ?_
        rintro e w1 ⟨rfl, hw1⟩
        have HB := Lib.hid (show Below wr.heap.size wr w1 by
          rcases hw1 with rfl | rfl
          · exact Below.refl _ _
          · exact Go.Proofs.YtgemkbpilmmajaaDoor.L.bytesWorld_below _ _ _)
        clear hw1
        go_wp2
        go_ret2
        exact ⟨rfl, HB.out⟩
      · have t3 : decide ((18 : Int) < (i : Int) + 1) = false := by simp; omega
        have hi17 : i + 1 ≤ 18 := by omega
        clear h18
        go_wp2
        clear e1 e2 e3 t1 t2 t3 hsz hne
        go_roundg (gk - 1)
        case measure => have := HD.out; omega
        case rel => exact ⟨i + 1, x * 10 + (c - 48), by go_num, by go_num, by omega, by omega, by have := HD.out; omega, rfl, HSN.out.symm⟩
    · have hv : x = n := by
        have hi2 : i = s.size := by omega
        rw [HX.out, hi2]; exact H.out.whole
      subst hv
      have hi0 : 0 < i := by omega
      go_wp2
      go_ret2
      exact ⟨rfl, Below.refl _ _⟩
set_option maxHeartbeats 2000000 in
theorem parseBestW (s : ByteArray) (n : Nat) (w : World) (h : Num s n) :
    Calls Tryd.prog 29 #[.string s] w fun e w' => e = .returned (.int .u64 (n : Int)) ∧ Below w.heap.size w w' := by
  have hp := h.pos
  have hle := h.le
  have H := Lib.hid h
  clear h
  have hne : ((s.size : Int) == 0) = false := by
    rw [beq_eq_false_iff_ne]; omega
  go_enter Tryd.func29, Tryd.ntmps29
  go_wp2
  go_loopg [3, 4] (s.size) (fun d v4 v5 wr => ∃ (i x : Nat), v4 = .int .u64 (i : Int) ∧ v5 = .int .u64 (x : Int) ∧ i ≤ s.size ∧ i ≤ 18 ∧ s.size - i ≤ d ∧ wr = w ∧ x = worth 0 ((codes s).take i))
  case atStart => exact ⟨0, 0, rfl, rfl, by omega, by omega, by omega, rfl, rfl⟩
  case round =>
    obtain ⟨i, x, rfl, rfl, hi, hi18, hd, hwr, hx⟩ := hrel
    subst hwr
    have hxs := worth_small H.out.dig hi18
    rw [← hx] at hxs
    have HD := Lib.hid hd
    have HX := Lib.hid hx
    clear hd hx
    have hsz : IntKind.u64.wrap (s.size : Int) = (s.size : Int) := u64_id (by omega) (by omega)
    by_cases hlt : i < s.size
    · obtain ⟨h48, h57⟩ := H.out.byte hlt
      have hsn := worth_snoc (codes s) (i := i) (by rw [codes_len]; exact hlt)
      rw [codes_at s hlt, ← HX.out] at hsn
      obtain ⟨c, hc⟩ : ∃ c, (s[i]'hlt).toNat = c := ⟨_, rfl⟩
      rw [hc] at h48 h57 hsn
      have HSN := Lib.hid hsn
      clear hsn
      have e1 : IntKind.u64.wrap ((x : Int) * 10) = (x : Int) * 10 := u64_id (by omega) (by omega)
      have e2 : IntKind.u64.wrap ((x : Int) * 10 + ((c : Int) - 48)) = (x : Int) * 10 + ((c : Int) - 48) := u64_id (by omega) (by omega)
      have e3 : IntKind.u64.wrap ((i : Int) + 1) = (i : Int) + 1 := u64_id (by omega) (by omega)
      have t1 : decide ((48 : Int) ≤ (c : Int)) = true := by simp; omega
      have t2 : decide ((c : Int) ≤ 57) = true := by simp; omega
      by_cases h18 : i = 18
      · subst h18
        go_wp2_with fail
        refine (Tryd.strconv_ParseUint_10_at64_ok s (by omega) n H.out.parse _).mono ?_
        rintro e w1 ⟨rfl, hw1⟩
        have HB := Lib.hid (show Below wr.heap.size wr w1 by
          rcases hw1 with rfl | rfl
          · exact Below.refl _ _
          · exact Go.Proofs.YtgemkbpilmmajaaDoor.L.bytesWorld_below _ _ _)
        clear hw1
        go_wp2
        go_ret
        exact ⟨rfl, HB.out⟩
      · have t3 : decide ((18 : Int) < (i : Int) + 1) = false := by simp; omega
        have hi17 : i + 1 ≤ 18 := by omega
        clear h18
        go_wp2
        clear e1 e2 e3 t1 t2 t3 hsz hne
        go_roundg (gk - 1)
        case measure => have := HD.out; omega
        case rel => exact ⟨i + 1, x * 10 + (c - 48), by go_num, by go_num, by omega, by omega, by have := HD.out; omega, rfl, HSN.out.symm⟩
    · have hv : x = n := by
        have hi2 : i = s.size := by omega
        rw [HX.out, hi2]; exact H.out.whole
      subst hv
      have hi0 : 0 < i := by omega
      go_wp2
      go_ret
      exact ⟨rfl, Below.refl _ _⟩
end Go.Proofs.YtgemkbpilmmajaaDoor.Ff
