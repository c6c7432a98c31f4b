/- FnGjSelectors: quoted names; paths of words. -/
import Derived.Test.YtfcnjelhhhncoaaGs1
namespace Go.Proofs.Ytfcnjelhhhncoaa.L
open Go.RowKit
set_option linter.unusedVariables false
set_option linter.unusedSimpArgs false

/-- A name between quotation marks. -/
def quoB (s : ByteArray) : ByteArray := (⟨#[34]⟩ : ByteArray) ++ s ++ ⟨#[34]⟩
/-- What gjQuoted answers. -/
def QuPost (s : ByteArray) (w : World) (e : Ending) (w' : World) : Prop := w = w' ∧
  ((∃ b : Bool, e = .returned (.tuple #[.string (quoB s), .bool b]) ∧ ∀ k : Nat, k < s.size → bt s (k : Int) ≠ 34 ∧ bt s (k : Int) ≠ 92) ∨ e = .returned (.tuple #[.string ⟨#[]⟩, .bool false]))
theorem QuPost.no {s : ByteArray} {w : World} {e : Ending} (h : e = .returned (.tuple #[.string ⟨#[]⟩, .bool false])) : QuPost s w e w := ⟨rfl, .inr h⟩
set_option maxRecDepth 100000 in
set_option maxHeartbeats 4000000 in
theorem gjQuotedW (s : ByteArray) (w : World) (hs : s.size ≤ 1048576) : Calls Try.prog 7 #[.string s] w (QuPost s w) := by
  go_enter Try.func7, Try.ntmps7
  go_wp2
  go_loopg [4] s.size (fun d v4 wx => ∃ k : Nat, v4 = .int .i64 (k : Int) ∧ k ≤ s.size ∧ s.size - k ≤ d ∧ (∀ j : Nat, j < k → bt s (j : Int) ≠ 34 ∧ bt s (j : Int) ≠ 92) ∧ w = wx)
  case atStart => exact ⟨0, rfl, by omega, by omega, (fun j hj => absurd hj (Nat.not_lt_zero _)), rfl⟩
  case round =>
    obtain ⟨k, rfl, hk, hd, hall, rfl⟩ := hrel
    have HD := Lib.hid hd
    have HA := Lib.hid hall
    clear hd hall
    by_cases hlt : k < s.size
    · have x0 : ∀ h : k < s.size, ((s[k]'h).toNat : Int) = bt s k := bt_at s k
      have hr := bt_range s (k : Nat)
      obtain ⟨z, hz⟩ : ∃ c, bt s (k : Nat) = c := ⟨_, rfl⟩
      rw [hz] at x0 hr
      have HZ := Lib.hid hz
      clear hz
      obtain ⟨hr0, hr1⟩ := hr
      have kk : IntKind.i64.wrap ((k : Int) + 1) = (k : Int) + 1 := IntWalk.i64_in _ (by omega)
      by_cases a1 : z < 32
      · go_wp2
        (try simp only [Exit.inBlock, Exit.then])
        refine bodyPost_ret (results_tmp2 rfl _ _ _) rfl ?_
        exact QuPost.no rfl
      by_cases a2 : z = 34
      · have b2 : (z == 34) = true := by rw [beq_iff_eq]; exact a2
        go_wp2
        (try simp only [Exit.inBlock, Exit.then])
        refine bodyPost_ret (results_tmp2 rfl _ _ _) rfl ?_
        exact QuPost.no rfl
      have b2 : (z == 34) = false := beq_eq_false_iff_ne.2 a2
      by_cases a3 : z = 92
      · have b3 : (z == 92) = true := by rw [beq_iff_eq]; exact a3
        go_wp2
        (try simp only [Exit.inBlock, Exit.then])
        refine bodyPost_ret (results_tmp2 rfl _ _ _) rfl ?_
        exact QuPost.no rfl
      have b3 : (z == 92) = false := beq_eq_false_iff_ne.2 a3
      have FIN := Lib.hid (show ∀ j : Nat, j < k + 1 → bt s (j : Int) ≠ 34 ∧ bt s (j : Int) ≠ 92 from fun j hj => by
        by_cases hjk : j < k
        · exact HA.out j hjk
        · rw [show j = k by omega, HZ.out]; exact ⟨a2, a3⟩)
      clear a2 a3
      by_cases a4 : z = 124
      · have b4 : (z == 124) = true := by rw [beq_iff_eq]; exact a4
        go_wp2
        (try simp only [Exit.inBlock, Exit.then])
        refine bodyPost_ret (results_tmp2 rfl _ _ _) rfl ?_
        exact QuPost.no rfl
      have b4 : (z == 124) = false := beq_eq_false_iff_ne.2 a4
      clear a4
      by_cases k0 : k = 0
      · have bk : ((k : Int) == 0) = true := by rw [beq_iff_eq]; omega
        by_cases a5 : z = 126
        · have b5 : (z == 126) = true := by rw [beq_iff_eq]; exact a5
          clear k0
          go_wp2
          (try simp only [Exit.inBlock, Exit.then])
          refine bodyPost_ret (results_tmp2 rfl _ _ _) rfl ?_
          exact QuPost.no rfl
        · have b5 : (z == 126) = false := beq_eq_false_iff_ne.2 a5
          clear k0 a5
          go_wp2
          go_roundg (gk - 1)
          case measure => have := HD.out; omega
          case rel => exact ⟨k + 1, by go_num, by omega, by have := HD.out; omega, FIN.out, rfl⟩
      · have bk : ((k : Int) == 0) = false := beq_eq_false_iff_ne.2 (by omega)
        clear k0
        go_wp2
        go_roundg (gk - 1)
        case measure => have := HD.out; omega
        case rel => exact ⟨k + 1, by go_num, by omega, by have := HD.out; omega, FIN.out, rfl⟩
    · have HF := Lib.hid (show ∀ j : Nat, j < s.size → bt s (j : Int) ≠ 34 ∧ bt s (j : Int) ≠ 92 from fun j hj => HA.out j (by omega))
      go_wp2_with (first
        | (go_at_call 16; (with_reducible refine (utf8A s _ (by omega)).mono ?_); rintro e w1 ⟨⟨b, rfl⟩, rfl⟩))
      (try simp only [Exit.inBlock, Exit.then])
      refine bodyPost_ret (results_tmp2 rfl _ _ _) rfl ?_
      exact ⟨rfl, .inl ⟨b, rfl, HF.out⟩⟩
/-- The first k keys, dots between them. -/
def joinK (ks : List ByteArray) : Nat → ByteArray
  | 0 => ByteArray.empty
  | k + 1 => (if k = 0 then ByteArray.empty else joinK ks k ++ ⟨#[46]⟩) ++ ks.getD k ByteArray.empty
/-- A byte of a path of words. -/
def PlainB (z : Int) : Prop := WordB z ∨ z = 46
theorem bt_dot (j : Int) (h0 : 0 ≤ j) (h1 : j < ((⟨#[46]⟩ : ByteArray).size : Int)) : bt ⟨#[46]⟩ j = 46 := by
  have hz : (⟨#[46]⟩ : ByteArray).size = 1 := rfl
  rw [hz] at h1
  obtain rfl : j = 0 := by omega
  rfl
theorem joinK_size {ks : List ByteArray} (h : ∀ x ∈ ks, x.size ≤ 1048576) : ∀ k, k ≤ ks.length → (joinK ks k).size ≤ k * 1048577
  | 0, _ => by simp [joinK]
  | k + 1, hk => by
    have ih := joinK_size h k (by omega)
    have hx : (ks.getD k ByteArray.empty).size ≤ 1048576 := by
      rw [List.getD_eq_getElem?_getD, List.getElem?_eq_getElem (by omega)]
      exact h _ (List.getElem_mem _)
    have hd : (⟨#[46]⟩ : ByteArray).size = 1 := rfl
    simp only [joinK]
    split
    · rw [ByteArray.size_append, show (ByteArray.empty).size = 0 from rfl]; omega
    · rw [ByteArray.size_append, ByteArray.size_append, hd]; omega
theorem joinK_plain {ks : List ByteArray} (h : ∀ x ∈ ks, IsWord x) : ∀ k, k ≤ ks.length → ∀ j : Nat, j < (joinK ks k).size → PlainB (bt (joinK ks k) (j : Int))
  | 0, _, j, hj => by simp [joinK] at hj
  | k + 1, hk, j, hj => by
    have ih := joinK_plain h k (by omega)
    obtain ⟨x, hx⟩ : ∃ x, ks.getD k ByteArray.empty = x := ⟨_, rfl⟩
    have hw : IsWord x := by
      rw [← hx, List.getD_eq_getElem?_getD, List.getElem?_eq_getElem (by omega)]
      exact h _ (List.getElem_mem _)
    obtain ⟨p, hp⟩ : ∃ p, (if k = 0 then ByteArray.empty else joinK ks k ++ ⟨#[46]⟩ : ByteArray) = p := ⟨_, rfl⟩
    have hpp : ∀ i : Nat, i < p.size → PlainB (bt p (i : Int)) := fun i hi => by
      rw [← hp] at hi ⊢
      split at hi
      · exact absurd hi (Nat.not_lt_zero _)
      · rename_i hk0
        rw [if_neg hk0]
        rw [ByteArray.size_append] at hi
        by_cases hl : i < (joinK ks k).size
        · rw [bt_app_left _ _ _ (by omega) (by omega)]; exact ih i hl
        · rw [bt_app_right _ _ _ (by omega), bt_dot _ (by omega) (by omega)]; exact .inr rfl
    simp only [joinK] at hj ⊢
    rw [hp, hx] at hj ⊢
    rw [ByteArray.size_append] at hj
    by_cases hl : j < p.size
    · rw [bt_app_left _ _ _ (by omega) (by omega)]; exact hpp j hl
    · rw [bt_app_right _ _ _ (by omega), show (j : Int) - (p.size : Int) = ((j - p.size : Nat) : Int) by omega]
      exact .inl (hw.2 _ (by omega))
theorem joinK_pos {ks : List ByteArray} (h : ∀ x ∈ ks, IsWord x) {k : Nat} (h0 : 0 < k) (hk : k ≤ ks.length) : 0 < (joinK ks k).size := by
  obtain ⟨m, rfl⟩ : ∃ m, k = m + 1 := ⟨k - 1, by omega⟩
  have hw : IsWord (ks.getD m ByteArray.empty) := by
    rw [List.getD_eq_getElem?_getD, List.getElem?_eq_getElem (by omega)]
    exact h _ (List.getElem_mem _)
  simp only [joinK]
  rw [ByteArray.size_append]
  have := hw.1
  omega
theorem ext_succ {s : ByteArray} {i : Nat} (h : i < s.size) : s.extract 0 (i + 1) = s.extract 0 i ++ strOfNums [bt s (i : Int)] := by
  have hr := bt_range s (i : Int)
  have hz : (strOfNums [bt s (i : Int)]).size = 1 := by rw [strOfNums_size]; rfl
  refine eq_of_bt (by rw [ByteArray.size_append, size_ext, size_ext, hz]; omega) fun k hk => ?_
  rw [size_ext] at hk
  rw [bt_ext _ _ _ _ (by omega) (by rw [size_ext]; omega)]
  by_cases hl : k < i
  · rw [bt_app_left _ _ _ (by omega) (by rw [size_ext]; omega), bt_ext _ _ _ _ (by omega) (by rw [size_ext]; omega)]
  · rw [bt_app_right _ _ _ (by rw [size_ext]; omega), size_ext]
    have e : (k : Int) - ((min i s.size - 0 : Nat) : Int) = ((0 : Nat) : Int) := by omega
    rw [e, bt_nums [bt s (i : Int)] 0 (by simp) ⟨hr.1, hr.2⟩]
    simp only [List.getElem_cons_zero]
    congr 1
    omega
end Go.Proofs.Ytfcnjelhhhncoaa.L
