/- The walks of nextTokenConfig and tokenEnd. -/
import Derived.Test.YtkdkdhcjpgmjdaaGreatDoorJpBlk
import Derived.Test.YtkdkdhcjpgmjdaaGreatDoorJpGty
namespace Go.Proofs.YtkdkdhcjpgmjdaaGreatDoor.Jp
open Go.RowKit L
set_option linter.unusedVariables false
set_option linter.unusedSimpArgs false

theorem nxt_nil : nxt [] = none := rfl
theorem nxt_blank {c : UInt8} (t : Tx) (h : blankB c = true) : nxt (c :: t) = (nxt t).map (· + 1) := by
  unfold nxt
  rw [List.takeWhile_cons_of_pos h, List.length_cons, List.length_cons]
  by_cases hl : (t.takeWhile blankB).length < t.length
  · rw [if_pos hl, if_pos (by omega)]
    rfl
  · rw [if_neg hl, if_neg (by omega)]
    rfl
theorem nxt_no {c : UInt8} (t : Tx) (h : blankB c = false) : nxt (c :: t) = some 0 := by
  unfold nxt
  rw [List.takeWhile_cons_of_neg (by simp [h])]
  rfl
theorem blankB_iff {c : UInt8} {x : Int} (h : (c.toNat : Int) = x) : blankB c = true ↔ x = 32 ∨ x = 10 ∨ x = 13 ∨ x = 9 := by
  unfold blankB isBlank
  rw [h]
  simp only [Bool.or_eq_true, beq_iff_eq]
  omega
/-- The search for the next token stands at i. -/
def NAt (l : Tx) (i : Nat) : Prop := nxt l = (nxt (l.drop i)).map (· + i)
section
variable {l : Tx} {i : Nat} {x : UInt8}
theorem NAt.start (l : Tx) : NAt l 0 := by
  unfold NAt
  rw [List.drop_zero]
  cases nxt l <;> rfl
theorem NAt.next (h : NAt l i) (hd : l.drop i = x :: l.drop (i + 1)) (hb : blankB x = true) : NAt l (i + 1) := by
  unfold NAt at h ⊢
  rw [h, hd, nxt_blank _ hb, map_add, Nat.add_comm i 1, Nat.add_comm 1 i]
theorem NAt.found (h : NAt l i) (hd : l.drop i = x :: l.drop (i + 1)) (hb : blankB x = false) : nxt l = some i := by
  unfold NAt at h
  rw [h, hd, nxt_no _ hb, Option.map_some, Nat.zero_add]
theorem NAt.out (h : NAt l i) (hi : l.length ≤ i) : nxt l = none := by
  unfold NAt at h
  rw [h, List.drop_eq_nil_of_le hi]
  rfl
end
/-- What nextTokenConfig answers. -/
def NextPost (l : Tx) (w : World) (e : Ending) (w' : World) : Prop :=
  (∃ x : Int, e = .returned (.int .i64 x) ∧ ((∃ n : Nat, nxt l = some n ∧ x = n) ∨ (nxt l = none ∧ x = -1))) ∧ Below w.heap.size w w'
theorem NextPost.yes {l : Tx} {w w' : World} {e : Ending} {n : Nat} {x : Int} (h : nxt l = some n) (hx : x = (n : Int)) (he : e = .returned (.int .i64 x)) (hw : Below w.heap.size w w') : NextPost l w e w' := ⟨⟨_, he, .inl ⟨n, h, hx⟩⟩, hw⟩
theorem NextPost.no {l : Tx} {w w' : World} {e : Ending} (h : nxt l = none) (he : e = .returned (.int .i64 (-1))) (hw : Below w.heap.size w w') : NextPost l w e w' := ⟨⟨_, he, .inr ⟨h, rfl⟩⟩, hw⟩
set_option maxRecDepth 100000 in
set_option maxHeartbeats 4000000 in
theorem nextW (A : Option Addr) (s : ByteArray) (m c : Nat) (a b : Bool) (n : Int) (w : World) (h : Rd w A s) (hm : m = s.size) (hs : s.size ≤ 1000000) (hc : s.size ≤ c) :
    Calls Tryz.prog 71 #[.agg #[.bool a, .bool b, .int .i64 n], .slice A m c] w (NextPost (tx s) w) := by
  subst hm
  have HR := Lib.hid (h.below (below_alloc (Below.refl w.heap.size w) (.cells #[.bool a, .bool b, .int .i64 n] 97)))
  have HB := Lib.hid (below_alloc (Below.refl w.heap.size w) (.cells #[.bool a, .bool b, .int .i64 n] 97))
  clear h
  go_enter Tryz.func71, Tryz.ntmps71
  go_wp2
  go_loopg [9] (s.size) (fun d v9 wx => ∃ i : Nat, v9 = .int .i64 (i : Int) ∧ w.alloc (.cells #[.bool a, .bool b, .int .i64 n] 97) = wx ∧ i ≤ s.size ∧ s.size - i ≤ d ∧ NAt (tx s) i)
  case atStart => exact ⟨0, rfl, rfl, by omega, by omega, NAt.start _⟩
  case round =>
    obtain ⟨i, rfl, hwx, hi, hd, hat⟩ := hrel
    subst hwx
    have HAT := Lib.hid hat
    have HD := Lib.hid hd
    clear hat hd
    by_cases hlt : i < s.size
    · obtain ⟨ad, rfl, hcell⟩ := HR.out.at_ hlt
      have hr := bt_range s i
      obtain ⟨k, hk1, hk2, hk3⟩ := tx_at s i hlt
      obtain ⟨x, hx⟩ : ∃ x, bt s i = x := ⟨_, rfl⟩
      rw [hx] at hcell hr hk2
      have HK1 := Lib.hid hk1
      have HK2 := Lib.hid hk2
      clear hx hk1 hk2 hk3
      by_cases hb : x = 32 ∨ x = 10 ∨ x = 13 ∨ x = 9
      · have HN := Lib.hid (HAT.out.next HK1.out ((blankB_iff HK2.out).2 hb))
        rcases hb with rfl | rfl | rfl | rfl
        all_goals
          go_wp2
          go_roundg (gk - 1)
          case measure => have := HD.out; omega
          case rel => exact ⟨i + 1, by go_num, rfl, by omega, by have := HD.out; omega, HN.out⟩
      · have hbf : blankB k = false := by
          cases hbk : blankB k with
          | false => rfl
          | true => exact absurd ((blankB_iff HK2.out).1 hbk) hb
        have HN := Lib.hid (HAT.out.found HK1.out hbf)
        have h1 : (x == 32) = false := by rw [beq_eq_false_iff_ne]; omega
        have h2 : (x == 10) = false := by rw [beq_eq_false_iff_ne]; omega
        have h3 : (x == 13) = false := by rw [beq_eq_false_iff_ne]; omega
        have h4 : (x == 9) = false := by rw [beq_eq_false_iff_ne]; omega
        clear hb hbf
        go_wp2
        go_ret
        exact NextPost.yes HN.out rfl rfl HB.out
    · have HN := Lib.hid (HAT.out.out (by rw [tx_len]; omega))
      go_wp2
      go_ret
      exact NextPost.no HN.out rfl HB.out

/-! ### a token's end -/
theorem tok_nil : tok [] = 0 := rfl
theorem tok_dlm {c : UInt8} (t : Tx) (h : dlm c = true) : tok (c :: t) = 0 := by
  unfold tok
  rw [List.takeWhile_cons_of_neg (by simp [h])]
  rfl
theorem tok_no {c : UInt8} (t : Tx) (h : dlm c = false) : tok (c :: t) = tok t + 1 := by
  unfold tok
  rw [List.takeWhile_cons_of_pos (by simp [h])]
  rfl
theorem dlm_iff {c : UInt8} {x : Int} (h : (c.toNat : Int) = x) : dlm c = true ↔ x = 32 ∨ x = 10 ∨ x = 13 ∨ x = 9 ∨ x = 44 ∨ x = 125 ∨ x = 93 := by
  unfold dlm
  simp only [Bool.or_eq_true, beq_iff_eq, u8 h, or_assoc]
  rfl
theorem tok_le (l : Tx) : tok l ≤ l.length := by
  unfold tok
  exact List.takeWhile_prefix _ |>.length_le
set_option maxRecDepth 100000 in
set_option maxHeartbeats 4000000 in
theorem tokW (A : Option Addr) (s : ByteArray) (m c : Nat) (w : World) (h : Rd w A s) (hm : m = s.size) (hs : s.size ≤ 1000000) (hc : s.size ≤ c) :
    Calls Tryz.prog 67 #[.slice A m c] w fun e w' => e = .returned (.int .i64 (tok (tx s) : Int)) ∧ w = w' := by
  subst hm
  have HR := Lib.hid h
  clear h
  go_enter Tryz.func67, Tryz.ntmps67
  go_wp2
  go_loopg [7] (s.size) (fun d v7 wx => ∃ i : Nat, v7 = .int .i64 (i : Int) ∧ w = wx ∧ i ≤ s.size ∧ s.size - i ≤ d ∧ tok (tx s) = tok ((tx s).drop i) + i)
  case atStart => exact ⟨0, rfl, rfl, by omega, by omega, by rw [List.drop_zero]; rfl⟩
  case round =>
    obtain ⟨i, rfl, hwx, hi, hd, hat⟩ := hrel
    subst hwx
    have HAT := Lib.hid hat
    have HD := Lib.hid hd
    clear hat hd
    by_cases hlt : i < s.size
    · obtain ⟨ad, rfl, hcell⟩ := HR.out.at_ hlt
      have hr := bt_range s i
      obtain ⟨k, hk1, hk2, hk3⟩ := tx_at s i hlt
      obtain ⟨x, hx⟩ : ∃ x, bt s i = x := ⟨_, rfl⟩
      rw [hx] at hcell hr hk2
      have HK1 := Lib.hid hk1
      have HK2 := Lib.hid hk2
      clear hx hk1 hk2 hk3
      by_cases hb : x = 32 ∨ x = 10 ∨ x = 13 ∨ x = 9 ∨ x = 44 ∨ x = 125 ∨ x = 93
      · have HN := Lib.hid (show tok (tx s) = i by rw [HAT.out, HK1.out, tok_dlm _ ((dlm_iff HK2.out).2 hb), Nat.zero_add])
        rcases hb with rfl | rfl | rfl | rfl | rfl | rfl | rfl
        all_goals
          go_wp2
          go_ret
          exact ⟨ret_int (by rw [HN.out]), rfl⟩
      · have hbf : dlm k = false := by
          cases hbk : dlm k with
          | false => rfl
          | true => exact absurd ((dlm_iff HK2.out).1 hbk) hb
        have HN := Lib.hid (show tok (tx s) = tok ((tx s).drop (i + 1)) + (i + 1) by rw [HAT.out, HK1.out, tok_no _ hbf]; omega)
        have h1 : (x != 32) = true := bne_iff_ne.2 (by omega)
        have h2 : (x != 10) = true := bne_iff_ne.2 (by omega)
        have h3 : (x != 13) = true := bne_iff_ne.2 (by omega)
        have h4 : (x != 9) = true := bne_iff_ne.2 (by omega)
        have h5 : (x != 44) = true := bne_iff_ne.2 (by omega)
        have h6 : (x != 125) = true := bne_iff_ne.2 (by omega)
        have h7 : (x != 93) = true := bne_iff_ne.2 (by omega)
        clear hb hbf
        go_wp2
        go_roundg (gk - 1)
        case measure => have := HD.out; omega
        case rel => exact ⟨i + 1, by go_num, rfl, by omega, by have := HD.out; omega, HN.out⟩
    · obtain rfl : i = s.size := by omega
      have HN := Lib.hid (show tok (tx s) = s.size by rw [HAT.out, List.drop_eq_nil_of_le (by rw [tx_len]; exact Nat.le_refl _), tok_nil, Nat.zero_add])
      go_wp2
      go_ret
      exact ⟨ret_int (by rw [HN.out]), rfl⟩
end Go.Proofs.YtkdkdhcjpgmjdaaGreatDoor.Jp
