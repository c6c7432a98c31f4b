/- A sequence of JSON values, in plain Lean: no program in sight. -/
import Derived.Test.YtkdkdhcjpgmjdaaGreatDoorJpGty
namespace Go.Proofs.YtkdkdhcjpgmjdaaGreatDoor.Jp
open L
set_option linter.unusedVariables false
set_option linter.unusedSimpArgs false
set_option linter.unusedSectionVars false

/-- The values from i on; what has been read comes first. -/
def streamN (s : ByteArray) : Nat → Nat → List Pl → Option (List Pl)
  | 0, _, _ => none
  | k + 1, i, acc =>
    if L.skip isBlank s i < s.size then
      (match valN s (s.size + 1) (L.skip isBlank s i) with
      | none => none
      | some (j, p) => streamN s k j (acc ++ [p]))
    else some acc
def stream (s : ByteArray) : Option (List Pl) := streamN s (s.size + 1) 0 []
/-- Values one behind the other, from i on. -/
def Chain (s : ByteArray) : Nat → List Pl → Prop
  | i, [] => ¬ L.skip isBlank s i < s.size
  | i, p :: ps => L.skip isBlank s i < s.size ∧ valN s (s.size + 1) (L.skip isBlank s i) = some (p.e, p) ∧ p.b = L.skip isBlank s i ∧ p.e ≤ s.size ∧ Chain s p.e ps
theorem chain_of {s : ByteArray} : ∀ {k i : Nat} {acc ps : List Pl}, i ≤ s.size → streamN s k i acc = some ps → ∃ qs, ps = acc ++ qs ∧ Chain s i qs
  | 0, _, _, _, _, h => by cases h
  | k + 1, i, acc, ps, hi, h => by
    unfold streamN at h
    split at h
    · rename_i hz
      split at h
      · cases h
      · rename_i j p hv
        have hv2 := vok _ _ _ _ (by omega) hv
        obtain ⟨h1, h2, -, hb, he, -⟩ := hv2
        obtain ⟨qs, rfl, hq⟩ := chain_of h2 h
        refine ⟨p :: qs, by simp, hz, by rw [he]; exact hv, hb, by omega, by rw [he]; exact hq⟩
    · rename_i hz
      injection h with h
      exact ⟨[], by simp [h], hz⟩
/-- No two values that would be read as one. -/
def Apart : List Pl → Prop
  | [] => True
  | [_] => True
  | p :: q :: ps => ¬ (p.kind ≤ 3 ∧ q.b = p.e) ∧ Apart (q :: ps)
theorem fol_of {s : ByteArray} {p : Pl} {ps : List Pl} {i : Nat} (hc : Chain s i (p :: ps)) (ha : Apart (p :: ps)) (hk : p.kind ≤ 3) : Fol ((tx s).drop p.e) := by
  obtain ⟨-, -, -, he, hn⟩ := hc
  by_cases hz : p.e < s.size
  · obtain ⟨c, h1, h2, -⟩ := tx_at s p.e hz
    refine .inr ⟨c, _, h1, ?_⟩
    have hb : isBlank (bt s p.e) = true := by
      have hsk : L.skip isBlank s p.e ≠ p.e := by
        cases ps with
        | nil => exact fun e => hn (by rw [e]; exact hz)
        | cons q qs =>
          obtain ⟨-, -, hqb, -⟩ := hn
          exact fun e => ha.1 ⟨hk, by rw [hqb, e]⟩
      by_cases hb : isBlank (bt s p.e) = true
      · exact hb
      · exact absurd (skip_no fun h => hb h.2) hsk
    unfold isBlank at hb
    simp only [Bool.or_eq_true, beq_iff_eq] at hb
    unfold dlm
    simp only [Bool.or_eq_true, beq_iff_eq, u8 h2]
    have e32 : ((32 : UInt8).toNat : Int) = 32 := rfl
    have e10 : ((10 : UInt8).toNat : Int) = 10 := rfl
    have e13 : ((13 : UInt8).toNat : Int) = 13 := rfl
    have e9 : ((9 : UInt8).toNat : Int) = 9 := rfl
    rw [e32, e10, e13, e9]
    omega
  · exact .inl (List.drop_eq_nil_of_le (by rw [tx_len]; omega))
/-- What Get without keys is told: the blanks ahead, the value. -/
def getT (sq : Bool) (l : Tx) : Option (Nat × Gt) := (nxt l).map fun d => (d, gty sq (l.drop d))
theorem getT_chain {s : ByteArray} {p : Pl} {ps : List Pl} {i : Nat} (sq : Bool) (hi : i ≤ s.size) (hc : Chain s i (p :: ps)) (ha : Apart (p :: ps)) : getT sq ((tx s).drop i) = some (p.b - i, .ok (jk p.kind) (p.e - p.b)) ∧ i ≤ p.b ∧ p.b < p.e := by
  have hf := fun hk => fol_of hc ha hk
  obtain ⟨h1, h2, h3, h4, h5⟩ := hc
  have hle := skip_le isBlank s i
  have hv := vok _ _ _ _ (by omega) h2
  unfold getT
  rw [nxt_some h1, h3]
  refine ⟨?_, hle, hv.1⟩
  simp only [Option.map_some]
  rw [List.drop_drop, show i + (L.skip isBlank s i - i) = L.skip isBlank s i by omega, seg_drop (i := L.skip isBlank s i) (j := p.e) (by have := hv.1; omega) h4, gty_val sq (by omega) h2 _ hf]
theorem dw_head {p : UInt8 → Bool} {c : UInt8} {t : Tx} : ∀ {l : Tx}, l.dropWhile p = c :: t → p c = false
  | [], h => by cases h
  | a :: l, h => by
    cases hp : p a with
    | true =>
      rw [List.dropWhile_cons_of_pos hp] at h
      exact dw_head h
    | false =>
      rw [List.dropWhile_cons_of_neg (by simp [hp])] at h
      injection h with h1 _
      rw [← h1]; exact hp
/-- A value that is cut off. -/
theorem getT_cut {s : ByteArray} {p : Pl} (sq : Bool) (h : places s = some p) {m : Nat} (hm : m < p.e) :
    (m ≤ p.b → getT sq ((tx s).take m) = none) ∧ (p.b < m → getT sq ((tx s).take m) = some (p.b, cutGt p.kind (m - p.b))) ∧ p.e ≤ s.size := by
  unfold places valAt at h
  split at h
  · cases h
  · rename_i j q hv
    split at h
    · injection h with h
      subst h
      have h0 := skip_top isBlank s (i := 0) (by omega)
      have hk := vok _ _ _ _ h0 hv
      obtain ⟨k1, k2, -, k4, k5, -⟩ := hk
      have hsk := skip_tw s (i := 0) (Nat.le_refl _)
      rw [List.drop_zero, Nat.zero_add, ← k4] at hsk
      rw [← k4] at hv k1
      obtain ⟨c, hc, hx⟩ := seg_cons k1 k2
      have hsplit : tx s = (tx s).take q.b ++ (seg s q.b j ++ (tx s).drop j) := by
        rw [← seg_drop (by omega) k2, List.take_append_drop]
      have hnb : blankB c = false := by
        unfold blankB
        cases hb : isBlank (c.toNat : Int) with
        | false => rfl
        | true =>
          rw [hx] at hb
          have := skip_yes (p := isBlank) (s := s) (i := q.b) (by omega) hb
          have h2 : L.skip isBlank s q.b = q.b := by
            have := skip_tw s (i := q.b) (Nat.le_refl _)
            rw [this, seg_drop (j := j) (by omega) k2, hc, List.cons_append]
            exfalso
            have htw := List.takeWhile_append_dropWhile (p := blankB) (l := tx s)
            have hdw : (tx s).dropWhile blankB = (tx s).drop q.b := by
              rw [hsk]
              have e := congrArg (List.drop ((tx s).takeWhile blankB).length) htw
              rw [List.drop_left] at e
              exact e
            rw [seg_drop (j := j) (by omega) k2, hc, List.cons_append] at hdw
            have := dw_head hdw
            unfold blankB at this
            rw [hx, hb] at this
            cases this
          rw [h2] at this
          have := skip_le isBlank s (q.b + 1)
          omega
      have htwl : ((tx s).takeWhile blankB).length = q.b := hsk.symm
      have hpre : ∀ c ∈ (tx s).take q.b, blankB c = true := by
        have e : (tx s).take q.b = (tx s).takeWhile blankB := by
          have e := congrArg (List.take ((tx s).takeWhile blankB).length) (List.takeWhile_append_dropWhile (p := blankB) (l := tx s))
          rw [List.take_left, htwl] at e
          exact e.symm
        rw [e]
        intro c hc
        exact List.all_takeWhile (p := blankB) (l := tx s) |> fun h => by
          rw [List.all_eq_true] at h
          exact h c hc
      refine ⟨fun hmb => ?_, fun hmb => ?_, by omega⟩
      · unfold getT nxt
        have e : ((tx s).take m).takeWhile blankB = (tx s).take m := by
          have := tw_app (p := blankB) (a := (tx s).take m) (r := []) (fun c hc => hpre c (by
            rw [show (tx s).take m = ((tx s).take q.b).take m by rw [List.take_take, Nat.min_eq_left hmb]] at hc
            exact List.mem_of_mem_take hc)) (.inl rfl)
          rwa [List.append_nil] at this
        rw [e, if_neg (by omega)]
        rfl
      · have e1 : (tx s).take m = (tx s).take q.b ++ (seg s q.b j).take (m - q.b) := by
          have hlen : ((tx s).take q.b).length = q.b := by rw [List.length_take, tx_len]; omega
          conv => lhs; rw [hsplit]
          rw [List.take_append, hlen, List.take_of_length_le (by omega), List.take_append_of_le_length (by rw [seg_len k2]; omega)]
        have hlen : ((tx s).take q.b).length = q.b := by rw [List.length_take, tx_len]; omega
        have e2 : ((tx s).take m).takeWhile blankB = (tx s).take q.b := by
          rw [e1]
          exact tw_app hpre (.inr ⟨c, (seg s (q.b + 1) j).take (m - q.b - 1), by rw [hc, take_cons (by omega)], hnb⟩)
        unfold getT nxt
        rw [e2, hlen, if_pos (by rw [List.length_take, tx_len]; omega)]
        simp only [Option.map_some]
        congr 2
        rw [e1]
        have e3 : List.drop q.b (List.take q.b (tx s) ++ List.take (m - q.b) (seg s q.b j)) = List.take (m - q.b) (seg s q.b j) := by
          have := List.drop_left (l₁ := List.take q.b (tx s)) (l₂ := List.take (m - q.b) (seg s q.b j))
          rw [hlen] at this
          exact this
        rw [e3]
        exact gty_cut sq (by omega) hv (by omega) (by omega)
    · cases h
end Go.Proofs.YtkdkdhcjpgmjdaaGreatDoor.Jp
