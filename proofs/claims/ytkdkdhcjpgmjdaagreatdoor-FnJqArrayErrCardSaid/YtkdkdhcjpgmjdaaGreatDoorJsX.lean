/- Windows of a text; an index in a key; where the value stands to which keys lead. -/
import Derived.Test.YtkdkdhcjpgmjdaaGreatDoorJpKeyP2
import Derived.Test.YtkdkdhcjpgmjdaaGreatDoorJuP
import Derived.Test.YtkdkdhcjpgmjdaaGreatDoorJpFindP
import Derived.Test.YtkdkdhcjpgmjdaaGreatDoorJpEach5
import Derived.Lib.Atoi
import Derived.Test.YtkdkdhcjpgmjdaaGreatDoorJpFind2
/- Windows of a text, in plain Lean: no program in sight. -/
namespace Go.Proofs.YtkdkdhcjpgmjdaaGreatDoor.Jp
open L
set_option linter.unusedVariables false
set_option linter.unusedSimpArgs false
set_option linter.unusedSectionVars false

theorem tx_win (S : ByteArray) (i W : Nat) : tx (S.extract i W) = ((tx S).take W).drop i := by rw [tx_cut, List.drop_take]
/-- The next token behind i, in the text cut off at m. -/
theorem nxt_win {s : ByteArray} {i m : Nat} (hm : m ≤ s.size) (hl : L.skip isBlank s i < m) (hi : i ≤ m) : nxt (tx (s.extract i m)) = some (L.skip isBlank s i - i) := by
  have hle := skip_le isBlank s i
  have hbl := skip_blanks (s := s) (i := i) (by omega)
  have hbl_len := seg_len (s := s) (i := i) (j := L.skip isBlank s i) (by omega)
  obtain ⟨c, hc, h2, _⟩ := tx_at s (L.skip isBlank s i) (by omega)
  have hnb : blankB c = false := skip_head (s := s) (i := i) (c := c) h2 (by omega)
  have hsplit : (tx s).drop i = seg s i (L.skip isBlank s i) ++ (tx s).drop (L.skip isBlank s i) := by
    rw [← seg_drop hle (by omega)]
  rw [tx_win, take_drop, hsplit, List.take_append, List.take_of_length_le (by rw [hbl_len]; omega), hbl_len, hc, take_cons (by omega)]
  have e := tw_app (p := blankB) (a := seg s i (L.skip isBlank s i)) (r := c :: ((tx s).drop (L.skip isBlank s i + 1)).take (m - i - (L.skip isBlank s i - i) - 1)) hbl (.inr ⟨c, _, rfl, hnb⟩)
  unfold nxt
  rw [e, if_pos (by simp), hbl_len]
/-- A string's end, in the text cut off at W. -/
theorem str_win {S : ByteArray} {c e W : Nat} (h34 : bt S c = 34) (h : strAt S c = some e) (he : e ≤ W) (hW : W ≤ S.size) :
    c + 1 < e ∧ endI 34 (tx (S.extract (c + 1) W)) = ((e - (c + 1) : Nat) : Int) ∧ endE 34 (tx (S.extract (c + 1) W)) = esc (tx (S.extract (c + 1) (e - 1))) := by
  obtain ⟨h1, h2, -, hclo⟩ := strAt_neu h34 h
  have hsp : tx (S.extract (c + 1) W) = seg S (c + 1) e ++ ((tx S).take W).drop e := by rw [tx_win]; exact win_split (by omega) he hW
  have hcl : cls 34 (tx (S.extract (c + 1) W)) = some (e - (c + 1)) := by
    rw [hsp, hclo, seg_len (by omega)]
  obtain ⟨r1, r2⟩ := end_some hcl
  refine ⟨h1, r1, ?_⟩
  rw [r2, tx_cut, tx_cut, List.take_take]
  congr 2
  omega
theorem esc_none {s : ByteArray} (h : esc (tx s) = false) : ∀ k : Nat, bt s (k : Nat) ≠ 92 := by
  intro k hk
  have hlt : k < s.size := by
    rcases Nat.lt_or_ge k s.size with h | h
    · exact h
    · rw [bt_out s _ (by omega)] at hk; cases hk
  obtain ⟨c, -, h2, h3⟩ := tx_at s k hlt
  have hc : c = 92 := (u8 h2 92).2 (by rw [hk]; rfl)
  unfold esc at h
  rw [List.any_eq_false] at h
  have hm : c ∈ tx s := List.mem_of_getElem? h3
  exact h c hm (by rw [hc]; rfl)
theorem esc_bl {s : ByteArray} (h : esc (tx s) = false) : unq s 0 = bl s := by
  rw [unq_bl (n := s.size) (Nat.le_refl _) (fun j _ => esc_none h j), ext_all, unq_drop0 (Nat.le_refl _), unq_out (Nat.le_refl _), List.append_nil]
end Go.Proofs.YtkdkdhcjpgmjdaaGreatDoor.Jp

/- The index that a key "[n]" writes, as strconv.Atoi reads it: in plain Lean, no program in sight. -/
namespace Go.Proofs.YtkdkdhcjpgmjdaaGreatDoor.Jp
open Go.RowKit L
set_option linter.unusedVariables false
set_option linter.unusedSimpArgs false
set_option linter.unusedSectionVars false

theorem idxN_dec {k : ByteArray} : ∀ {n m : Nat}, n + 1 ≤ k.size → idxN k n = some m → Lib.decFrom 0 (((tx k).drop 1).take n) = some m
  | 0, m, _, h => by
    simp only [idxN, Option.some.injEq] at h
    subst h
    rfl
  | n + 1, m, hn, h => by
    unfold idxN at h
    split at h
    · rename_i hd
      simp only [Option.map_eq_some_iff] at h
      obtain ⟨m0, h0, rfl⟩ := h
      have ih := idxN_dec (by omega) h0
      obtain ⟨c, -, h2, h3⟩ := tx_at k (n + 1) (by omega)
      simp only [isDigit, Bool.and_eq_true, decide_eq_true_eq] at hd
      refine Lib.decFrom_take _ n 0 m0 c _ ih (by rw [List.getElem?_drop, Nat.add_comm 1 n]; exact h3) ?_
      unfold Lib.digitVal
      rw [if_pos (by omega)]
      congr 1
      omega
    · cases h
theorem idxN_low {k : ByteArray} (h1 : bt k (1 : Nat) ≠ 48) : ∀ {n m : Nat}, idxN k (n + 1) = some m → 10 ^ n ≤ m
  | 0, m, h => by
    unfold idxN at h
    split at h
    · rename_i hd
      simp only [idxN, Option.map_some, Option.some.injEq] at h
      simp only [isDigit, Bool.and_eq_true, decide_eq_true_eq] at hd
      have h1' : bt k ((0 + 1 : Nat) : Int) ≠ 48 := h1
      subst h
      rw [Nat.pow_zero]
      omega
    · cases h
  | n + 1, m, h => by
    unfold idxN at h
    split at h
    · simp only [Option.map_eq_some_iff] at h
      obtain ⟨m0, h0, rfl⟩ := h
      have ih := idxN_low h1 h0
      rw [Nat.pow_succ]
      omega
    · cases h
/-- What strconv.Atoi reads of the index in a key. -/
theorem atoi_brk {k : ByteArray} {i : Nat} (h : brk k = some i) (hi : i ≤ 1000000) :
    3 ≤ k.size ∧ k.size ≤ 20 ∧ bt k (0 : Nat) = 91 ∧ bt k (k.size - 1 : Nat) = 93 ∧ Lib.atoi (k.extract 1 (k.size - 1)).data.toList = some (i : Int) := by
  unfold brk at h
  split at h
  · rename_i hc
    obtain ⟨c1, c2, c3, c4⟩ := hc
    obtain ⟨n, hn⟩ : ∃ n, k.size = n + 3 := ⟨k.size - 3, by omega⟩
    rw [show k.size - 2 = n + 1 by omega] at h
    have hz : k.size ≤ 20 := by
      rcases c4 with c4 | c4
      · omega
      · have hl := idxN_low c4 h
        rcases Nat.lt_or_ge n 8 with hh | hh
        · omega
        · have := Nat.pow_le_pow_right (n := 10) (by omega) hh
          have e : 10 ^ 8 = 100000000 := by decide
          omega
    refine ⟨c1, hz, c2, c3, ?_⟩
    have hd := idxN_dec (by omega) h
    have hx : (k.extract 1 (k.size - 1)).data.toList = ((tx k).drop 1).take (n + 1) := by
      have := tx_cut k 1 (k.size - 1)
      rw [show k.size - 1 - 1 = n + 1 by omega] at this
      exact this
    rw [hx]
    obtain ⟨c, hc1, hc2, -⟩ := tx_at k 1 (by omega)
    have hh : ((tx k).drop 1).take (n + 1) = c :: ((tx k).drop 2).take n := by rw [hc1]; rfl
    rw [hh] at hd ⊢
    have hdg : 48 ≤ c.toNat := by
      obtain ⟨d, hd0⟩ := Lib.digit_of_decFrom _ 0 _ hd 0 c rfl
      exact (Lib.digitVal_eq hd0).1
    have n1 : (c == 45) = false := by
      rw [beq_eq_false_iff_ne]; rintro rfl; revert hdg; decide
    have n2 : (c == 43) = false := by
      rw [beq_eq_false_iff_ne]; rintro rfl; revert hdg; decide
    unfold Lib.atoi
    dsimp only
    rw [n1, n2, if_neg (by decide), if_neg (by decide)]
    unfold Lib.decNat
    rw [if_neg (by simp), hd]
    rfl
  · cases h
/-- The rest of a row of texts. -/
theorem keysTail {w : World} {B : Nat → Prop} {ad : Addr} {n c l : Nat} {ks : List ByteArray} (hR : Row w B 1 (some ad) n c (keysV ks)) (hl : l + 1 ≤ n) :
    Row w B 1 (if c = l + 1 then some ad else some (ad.add (l + 1))) (n - (l + 1)) (c - (l + 1)) (keysV (ks.drop (l + 1))) := by
  obtain ⟨h1, h2, h3, h4⟩ := hR
  simp only [keysV, List.length_map, Nat.mul_one] at h1
  refine ⟨by simp only [keysV, List.length_map, List.length_drop, Nat.mul_one]; omega, by omega, by omega, fun hn => ?_⟩
  obtain ⟨ad', e, hB, hlt, hc⟩ := h4 (by omega)
  injection e with e
  subst e
  rw [if_neg (by omega)]
  refine ⟨_, rfl, by rw [add_block]; exact hB, by rw [add_block]; exact hlt, fun j u hu => ?_⟩
  rw [add_add]
  refine hc (l + 1 + j) u ?_
  rw [← hu]
  simp only [keysV, List.map_drop, List.getElem?_drop]
end Go.Proofs.YtkdkdhcjpgmjdaaGreatDoor.Jp

/- Where the value to which keys lead stands, in plain Lean: no program in sight. -/
namespace Go.Proofs.YtkdkdhcjpgmjdaaGreatDoor.Jp
open L
set_option linter.unusedVariables false
set_option linter.unusedSimpArgs false
set_option linter.unusedSectionVars false

theorem fol_tok {s : ByteArray} {e : Nat} (he : e ≤ s.size) (hc : bt s (L.skip isBlank s e) = 93 ∨ bt s (L.skip isBlank s e) = 44 ∨ bt s (L.skip isBlank s e) = 125) : Fol ((tx s).drop e) := by
  have hle := skip_le isBlank s e
  have hlt := lt_of_bt (s := s) (i := L.skip isBlank s e) (by omega)
  obtain ⟨c, h1, h2, _⟩ := tx_at s e (by omega)
  refine .inr ⟨c, _, h1, ?_⟩
  have hb : isBlank (bt s e) = true ∨ bt s e = 93 ∨ bt s e = 44 ∨ bt s e = 125 := by
    by_cases hb : isBlank (bt s e) = true
    · exact .inl hb
    · rw [skip_no fun h => hb h.2] at hc; exact .inr hc
  unfold dlm
  simp only [Bool.or_eq_true, beq_iff_eq, u8 h2]
  have e32 : ((32 : UInt8).toNat : Int) = 32 := rfl
  have e10 : ((10 : UInt8).toNat : Int) = 10 := rfl
  have e13 : ((13 : UInt8).toNat : Int) = 13 := rfl
  have e9 : ((9 : UInt8).toNat : Int) = 9 := rfl
  have e44 : ((44 : UInt8).toNat : Int) = 44 := rfl
  have e93 : ((93 : UInt8).toNat : Int) = 93 := rfl
  have e125 : ((125 : UInt8).toNat : Int) = 125 := rfl
  rw [e32, e10, e13, e9, e44, e93, e125]
  rcases hb with hb | hb | hb | hb
  · unfold isBlank at hb
    simp only [Bool.or_eq_true, beq_iff_eq, decide_eq_true_eq] at hb
    omega
  · omega
  · omega
  · omega
/-- An element. -/
theorem echain_at {s : ByteArray} {n E : Nat} : ∀ {qs : List Pl} {off i : Nat} {q : Pl}, EChain s n E off qs → qs[i]? = some q → ∃ off', off ≤ off' ∧ Rdv s n off' q ∧ q.e < E ∧ (bt s (L.skip isBlank s q.e) = 93 ∨ bt s (L.skip isBlank s q.e) = 44)
  | [], _, _, _, h, _ => by cases h
  | [p], off, i, q, h, hq => by
    cases i with
    | zero =>
      simp only [List.getElem?_cons_zero, Option.some.injEq] at hq
      subst hq
      have h1 := skip_le isBlank s p.e
      exact ⟨off, Nat.le_refl _, h.1, by have := h.2.2; omega, .inl h.2.1⟩
    | succ i => cases hq
  | p :: r :: qs, off, i, q, h, hq => by
    cases i with
    | zero =>
      simp only [List.getElem?_cons_zero, Option.some.injEq] at hq
      subst hq
      have h1 := skip_le isBlank s p.e
      have h2 := h.2.2.head
      obtain ⟨off', g1, g2, g3, g4⟩ := echain_at (i := 0) h.2.2 rfl
      have h3 := skip_le isBlank s (L.skip isBlank s p.e + 1)
      have h4 := h2.2.2.2.1
      have h5 := h2.2.2.2.2.2.1
      exact ⟨off, Nat.le_refl _, h.1, by omega, .inr h.2.1⟩
    | succ i =>
      rw [List.getElem?_cons_succ] at hq
      obtain ⟨off', g1, g2, g3, g4⟩ := echain_at h.2.2 hq
      have h1 := skip_le isBlank s p.e
      have h2 := h.head
      have h3 := skip_le isBlank s off
      have h4 := h2.2.2.2.1
      have h5 := h2.2.2.2.2.2.1
      exact ⟨off', by omega, g2, g3, g4⟩
/-- A member's value. -/
theorem mchain_at {s : ByteArray} {n E : Nat} : ∀ {qs : List Pl} {ns : List (Nat × Nat)} {off i : Nat} {q : Pl}, MChain s n E off ns qs → qs[i]? = some q → ∃ off', off ≤ off' ∧ Rdv s n off' q ∧ q.e < E ∧ (bt s (L.skip isBlank s q.e) = 125 ∨ bt s (L.skip isBlank s q.e) = 44)
  | [], ns, _, _, _, h, _ => by
    cases ns with
    | nil => cases h
    | cons a b => cases b <;> cases h
  | [p], ns, off, i, q, h, hq => by
    match ns, h with
    | [x], h =>
      cases i with
      | zero =>
        simp only [List.getElem?_cons_zero, Option.some.injEq] at hq
        subst hq
        have h1 := skip_le isBlank s p.e
        have h2 := h.1.pos
        exact ⟨_, by omega, h.1.2.2.2.2.2.2.2, by have := h.2.2; omega, .inl h.2.1⟩
      | succ i => cases hq
  | p :: r :: qs, ns, off, i, q, h, hq => by
    match ns, h with
    | x :: y :: ns, h =>
      have h1 := skip_le isBlank s p.e
      have h2 := h.1.pos
      cases i with
      | zero =>
        simp only [List.getElem?_cons_zero, Option.some.injEq] at hq
        subst hq
        obtain ⟨off', g1, g2, g3, g4⟩ := mchain_at (i := 0) h.2.2 rfl
        have h3 := skip_le isBlank s off'
        have h4 := g2.2.2.2.1
        have h5 := g2.2.2.2.2.2.1
        exact ⟨_, by omega, h.1.2.2.2.2.2.2.2, by omega, .inr h.2.1⟩
      | succ i =>
        rw [List.getElem?_cons_succ] at hq
        obtain ⟨off', g1, g2, g3, g4⟩ := mchain_at h.2.2 hq
        exact ⟨off', by omega, g2, g3, g4⟩
/-- A value in another: where it stands, and what follows. -/
theorem leads_at {s : ByteArray} {p r : Pl} {ks : List ByteArray} (h : Leads s p ks r) : ∀ {n off : Nat}, Rdv s n off p → ∃ n' off', Rdv s n' off' r ∧ p.b ≤ r.b ∧ r.e ≤ p.e ∧ (ks ≠ [] → r.e < p.e ∧ Fol ((tx s).drop r.e)) := by
  induction h with
  | nil p => exact fun hr => ⟨_, _, hr, Nat.le_refl _, Nat.le_refl _, fun h => absurd rfl h⟩
  | obj hk hb hx hn hu hq hl ih =>
    rename_i p q r key ks i x
    intro n off hr
    have hv := hr.2.2.1
    rw [← hr.2.2.2.1] at hv
    cases n with
    | zero => cases hv
    | succ n =>
      obtain ⟨o1, o2, o3⟩ := obj_in hv hk
      rcases o3 with ⟨o3, -⟩ | o3
      · rw [o3] at hx; cases hx
      · obtain ⟨off', g1, g2, g3, g4⟩ := mchain_at o3 hq
        have h3 := skip_le isBlank s off'
        have h4 := g2.2.2.2.1
        obtain ⟨n', off2, k1, k2, k3, k4⟩ := ih g2
        refine ⟨n', off2, k1, by omega, by omega, fun _ => ?_⟩
        cases ks with
        | nil =>
          cases hl
          exact ⟨g3, fol_tok g2.2.2.2.2.1 (by rcases g4 with g4 | g4 <;> simp [g4])⟩
        | cons a b => have := k4 (by simp); exact ⟨by omega, this.2⟩
  | arr hk hi hq hl ih =>
    rename_i p q r key ks i
    intro n off hr
    have hv := hr.2.2.1
    rw [← hr.2.2.2.1] at hv
    cases n with
    | zero => cases hv
    | succ n =>
      obtain ⟨o1, o2, o3⟩ := arr_in2 (by have := hr.2.1; have := hr.2.2.2.1; omega) hv hk
      rcases o3 with ⟨o3, -⟩ | ⟨-, o3⟩
      · rw [o3] at hq; cases hq
      · obtain ⟨off', g1, g2, g3, g4⟩ := echain_at o3 hq
        have h3 := skip_le isBlank s off'
        have h4 := g2.2.2.2.1
        obtain ⟨n', off2, k1, k2, k3, k4⟩ := ih g2
        refine ⟨n', off2, k1, by omega, by omega, fun _ => ?_⟩
        cases ks with
        | nil =>
          cases hl
          exact ⟨g3, fol_tok g2.2.2.2.2.1 (by rcases g4 with g4 | g4 <;> simp [g4])⟩
        | cons a b => have := k4 (by simp); exact ⟨by omega, this.2⟩
theorem echain_many {s : ByteArray} {n E : Nat} : ∀ {qs : List Pl} {off : Nat}, EChain s n E off qs → off + qs.length ≤ E
  | [], _, h => by cases h
  | [q], off, h => by
    have h1 := skip_le isBlank s q.e
    have h2 := h.2.2
    have h3 := h.head
    have h4 := skip_le isBlank s off
    have h5 := h3.2.2.2.1
    have h6 := h3.2.2.2.2.2.1
    simp only [List.length_cons, List.length_nil]
    omega
  | q :: r :: qs, off, h => by
    have ih := echain_many h.2.2
    have h1 := skip_le isBlank s q.e
    have h3 := h.head
    have h4 := skip_le isBlank s off
    have h5 := h3.2.2.2.1
    have h6 := h3.2.2.2.2.2.1
    rw [List.length_cons]
    omega
theorem skip_fix {s : ByteArray} {n off : Nat} {q : Pl} (h : Rdv s n off q) : L.skip isBlank s q.b = q.b := by
  have hl := h.2.1
  obtain ⟨c, hc, h2, _⟩ := tx_at s (L.skip isBlank s off) hl
  have hnb : blankB c = false := skip_head (s := s) (i := off) (c := c) h2 hl
  rw [h.2.2.2.1, skip_tw s (i := L.skip isBlank s off) (Nat.le_refl _), hc, List.takeWhile_cons, if_neg (by rw [hnb]; decide)]
  rfl
/-- An array on the way: its elements, and the one that the next key leads to. -/
theorem path_arr {s : ByteArray} {W : Nat} {ks : List ByteArray} {r : Pl} {l c n off : Nat} {p : Pl} (hW : W ≤ s.size) (hp : PathHere s W ks r l c p n off) (h5 : p.kind = 5) :
    ∃ (key : ByteArray) (i : Nat) (q : Pl) (nf : Nat), ks[l]? = some key ∧ brk key = some i ∧ p.kids[i]? = some q ∧ bt s c = 91 ∧ bt s (L.skip isBlank s (c + 1)) ≠ 93 ∧ EChain s nf p.e (c + 1) p.kids ∧ p.e ≤ W ∧ i < s.size ∧ p.kids.length ≤ s.size ∧ c + 1 ≤ q.b ∧ q.b < q.e ∧ q.e < p.e ∧
      (ks.drop (l + 1) ≠ [] → Stand s q.e (ks.drop (l + 1)) r 0 0 true q.b) ∧ (ks.drop (l + 1) = [] → r = q) ∧ L.skip isBlank s q.b = q.b ∧ r.b ≤ s.size := by
  have hpb := hp.b
  have hpe := hp.le
  have hr := hp.rd
  have hway := hp.way
  have hv := hr.2.2.1
  rw [← hr.2.2.2.1, hpb] at hv
  generalize hks : ks.drop l = kl at hway
  cases hway with
  | nil =>
    have := congrArg List.length hks
    have h2 := hp.lt
    simp only [List.length_drop, List.length_nil] at this
    omega
  | obj hk => rw [h5] at hk; cases hk
  | arr hk hi hq hl =>
    rename_i q key ks' i
    obtain ⟨d1, d2⟩ := drop_cons hks
    cases n with
    | zero => cases hv
    | succ n =>
      have hcs : c ≤ s.size := by have := hr.2.1; have := hr.2.2.2.1; omega
      obtain ⟨o1, o2, o3⟩ := arr_in2 hcs hv hk
      rcases o3 with ⟨o3, -⟩ | ⟨o4, o3⟩
      · rw [o3] at hq; cases hq
      · obtain ⟨off', g1, g2, g3, g4⟩ := echain_at o3 hq
        have hlen := echain_many o3
        have hil := (List.getElem?_eq_some_iff.1 hq).1
        have h3 := skip_le isBlank s off'
        have h4 := g2.2.2.2.1
        have h6 := g2.2.2.2.2.2.1
        rw [← d2] at hl
        refine ⟨key, i, q, n, d1, hi, hq, o1, o4, o3, hpe, by omega, by omega, by omega, h6, g3, fun hne => ?_, fun he => ?_, skip_fix g2, ?_⟩
        · exact ⟨q.b, Nat.le_refl _, nls_nil (Nat.le_refl _), Core.path (List.length_pos_iff.2 hne) g2 (Nat.le_refl _) (by rw [List.drop_zero]; exact hl)⟩
        · rw [he] at hl; cases hl; rfl
        · obtain ⟨n', off2, k1, -, -, -⟩ := leads_at hl g2
          have := k1.2.2.2.2.1
          have := k1.2.2.2.2.2.1
          omega
/-- What Get takes the value for, to which keys lead. -/
theorem gty_lead {s : ByteArray} {p r : Pl} {ks : List ByteArray} {n off : Nat} (sq : Bool) (hr : Rdv s n off p) (h : Leads s p ks r) (h0 : ks ≠ []) :
    gty sq ((tx s).drop r.b) = .ok (jk r.kind) (r.e - r.b) ∧ p.b ≤ r.b ∧ r.b < r.e ∧ r.e < p.e ∧ r.e ≤ s.size ∧ r.kind ≤ 6 ∧ (r.kind = 4 → r.b + 2 ≤ r.e) := by
  obtain ⟨n', off', k1, k2, k3, k4⟩ := leads_at h hr
  obtain ⟨k5, k6⟩ := k4 h0
  obtain ⟨r1, r2, r3, r4, r5, r6, r7, r8⟩ := k1
  rw [← r4] at r3
  have hg := gty_val sq (by omega) r3 ((tx s).drop r.e) (fun _ => k6)
  rw [← seg_drop (by omega) r5] at hg
  exact ⟨hg, k2, r6, k5, r5, r7, r8⟩
end Go.Proofs.YtkdkdhcjpgmjdaaGreatDoor.Jp
