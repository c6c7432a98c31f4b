/- ArrayEach over an array that is cut off, in plain Lean: no program in sight. -/
import Derived.Test.YtcjgneomcnholaaDoorJpCutP
import Derived.Test.YtcjgneomcnholaaDoorJpLawS
namespace Go.Proofs.YtcjgneomcnholaaDoor.Jp
open L
set_option linter.unusedVariables false
set_option linter.unusedSimpArgs false
set_option linter.unusedSectionVars false

/-- The next token behind i, in the text cut off at m. -/
theorem nxt_take {s : ByteArray} {i m : Nat} (hi : i ≤ s.size) (hl : L.skip isBlank s i < s.size) :
    (m ≤ L.skip isBlank s i → nxt (((tx s).take m).drop i) = none) ∧ (L.skip isBlank s i < m → nxt (((tx s).take m).drop i) = some (L.skip isBlank s i - i)) := by
  have hle := skip_le isBlank s i
  have hbl := skip_blanks hi
  have hbl_len := seg_len (s := s) (i := i) (j := L.skip isBlank s i) (by omega)
  obtain ⟨c, hc, h2, _⟩ := tx_at s _ hl
  have hnb : blankB c = false := skip_head (s := s) (i := i) (c := c) h2 hl
  have hsplit : (tx s).drop i = seg s i (L.skip isBlank s i) ++ (tx s).drop (L.skip isBlank s i) := by
    rw [← seg_drop hle (by omega)]
  refine ⟨fun hm => ?_, fun hm => ?_⟩
  · rw [take_drop, hsplit, List.take_append_of_le_length (by rw [hbl_len]; omega)]
    have e := tw_app (p := blankB) (a := (seg s i (L.skip isBlank s i)).take (m - i)) (r := []) (fun c hc => hbl c (List.mem_of_mem_take hc)) (.inl rfl)
    rw [List.append_nil] at e
    unfold nxt
    rw [e, if_neg (by omega)]
  · rw [take_drop, hsplit, List.take_append, List.take_of_length_le (by rw [hbl_len]; omega), hbl_len, hc, take_cons (by omega)]
    have e := tw_app (p := blankB) (a := seg s i (L.skip isBlank s i)) (r := c :: ((tx s).drop (L.skip isBlank s i + 1)).take (m - i - (L.skip isBlank s i - i) - 1)) hbl (.inr ⟨c, _, rfl, hnb⟩)
    unfold nxt
    rw [e, if_pos (by simp), hbl_len]

/-- The four cells that a call back lays. -/
abbrev fd4 (r : ByteArray) (dt x : Int) : List Value := [.string ⟨#[]⟩, .string r, .int .i64 dt, .int .i64 x]
/-- What has been laid of the kids ds. -/
inductive Told (S : ByteArray) : List Pl → List Value → Prop
  | nil : Told S [] []
  | snoc {ds : List Pl} {xs : List Value} {q : Pl} {x : Int} (h : Told S ds xs) : Told S (ds ++ [q]) (xs ++ fd4 (rawAt S q.kind q.b q.e) (jk q.kind : Int) x)
theorem Told.len {S : ByteArray} {ds : List Pl} {xs : List Value} (h : Told S ds xs) : xs.length = ds.length * 4 := by
  induction h with
  | nil => rfl
  | snoc h ih => simp only [List.length_append, ih, List.length_cons, List.length_nil]; omega
theorem Told.at_ {S : ByteArray} {ds : List Pl} {xs : List Value} (h : Told S ds xs) : ∀ {k : Nat} {q : Pl}, ds[k]? = some q → xs[k * 4 + 1]? = some (.string (rawAt S q.kind q.b q.e)) ∧ xs[k * 4 + 2]? = some (.int .i64 (jk q.kind : Int)) := by
  induction h with
  | nil => intro k q h; cases h
  | snoc h ih =>
    rename_i ds xs q0 x
    intro k q hk
    have hl := h.len
    by_cases hlt : k < ds.length
    · rw [List.getElem?_append_left hlt] at hk
      obtain ⟨h1, h2⟩ := ih hk
      rw [List.getElem?_append_left (by omega), List.getElem?_append_left (by omega)]
      exact ⟨h1, h2⟩
    · have hk2 : k = ds.length := by
        have := (List.getElem?_eq_some_iff.1 hk).1
        simp at this; omega
      subst hk2
      rw [List.getElem?_append_right (Nat.le_refl _), Nat.sub_self] at hk
      simp only [List.getElem?_cons_zero, Option.some.injEq] at hk
      subst hk
      rw [List.getElem?_append_right (by omega), List.getElem?_append_right (by omega), hl, Nat.add_sub_cancel_left, Nat.add_sub_cancel_left]
      exact ⟨rfl, rfl⟩
/-- The calls over an array cut off at m: those of the kids that end ahead of m, in turn, and one more at most. -/
def Had (S : ByteArray) (m : Nat) (kids : List Pl) (n : Nat) (xs : List Value) : Prop :=
  ∃ ds r ys, kids = ds ++ r ∧ Told S ds ys ∧ (∀ q ∈ ds, q.e < m) ∧ (∀ q, r.head? = some q → m ≤ q.e) ∧
    ((n = ds.length ∧ xs = ys) ∨ (n = ds.length + 1 ∧ ∃ r dt x, xs = ys ++ fd4 r dt x))
theorem Had.more {S : ByteArray} {m : Nat} {kids ds qs : List Pl} {q : Pl} {xs : List Value} (h1 : kids = ds ++ q :: qs) (h2 : Told S ds xs) (h3 : ∀ p ∈ ds, p.e < m) (h4 : m ≤ q.e) (r : ByteArray) (dt x : Int) : Had S m kids (ds.length + 1) (xs ++ fd4 r dt x) :=
  ⟨ds, q :: qs, xs, h1, h2, h3, (fun q' h => by simp only [List.head?_cons, Option.some.injEq] at h; subst h; exact h4), Or.inr ⟨rfl, r, dt, x, rfl⟩⟩
theorem Had.same {S : ByteArray} {m : Nat} {kids ds qs : List Pl} {q : Pl} {xs : List Value} (h1 : kids = ds ++ q :: qs) (h2 : Told S ds xs) (h3 : ∀ p ∈ ds, p.e < m) (h4 : m ≤ q.e) : Had S m kids ds.length xs :=
  ⟨ds, q :: qs, xs, h1, h2, h3, (fun q' h => by simp only [List.head?_cons, Option.some.injEq] at h; subst h; exact h4), Or.inl ⟨rfl, rfl⟩⟩
theorem cutGt_ok {k m dt k' : Nat} (h : cutGt k m = .ok dt k') : k' = m := by
  unfold cutGt at h
  repeat' split at h
  all_goals first
    | (cases h; rfl)
    | (exfalso; cases h)
theorem raw_take {S t : ByteArray} {m : Nat} (ht : t = S.extract 0 m) {k b e : Nat} (he : e ≤ m) (hb : b < e) : rawAt t k b e = rawAt S k b e := by
  subst ht
  unfold rawAt
  split
  · rw [ByteArray.extract_extract]; congr 1 <;> omega
  · rw [ByteArray.extract_extract]; congr 1 <;> omega
/-- One element of an array cut off at m, begun ahead of m. -/
theorem roundP {S t : ByteArray} {nf E m o : Nat} {kids ds qs : List Pl} {q : Pl} {xs : List Value} (ht : t = S.extract 0 m) (hm : m = t.size) (hmE : m < E) (hES : E ≤ S.size)
    (hec : EChain S nf E (o + 1) (q :: qs)) (hkd : kids = ds ++ q :: qs) (htd : Told S ds xs) (hds : ∀ p ∈ ds, p.e < m) (hot : o + 1 ≤ m) (hmb : q.b < m) :
    (∃ d dt err, getT false (tx (t.extract (o + 1) t.size)) = some (d, .no dt err) ∧ m ≤ q.e) ∨
    (∃ d dt k f y, getT false (tx (t.extract (o + 1) t.size)) = some (d, .ok dt k) ∧ d + k = y ∧ o + 1 + y = f + 1 ∧ f + 1 ≤ m ∧ 0 < y ∧ nxt (tx (t.extract (f + 1) t.size)) = none ∧
      ∀ x : Int, Had S m kids (ds.length + 1) (xs ++ fd4 (rawOf (t.extract (o + 1) t.size) dt d k) (dt : Int) x)) ∨
    (∃ d dt k f y u r qs', getT false (tx (t.extract (o + 1) t.size)) = some (d, .ok dt k) ∧ d + k = y ∧ o + 1 + y = f + 1 ∧ f + 1 ≤ m ∧ 0 < y ∧ nxt (tx (t.extract (f + 1) t.size)) = some u ∧ f + 1 + u < m ∧ bt S ((f + 1 + u : Nat)) = 44 ∧
      qs = r :: qs' ∧ EChain S nf E (f + 1 + u + 1) (r :: qs') ∧ q.e < m ∧ ∀ x : Int, Told S (ds ++ [q]) (xs ++ fd4 (rawOf (t.extract (o + 1) t.size) dt d k) (dt : Int) x)) := by
  have htx : tx t = (tx S).take m := by rw [ht, tx_cut, List.drop_zero, Nat.sub_zero]
  have hX : ∀ j, tx (t.extract j t.size) = ((tx S).take m).drop j := fun j => by rw [tx_ext, htx]
  obtain ⟨r1, r2, r3, r4, r5, r6, r7, r8⟩ := hec.head
  have hob : o + 1 ≤ q.b := by rw [r4]; exact skip_le isBlank S (o + 1)
  have hg := getT_kid (s := S) (n := nf) (i := o + 1) (m := m) (p := q) false r1 r2 r3
  rw [← r4, ← hX] at hg
  by_cases hme : m < q.e
  · have h2 := hg.2.1 hmb hme
    cases hc : cutGt q.kind (m - q.b) with
    | no dt err => rw [hc] at h2; exact .inl ⟨_, dt, err, h2, by omega⟩
    | ok dt k =>
      obtain rfl := cutGt_ok hc
      rw [hc] at h2
      refine .inr (.inl ⟨_, dt, _, m - 1, m - (o + 1), h2, by omega, by omega, by omega, by omega, ?_, fun x => Had.more hkd htd hds (by omega) _ _ _⟩)
      rw [hX, show m - 1 + 1 = m by omega, List.drop_of_length_le (by rw [List.length_take]; omega)]
      rfl
  · have h2 := hg.2.2 (by omega) (fun hk => .inr (echain_fol hec))
    have hraw : rawOf (t.extract (o + 1) t.size) (jk q.kind) (q.b - (o + 1)) (q.e - q.b) = rawAt S q.kind q.b q.e := by
      rw [raw_cut t hob r6 (by omega) r7 r8, raw_take ht (by omega) r6]
    have hsk : L.skip isBlank S q.e < S.size := by
      cases qs with
      | nil => have := hec.2.2; omega
      | cons r qs' => exact lt_of_bt (by rw [hec.2.1]; omega)
    have hle := skip_le isBlank S q.e
    have hn := nxt_take (s := S) (i := q.e) (m := m) r5 hsk
    rw [← hX] at hn
    by_cases hsm : m ≤ L.skip isBlank S q.e
    · refine .inr (.inl ⟨_, jk q.kind, _, q.e - 1, q.e - (o + 1), h2, by omega, by omega, by omega, by omega, ?_, fun x => ?_⟩)
      · rw [show q.e - 1 + 1 = q.e by omega]; exact hn.1 hsm
      · rw [hraw]
        by_cases hq : m ≤ q.e
        · exact Had.more hkd htd hds hq _ _ _
        · refine ⟨ds ++ [q], qs, _, by rw [hkd]; simp, .snoc (x := x) htd, ?_, ?_, .inl ⟨by simp, rfl⟩⟩
          · intro p hp
            rcases List.mem_append.1 hp with hp | hp
            · exact hds p hp
            · simp only [List.mem_singleton] at hp; subst hp; omega
          · intro r hr
            cases qs with
            | nil => cases hr
            | cons r' qs' =>
              simp only [List.head?_cons, Option.some.injEq] at hr
              subst hr
              obtain ⟨s1, s2, s3, s4, s5, s6, -⟩ := (show EChain S nf E (L.skip isBlank S q.e + 1) (r' :: qs') from hec.2.2).head
              have := skip_le isBlank S (L.skip isBlank S q.e + 1)
              omega
    · cases qs with
      | nil => have := hec.2.2; omega
      | cons r qs' =>
        refine .inr (.inr ⟨_, jk q.kind, _, q.e - 1, q.e - (o + 1), L.skip isBlank S q.e - q.e, r, qs', h2, by omega, by omega, by omega, by omega, ?_, by omega, ?_, rfl, ?_, by omega, fun x => ?_⟩)
        · rw [show q.e - 1 + 1 = q.e by omega]; exact hn.2 (by omega)
        · rw [show q.e - 1 + 1 + (L.skip isBlank S q.e - q.e) = L.skip isBlank S q.e by omega]; exact hec.2.1
        · rw [show q.e - 1 + 1 + (L.skip isBlank S q.e - q.e) = L.skip isBlank S q.e by omega]; exact hec.2.2
        · rw [hraw]; exact .snoc htd
end Go.Proofs.YtcjgneomcnholaaDoor.Jp
