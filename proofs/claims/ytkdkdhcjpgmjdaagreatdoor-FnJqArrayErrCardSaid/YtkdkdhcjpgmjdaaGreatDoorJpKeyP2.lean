/- How a search for keys goes on, in plain Lean: no program in sight. -/
import Derived.Test.YtkdkdhcjpgmjdaaGreatDoorJpKeyP
namespace Go.Proofs.YtkdkdhcjpgmjdaaGreatDoor.Jp
open L
set_option linter.unusedVariables false
set_option linter.unusedSimpArgs false
set_option linter.unusedSectionVars false

/-- Bytes to be passed over from a on, then where the search stands. -/
def Stand (s : ByteArray) (W : Nat) (ks : List ByteArray) (r : Pl) (l kl : Nat) (lm : Bool) (a : Nat) : Prop := ∃ c, a ≤ c ∧ Nls s a c ∧ Core s W ks r l kl lm c
variable {s : ByteArray} {W : Nat} {ks : List ByteArray} {r : Pl} {l kl : Nat} {lm : Bool}
theorem Stand.blank {a : Nat} (h : Core s W ks r l kl lm (L.skip isBlank s a)) : Stand s W ks r l kl lm a := ⟨_, skip_le isBlank s a, nls_skip nln_blank a, h⟩
theorem Stand.back {a b : Nat} (h : Stand s W ks r l kl lm b) (hab : a ≤ b) (hn : Nls s a b) : Stand s W ks r l kl lm a := by
  obtain ⟨c, h1, h2, h3⟩ := h
  exact ⟨c, by omega, nls_app hn h2, h3⟩
theorem core_lt {c : Nat} (h : Core s W ks r l kl lm c) : c < W := by
  induction h with
  | path hlt hr hW hl => have := hr.2.2.2.2.2.1; omega
  | name hkey hm hW hx hn hu hq hl =>
    obtain ⟨x, ns', q, qs', rfl, rfl, hmb⟩ := hm.cons
    have h1 := hm.end_
    have h2 := h1.2.1 q qs' rfl
    have h3 := hmb.pos
    have h4 := hmb.2.1
    have h5 := skip_le isBlank s q.e
    omega
  | val hr hk hc h ih =>
    rename_i q0 lm
    have h1 := hr.2.2.2.2.2.1
    have h2 := skip_le isBlank s q0.e
    have h3 := skip_le isBlank s (L.skip isBlank s q0.e + 1)
    omega
theorem win_split {c e : Nat} (h1 : c ≤ e) (h2 : e ≤ W) (h3 : W ≤ s.size) : ((tx s).take W).drop c = seg s c e ++ ((tx s).take W).drop e := by
  unfold seg
  rw [List.drop_take, List.drop_take, ← List.take_append_drop (e - c) (((tx s).drop c).take (W - c)), List.take_take, List.drop_take, List.drop_drop, show c + (e - c) = e by omega]
  congr 2
  · omega
  · omega
theorem drop_cons {ks : List ByteArray} {l : Nat} {key : ByteArray} {ks' : List ByteArray} (h : ks.drop l = key :: ks') : ks[l]? = some key ∧ ks.drop (l + 1) = ks' := by
  constructor
  · have := congrArg List.head? h
    rw [List.head?_drop] at this
    exact this
  · have := congrArg List.tail h
    rw [List.tail_drop] at this
    exact this
/-- A name stands here. -/
structure NameHere (s : ByteArray) (W : Nat) (ks : List ByteArray) (r : Pl) (l c : Nat) (x : Nat × Nat) (key : ByteArray) : Prop where
  at_ : x.1 = c
  q : bt s c = 34
  str : strAt s c = some x.2
  lt : c + 1 < x.2
  colon : bt s (L.skip isBlank s x.2) = 58
  le : x.2 ≤ L.skip isBlank s x.2
  lw : L.skip isBlank s x.2 < W
  ky : ks[l]? = some key
  hit : nameOf s x = key → (ks.length = l + 1 → L.skip isBlank s (L.skip isBlank s x.2 + 1) = r.b) ∧ (ks.length ≠ l + 1 → Stand s W ks r (l + 1) (l + 1) true (L.skip isBlank s x.2 + 1))
  miss : nameOf s x ≠ key → Stand s W ks r (l + 1) l false (L.skip isBlank s x.2 + 1)
/-- A value that is no one's stands here. -/
structure ValHere (s : ByteArray) (W : Nat) (ks : List ByteArray) (r : Pl) (l c e : Nat) (k : Nat) : Prop where
  lt : c < e
  le : L.skip isBlank s e < W
  es : e ≤ L.skip isBlank s e
  str : k = 4 → bt s c = 34 ∧ strAt s c = some e ∧ bt s (L.skip isBlank s e) = 44
  obj : k = 6 → bt s c = 123 ∧ ∀ sq t, blk sq 123 125 0 (seg s c e ++ t) = some (e - c)
  arr : k = 5 → bt s c = 91 ∧ ∀ sq t, blk sq 91 93 0 (seg s c e ++ t) = some (e - c)
  next : Stand s W ks r (l + 1) l false e
  next' : Stand s W ks r (l + 1) l false (L.skip isBlank s e)
/-- The value that keys lead to, or into, stands here. -/
structure PathHere (s : ByteArray) (W : Nat) (ks : List ByteArray) (r : Pl) (l c : Nat) (p : Pl) (n off : Nat) : Prop where
  b : p.b = c
  lt : l < ks.length
  rd : Rdv s n off p
  le : p.e ≤ W
  way : Leads s p (ks.drop l) r
  two : p.kind = 5 ∨ p.kind = 6
  obj : p.kind = 6 → bt s c = 123 ∧ Stand s W ks r (l + 1) l true (c + 1)
theorem core_name {c n E off i : Nat} {ns : List (Nat × Nat)} {qs : List Pl} {q : Pl} {x : Nat × Nat} {key : ByteArray} (hW0 : W ≤ s.size) (hkey : ks[l]? = some key) (hm : MChain s n E off ns qs) (hW : E ≤ W) (hx : ns[i]? = some x) (hn : nameOf s x = key)
    (hu : ∀ j y, j < i → ns[j]? = some y → nameOf s y ≠ key) (hq : qs[i]? = some q) (hl : Leads s q (ks.drop (l + 1)) r) (hc : L.skip isBlank s off = c) : ∃ y, NameHere s W ks r l c y key := by
  obtain ⟨y, ns', q', qs', rfl, rfl, hmb⟩ := hm.cons
  have h1 := hm.end_
  have h2 := h1.2.1 q' qs' rfl
  have h3 := hmb.pos
  have h5 := skip_le isBlank s q'.e
  obtain ⟨m1, m2, m3, m4, m5, m6, m7, m8⟩ := hmb
  have hl1 : l < ks.length := (List.getElem?_eq_some_iff.1 hkey).1
  refine ⟨y, by omega, by rw [← hc, m2]; exact m3, by rw [← hc, m2]; exact m4, by omega, m7, h3.2.2.1, by omega, hkey, fun hy => ?_, fun hy => ?_⟩
  · have hi : i = 0 := by
      rcases Nat.eq_zero_or_pos i with h | h
      · exact h
      · exact absurd hy (hu 0 y h rfl)
    subst hi
    simp only [List.getElem?_cons_zero, Option.some.injEq] at hx hq
    subst hx hq
    refine ⟨fun he => ?_, fun he => ?_⟩
    · rw [List.drop_eq_nil_of_le (by omega)] at hl
      cases hl
      exact m8.2.2.2.1.symm
    · refine Stand.blank ?_
      rw [← m8.2.2.2.1]
      exact Core.path (by omega) m8 (by omega) hl
  · obtain ⟨i', rfl⟩ : ∃ i', i = i' + 1 := by
      cases i with
      | zero => simp only [List.getElem?_cons_zero, Option.some.injEq] at hx; subst hx; exact absurd hn hy
      | succ i' => exact ⟨i', rfl⟩
    rw [List.getElem?_cons_succ] at hx hq
    have hch : bt s (L.skip isBlank s q'.e) = 44 ∧ MChain s n E (L.skip isBlank s q'.e + 1) ns' qs' := by
      cases ns' with
      | nil => cases hx
      | cons z zs =>
        cases qs' with
        | nil => cases hq
        | cons w ws => exact hm.2
    have hcore : Core s W ks r (l + 1) l false (L.skip isBlank s (L.skip isBlank s q'.e + 1)) :=
      Core.name hkey hch.2 hW hx hn (fun j z hj hz => hu (j + 1) z (by omega) (by rw [List.getElem?_cons_succ]; exact hz)) hq hl
    by_cases hk : q'.kind ≤ 3
    · have hv := m8.2.2.1
      have hb := m8.2.2.2.1
      refine Stand.back (Stand.blank hcore) (by omega) ?_
      have n1 : Nls s (L.skip isBlank s y.2 + 1) q'.b := by rw [hb]; exact nls_skip nln_blank _
      have n2 : Nls s q'.b q'.e := by rw [hb]; exact nls_val hv hk
      have n3 : Nls s q'.e (L.skip isBlank s q'.e) := nls_skip nln_blank _
      have n4 : Nls s (L.skip isBlank s q'.e) (L.skip isBlank s q'.e + 1) := nls_one hch.1 (by decide)
      exact nls_app (nls_app (nls_app n1 n2) n3) n4
    · refine Stand.blank ?_
      rw [← m8.2.2.2.1]
      exact Core.val (lm := false) m8 (by omega) hch.1 hcore
theorem core_val {n off : Nat} {q0 : Pl} (hr : Rdv s n off q0) (hk : 4 ≤ q0.kind) (hc : bt s (L.skip isBlank s q0.e) = 44) (h : Core s W ks r (l + 1) l false (L.skip isBlank s (L.skip isBlank s q0.e + 1))) : ValHere s W ks r l q0.b q0.e q0.kind := by
  have h1 := core_lt h
  have h2 := skip_le isBlank s q0.e
  have h3 := skip_le isBlank s (L.skip isBlank s q0.e + 1)
  have hv := vok _ _ _ _ (by have := hr.2.1; omega) hr.2.2.1
  obtain ⟨v1, v2, v3, v4, v5, v6, v7, v8, v9, v10⟩ := hv
  rw [← v4] at v6 v7 v8
  have n3 : Nls s q0.e (L.skip isBlank s q0.e) := nls_skip nln_blank _
  have n4 : Nls s (L.skip isBlank s q0.e) (L.skip isBlank s q0.e + 1) := nls_one hc (by decide)
  have st : Stand s W ks r (l + 1) l false (L.skip isBlank s q0.e) := Stand.back (Stand.blank h) (by omega) n4
  refine ⟨hr.2.2.2.2.2.1, by omega, h2, fun h4 => ⟨(v8 h4).1, ?_, hc⟩, v7, v6, Stand.back st h2 n3, st⟩
  have hvv := hr.2.2.1
  rw [← hr.2.2.2.1] at hvv
  cases n with
  | zero => cases hvv
  | succ n =>
    have h34 := (v8 h4).1
    unfold valN at hvv
    rw [if_neg (by omega), if_neg (by omega), if_pos h34] at hvv
    simp only [Option.map_eq_some_iff, Prod.mk.injEq] at hvv
    obtain ⟨a, g1, g2, -⟩ := hvv
    rw [g1, g2]
theorem core_path {n off : Nat} {p : Pl} (hlt : l < ks.length) (hr : Rdv s n off p) (hW : p.e ≤ W) (hl : Leads s p (ks.drop l) r) : PathHere s W ks r l p.b p n off := by
  refine ⟨rfl, hlt, hr, hW, hl, ?_, fun h6 => ?_⟩
  · generalize hd : ks.drop l = kd at hl
    cases hl with
    | nil =>
      have := congrArg List.length hd
      simp at this; omega
    | obj hk => exact .inr hk
    | arr hk => exact .inl hk
  · generalize hd : ks.drop l = kd at hl
    cases hl with
    | nil =>
      have := congrArg List.length hd
      simp at this; omega
    | arr hk => rw [hk] at h6; cases h6
    | obj hk hb hx hn hu hq hrest =>
      rename_i q key ks' i x
      obtain ⟨e1, e2⟩ := drop_cons hd
      have hv := hr.2.2.1
      rw [← hr.2.2.2.1] at hv
      cases n with
      | zero => cases hv
      | succ n =>
        obtain ⟨o1, o2, o3⟩ := obj_in hv hk
        refine ⟨o1, ?_⟩
        rcases o3 with ⟨o3, -⟩ | o3
        · rw [o3] at hx; cases hx
        · refine Stand.blank ?_
          exact Core.name e1 o3 hW hx hn (fun j y hj hy e => by have := hu j y hy e; omega) hq (by rw [e2]; exact hrest)
/-- What stands where a search stands. -/
theorem core_inv (hW0 : W ≤ s.size) {c : Nat} (h : Core s W ks r l kl lm c) :
    (l = kl ∧ lm = true ∧ ∃ p n off, PathHere s W ks r l c p n off) ∨ (l = kl + 1 ∧ ∃ x key, NameHere s W ks r kl c x key) ∨ (l = kl + 1 ∧ lm = false ∧ ∃ e k, 4 ≤ k ∧ k ≤ 6 ∧ ValHere s W ks r kl c e k) := by
  cases h with
  | path hlt hr hW hl => exact .inl ⟨rfl, rfl, _, _, _, core_path hlt hr hW hl⟩
  | name hkey hm hW hx hn hu hq hl => 
    obtain ⟨y, h⟩ := core_name hW0 hkey hm hW hx hn hu hq hl rfl
    exact .inr (.inl ⟨rfl, y, _, h⟩)
  | val hr hk hc h => exact .inr (.inr ⟨rfl, rfl, _, _, hk, hr.2.2.2.2.2.2.1, core_val hr hk hc h⟩)
end Go.Proofs.YtkdkdhcjpgmjdaaGreatDoor.Jp
