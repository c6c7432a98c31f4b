/- What matchTrimSuffix keeps, step by step. No program in sight. -/
import Derived.Test.YtmpjkhcddfdboaaDoorMtTxt
namespace Go.Proofs.YtmpjkhcddfdboaaDoor.M
open Go.Lib
set_option linter.unusedVariables false

/-- What is left of a text of the pieces ks and a pattern of a star and T: s and p, these of no more than P bytes. -/
def TrimI (ks : List (List UInt8)) (T : List Gl) (P : Nat) (s p : ByteArray) : Prop :=
  ∃ ks' js' T' q, Txt s ks' ∧ Txt p ([42] :: js') ∧ parse js' = some T' ∧ ks = ks' ++ q ∧ p.size ≤ P ∧ (Fit (ks.map ch) (.star :: T) ↔ Fit (ks'.map ch) (.star :: T'))
theorem TrimI.start {s p : ByteArray} {ks js : List (List UInt8)} {T : List Gl} (h : Txt s ks) (h' : Txt p ([42] :: js)) (hp : parse js = some T) : TrimI ks T p.size s p :=
  ⟨ks, js, T, [], h, h', hp, by simp, Nat.le_refl _, Iff.rfl⟩
structure TrimV (ks : List (List UInt8)) (T : List Gl) (P : Nat) (s p : ByteArray) (K0 : List (List UInt8)) (c : List UInt8) (R0 : List (List UInt8)) (z : List UInt8) (T' : List Gl) (q : List (List UInt8)) : Prop where
  hs : Txt s (K0 ++ [c])
  hp : Txt p (([42] :: R0) ++ [z])
  hpar : parse (R0 ++ [z]) = some T'
  hq : ks = K0 ++ ([c] ++ q)
  le : p.size ≤ P
  fit : Fit (ks.map ch) (.star :: T) ↔ Fit (K0.map ch ++ [ch c]) (.star :: T')
theorem last_of {α : Type} : ∀ (l : List α), l ≠ [] → ∃ a x, l = a ++ [x]
  | [], h => absurd rfl h
  | l, h => ⟨l.dropLast, l.getLast h, (List.dropLast_concat_getLast h).symm⟩
theorem TrimI.view {ks : List (List UInt8)} {T : List Gl} {P : Nat} {s p : ByteArray} (h : TrimI ks T P s p) (hs : 0 < s.size) (hp : 1 < p.size) : ∃ K0 c R0 z T' q, TrimV ks T P s p K0 c R0 z T' q := by
  obtain ⟨ks', js', T', q, h1, h2, h3, rfl, h5, h6⟩ := h
  obtain ⟨K0, c, rfl⟩ := last_of ks' (fun e => by have := h1.nil_iff.2 e; omega)
  have hj : js' ≠ [] := fun e => by
    have := h2.size
    rw [e] at this
    simp at this; omega
  obtain ⟨R0, z, rfl⟩ := last_of js' hj
  exact ⟨K0, c, R0, z, T', q, h1, h2, h3, by simp, h5, by simpa using h6⟩
theorem parse_star (R : List (List UInt8)) : parse ([42] :: R) = (parse R).map (.star :: ·) := parse_cons (by decide) R
section
variable {ks : List (List UInt8)} {T : List Gl} {P : Nat} {s p : ByteArray} {K0 : List (List UInt8)} {c : List UInt8} {R0 : List (List UInt8)} {z : List UInt8} {T' : List Gl} {q : List (List UInt8)} {Q : List (List UInt8)} {x : List UInt8} {i : Nat}
theorem TrimV.even (V : TrimV ks T P s p K0 c R0 z T' q) (hQ : [42] :: R0 = Q ++ [x] ++ List.replicate i [92]) (hx : x ≠ [92]) (hi : i % 2 = 0) : z ≠ [92] ∧ ∃ T0, parse R0 = some T0 ∧ T' = T0 ++ [glOf z] := by
  have h : parse (Q ++ [x] ++ List.replicate i [92] ++ [z]) = some (.star :: T') := by
    rw [← hQ, List.cons_append, parse_star, V.hpar]; rfl
  obtain ⟨hz, t0, h0, ht⟩ := (parse_last hx h).1 hi
  refine ⟨hz, ?_⟩
  rw [← hQ, parse_star] at h0
  obtain ⟨T0, hT0, rfl⟩ := Option.map_eq_some_iff.1 h0
  refine ⟨T0, hT0, ?_⟩
  simpa using ht
theorem TrimV.odd (V : TrimV ks T P s p K0 c R0 z T' q) (hQ : [42] :: R0 = Q ++ [x] ++ List.replicate i [92]) (hx : x ≠ [92]) (hi : i % 2 = 1) : ∃ R1 T0, R0 = R1 ++ [[92]] ∧ parse R1 = some T0 ∧ T' = T0 ++ [.chr (ch z)] := by
  have h : parse (Q ++ [x] ++ List.replicate i [92] ++ [z]) = some (.star :: T') := by
    rw [← hQ, List.cons_append, parse_star, V.hpar]; rfl
  obtain ⟨t0, h0, ht⟩ := (parse_last hx h).2 hi
  obtain ⟨m, rfl⟩ : ∃ m, i = m + 1 := ⟨i - 1, by omega⟩
  rw [Nat.add_sub_cancel] at h0
  rw [List.replicate_succ', ← List.append_assoc] at hQ
  generalize hB : Q ++ [x] ++ List.replicate m [92] = B at *
  cases B with
  | nil => simp at hB
  | cons b B =>
    simp only [List.cons_append, List.cons.injEq] at hQ
    obtain ⟨rfl, rfl⟩ := hQ
    rw [parse_star] at h0
    obtain ⟨T0, hT0, rfl⟩ := Option.map_eq_some_iff.1 h0
    exact ⟨B, T0, rfl, hT0, by simpa using ht⟩
theorem TrimV.cutS (V : TrimV ks T P s p K0 c R0 z T' q) : Txt (s.extract 0 (s.size - c.length)) K0 ∧ c.length ≤ s.size ∧ 0 < c.length := ⟨V.hs.init.1, V.hs.init.2.2, V.hs.init.2.1.pos⟩
theorem TrimV.cutP (V : TrimV ks T P s p K0 c R0 z T' q) : Txt (p.extract 0 (p.size - z.length)) ([42] :: R0) ∧ z.length ≤ p.size := ⟨V.hp.init.1, V.hp.init.2.2⟩
theorem ext_len (p : ByteArray) (n : Nat) : (p.extract 0 n).size ≤ p.size := by rw [ByteArray.size_extract]; omega
theorem ext_ext (p : ByteArray) (m n : Nat) (h : m ≤ n) : (p.extract 0 n).extract 0 m = p.extract 0 m := by
  apply ByteArray.ext
  apply Array.ext'
  rw [data_ext, data_ext, data_ext]
  simp only [List.drop_zero]
  rw [List.take_take, Nat.min_eq_left h]
/-- A question mark, and a character that is what is said. -/
theorem TrimV.one (V : TrimV ks T P s p K0 c R0 z T' q) {T0 : List Gl} (h0 : parse R0 = some T0) (hT : T' = T0 ++ [.one]) : TrimI ks T P (s.extract 0 (s.size - c.length)) (p.extract 0 (p.size - z.length)) :=
  ⟨K0, R0, T0, [c] ++ q, V.cutS.1, V.cutP.1, h0, V.hq, Nat.le_trans (ext_len _ _) V.le, by
    rw [V.fit, hT, ← List.cons_append, fit_snoc_one]⟩
theorem TrimV.chr (V : TrimV ks T P s p K0 c R0 z T' q) {T0 : List Gl} (h0 : parse R0 = some T0) (hT : T' = T0 ++ [.chr (ch z)]) (e : ch z = ch c) : TrimI ks T P (s.extract 0 (s.size - c.length)) (p.extract 0 (p.size - z.length)) :=
  ⟨K0, R0, T0, [c] ++ q, V.cutS.1, V.cutP.1, h0, V.hq, Nat.le_trans (ext_len _ _) V.le, by
    rw [V.fit, hT, ← List.cons_append, fit_snoc_chr]
    exact ⟨fun h => h.2, fun h => ⟨e, h⟩⟩⟩
theorem TrimV.esc (V : TrimV ks T P s p K0 c R0 z T' q) {R1 : List (List UInt8)} {T0 : List Gl} (hR : R0 = R1 ++ [[92]]) (h0 : parse R1 = some T0) (hT : T' = T0 ++ [.chr (ch z)]) (e : ch z = ch c) : TrimI ks T P (s.extract 0 (s.size - c.length)) (p.extract 0 (p.size - (z.length + 1))) := by
  have h1 := V.cutP.1
  rw [hR, ← List.cons_append] at h1
  have h2 := h1.init
  have hz := V.cutP.2
  have hsz : (p.extract 0 (p.size - z.length)).size = p.size - z.length := by rw [ByteArray.size_extract]; omega
  rw [hsz] at h2
  rw [ext_ext p _ _ (by simp)] at h2
  have e2 : p.size - z.length - [(92 : UInt8)].length = p.size - (z.length + 1) := by simp; omega
  rw [e2] at h2
  exact ⟨K0, R1, T0, [c] ++ q, V.cutS.1, h2.1, h0, V.hq, Nat.le_trans (ext_len _ _) V.le, by
    rw [V.fit, hT, ← List.cons_append, fit_snoc_chr]
    exact ⟨fun h => h.2, fun h => ⟨e, h⟩⟩⟩
theorem TrimV.no (V : TrimV ks T P s p K0 c R0 z T' q) {T0 : List Gl} (hT : T' = T0 ++ [.chr (ch z)]) (e : ch z ≠ ch c) : ¬ Fit (ks.map ch) (.star :: T) := by
  rw [V.fit, hT, ← List.cons_append, fit_snoc_chr]
  exact fun h => e h.1
/-- The byte ahead of i backslashes ahead of the last character. -/
theorem TrimV.byte (V : TrimV ks T P s p K0 c R0 z T' q) {Q' : List (List UInt8)} (hQ : [42] :: R0 = Q' ++ List.replicate i [92]) (hi : Q' ≠ []) :
    z.length + i + 1 ≤ p.size ∧ ∃ A y, Q' = A ++ [y] ∧ Enc y ∧ (p.data.toList.getD (p.size - (z.length + i + 1)) 0) = y.getD (y.length - 1) 0 := by
  obtain ⟨A, y, rfl⟩ := last_of Q' hi
  have hy : Enc y := V.hp.1 y (by rw [hQ]; simp)
  have hyp := hy.pos
  have hsz := V.hp.size
  rw [hQ] at hsz
  have hrep : ∀ m, (List.replicate m [(92 : UInt8)]).flatten.length = m := by
    intro m
    induction m with
    | zero => rfl
    | succ m ih => rw [List.replicate_succ]; simp only [List.flatten_cons, List.length_append, ih]; simp; omega
  simp only [List.flatten_append, List.length_append, hrep, List.flatten_cons, List.flatten_nil, List.append_nil] at hsz
  refine ⟨by omega, A, y, rfl, hy, ?_⟩
  have hd : p.data.toList = A.flatten ++ (y ++ ((List.replicate i [92]).flatten ++ z)) := by
    have := V.hp.2
    rw [hQ] at this
    rw [this]; simp
  rw [hd, List.getD_eq_getElem?_getD, List.getD_eq_getElem?_getD, List.getElem?_append_right (by omega), List.getElem?_append_left (by omega)]
  congr 2
  omega
theorem TrimV.more (V : TrimV ks T P s p K0 c R0 z T' q) {A : List (List UInt8)} {y : List UInt8} (hy : Enc y) (hb : (y.getD (y.length - 1) 0).toNat = 92) (hQ : [42] :: R0 = A ++ [y] ++ List.replicate i [92]) : [42] :: R0 = A ++ List.replicate (i + 1) [92] ∧ A ≠ [] := by
  have hyp := hy.pos
  have h1 := hy.small (j := y.length - 1) (by omega) (by omega)
  have h2 : y.getD (y.length - 1) 0 = 92 := by apply UInt8.toNat_inj.1; rw [hb]; rfl
  rw [h2] at h1
  subst h1
  refine ⟨by rw [hQ, List.append_assoc, List.replicate_succ]; rfl, fun e => ?_⟩
  subst e
  simp at hQ
theorem TrimV.less (V : TrimV ks T P s p K0 c R0 z T' q) {y : List UInt8} (hb : ¬ (y.getD (y.length - 1) 0).toNat = 92) : y ≠ [92] := fun e => by subst e; exact hb rfl
end
theorem TrimI.star {ks : List (List UInt8)} {T : List Gl} {P : Nat} {s p : ByteArray} (h : TrimI ks T P s p) : 0 < p.size := by
  obtain ⟨_, _, _, _, _, h2, _⟩ := h
  exact h2.pos
end Go.Proofs.YtmpjkhcddfdboaaDoor.M
