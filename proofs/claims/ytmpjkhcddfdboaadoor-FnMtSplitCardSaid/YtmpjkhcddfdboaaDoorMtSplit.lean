/- FnMtSplit: Matches, mtTold, the plain law and the walk. -/
import Derived.Test.YtmpjkhcddfdboaaDoorMtFits
namespace Go.Proofs.YtmpjkhcddfdboaaDoor.M
open Go.Lib Go.RowKit Go.Proofs.YtmpjkhcddfdboaaDoorW.PrintWords Go.Proofs.YtmpjkhcddfdboaaDoor.PFnMtSplit
set_option linter.unusedVariables false
set_option linter.unusedSimpArgs false

/-! ### the plain law -/
theorem flat_pos {ks : List (List UInt8)} (h : ∀ k ∈ ks, Enc k) (hl : ks.flatten.length = 0) : ks = [] := by
  cases ks with
  | nil => rfl
  | cons k ks =>
    have := (h k (by simp)).pos
    simp at hl
    rw [hl.1] at this
    exact absurd this (by decide)
theorem pre_uniq : ∀ {a a2 b b2 : List (List UInt8)}, (∀ k ∈ a ++ b, Enc k) → a ++ b = a2 ++ b2 → a.flatten.length = a2.flatten.length → a = a2
  | [], a2, b, b2, h, e, hl => by
    have h2 : ∀ k ∈ a2, Enc k := fun k hk => h k (by rw [e]; simp [hk])
    exact (flat_pos h2 (by rw [← hl]; rfl)).symm
  | x :: a, [], b, b2, h, e, hl => by
    exact flat_pos (fun k hk => h k (by simp at hk ⊢; rcases hk with rfl | hk <;> simp [*])) (by rw [hl]; rfl)
  | x :: a, y :: a2, b, b2, h, e, hl => by
    simp only [List.cons_append, List.cons.injEq] at e
    obtain ⟨rfl, e⟩ := e
    rw [pre_uniq (fun k hk => h k (by simp only [List.cons_append]; exact List.mem_cons_of_mem _ hk)) e (by simpa using hl)]
/-- Every place is ahead of a character, at the end, or inside one. -/
theorem place_of : ∀ {ks : List (List UInt8)}, (∀ k ∈ ks, Enc k) → ∀ (i : Nat), i ≤ ks.flatten.length → (∃ a b, ks = a ++ b ∧ a.flatten.length = i) ∨ (i < ks.flatten.length ∧ (ks.flatten.getD i 0).toNat / 64 = 2)
  | [], _, i, hi => .inl ⟨[], [], rfl, by simp at hi; simp [hi]⟩
  | k :: ks, h, i, hi => by
    have hk := h k (by simp)
    by_cases h0 : i = 0
    · exact .inl ⟨[], k :: ks, rfl, by simp [h0]⟩
    by_cases hlt : i < k.length
    · right
      rw [List.flatten_cons, List.length_append]
      refine ⟨by omega, ?_⟩
      rw [List.getD_eq_getElem?_getD, List.getElem?_append_left hlt, ← List.getD_eq_getElem?_getD]
      exact hk.tail (by omega) hlt
    · rw [List.flatten_cons, List.length_append] at hi
      rcases place_of (ks := ks) (fun x hx => h x (by simp [hx])) (i - k.length) (by omega) with ⟨a, b, rfl, ha⟩ | ⟨h1, h2⟩
      · exact .inl ⟨k :: a, b, rfl, by rw [List.flatten_cons, List.length_append, ha]; omega⟩
      · right
        rw [List.flatten_cons, List.length_append]
        refine ⟨by omega, ?_⟩
        rw [List.getD_eq_getElem?_getD, List.getElem?_append_right (by omega), ← List.getD_eq_getElem?_getD]
        exact h2
theorem place_not {a b : List (List UInt8)} (h : ∀ k ∈ a ++ b, Enc k) (hb : a.flatten.length < (a ++ b).flatten.length) : ((a ++ b).flatten.getD a.flatten.length 0).toNat / 64 ≠ 2 := by
  cases b with
  | nil => simp at hb
  | cons c b =>
    have hc := h c (by simp)
    rw [List.flatten_append, List.flatten_cons, List.getD_eq_getElem?_getD, List.getElem?_append_right (Nat.le_refl _), Nat.sub_self, List.getElem?_append_left hc.pos, ← List.getD_eq_getElem?_getD]
    exact hc.head
/-- Cut ahead of place k, the parts are what is said. -/
def CutAt (ks : List (List UInt8)) (tp tq : List Gl) (k : Nat) : Prop := ∃ a b, ks = a ++ b ∧ a.flatten.length < k ∧ Fit (a.map ch) tp ∧ Fit (b.map ch) tq
open Classical in
noncomputable def cutB (ks : List (List UInt8)) (tp tq : List Gl) (k : Nat) : Bool := decide (CutAt ks tp tq k)
theorem cutB_iff {ks : List (List UInt8)} {tp tq : List Gl} {k : Nat} : cutB ks tp tq k = true ↔ CutAt ks tp tq k := by unfold cutB; simp
theorem cutB_zero (ks : List (List UInt8)) (tp tq : List Gl) : cutB ks tp tq 0 = false := by
  rw [Bool.eq_false_iff, ne_eq, cutB_iff]
  rintro ⟨a, b, _, h, _⟩
  omega
theorem cutB_step {ks : List (List UInt8)} {tp tq : List Gl} {k : Nat} {a b : List (List UInt8)} (h : ∀ x ∈ ks, Enc x) (e : ks = a ++ b) (ha : a.flatten.length = k) : cutB ks tp tq (k + 1) = (cutB ks tp tq k || (mtB a tp && mtB b tq)) := by
  rw [Bool.eq_iff_iff, Bool.or_eq_true, Bool.and_eq_true, cutB_iff, cutB_iff]
  unfold mtB
  rw [fitB_iff, fitB_iff]
  constructor
  · rintro ⟨a2, b2, e2, hl, h1, h2⟩
    by_cases hk : a2.flatten.length < k
    · exact .inl ⟨a2, b2, e2, hk, h1, h2⟩
    · right
      have hu := pre_uniq (a := a) (a2 := a2) (b := b) (b2 := b2) (by rw [← e]; exact h) (by rw [← e, ← e2]) (by omega)
      subst hu
      have := List.append_cancel_left (e.symm.trans e2)
      subst this
      exact ⟨h1, h2⟩
  · rintro (⟨a2, b2, e2, hl, h1, h2⟩ | ⟨h1, h2⟩)
    · exact ⟨a2, b2, e2, by omega, h1, h2⟩
    · exact ⟨a, b, e, by omega, h1, h2⟩
theorem cutB_skip {ks : List (List UInt8)} {tp tq : List Gl} {k : Nat} (h : ¬ ∃ a b, ks = a ++ b ∧ a.flatten.length = k) : cutB ks tp tq (k + 1) = cutB ks tp tq k := by
  rw [Bool.eq_iff_iff, cutB_iff, cutB_iff]
  constructor
  · rintro ⟨a2, b2, e2, hl, h1, h2⟩
    refine ⟨a2, b2, e2, ?_, h1, h2⟩
    rcases Nat.lt_or_ge a2.flatten.length k with hlt | hge
    · exact hlt
    · exact absurd ⟨a2, b2, e2, by omega⟩ h
  · rintro ⟨a2, b2, e2, hl, h1, h2⟩
    exact ⟨a2, b2, e2, by omega, h1, h2⟩
theorem cutB_all (ks : List (List UInt8)) (tp tq : List Gl) : cutB ks tp tq (ks.flatten.length + 1) = mtB ks (tp ++ tq) := by
  rw [Bool.eq_iff_iff, cutB_iff]
  unfold mtB
  rw [fitB_iff, Fit.app]
  constructor
  · rintro ⟨a, b, rfl, _, h1, h2⟩
    exact ⟨_, _, by rw [List.map_append], h1, h2⟩
  · rintro ⟨a, b, he, h1, h2⟩
    obtain ⟨a', b', rfl, rfl, rfl⟩ := List.map_eq_append_iff.1 he
    exact ⟨a', b', rfl, by rw [List.flatten_append, List.length_append]; omega, h1, h2⟩
theorem Txt.left {s : ByteArray} {a b : List (List UInt8)} (h : Txt s (a ++ b)) : Txt (s.extract 0 a.flatten.length) a := by
  refine ⟨fun k hk => h.1 k (by simp [hk]), ?_⟩
  rw [data_ext, h.2, List.flatten_append]
  simp
theorem Txt.right {s : ByteArray} {a b : List (List UInt8)} (h : Txt s (a ++ b)) : Txt (s.extract a.flatten.length s.size) b := by
  refine ⟨fun k hk => h.1 k (by simp [hk]), ?_⟩
  have hz := h.size
  rw [data_ext, List.take_of_length_le (by simp), h.2, List.flatten_append]
  simp
theorem Txt.app {s t : ByteArray} {a b : List (List UInt8)} (h : Txt s a) (h' : Txt t b) : Txt (s ++ t) (a ++ b) := by
  have := Cut.app h h'
  unfold Txt
  rw [show (s ++ t).data.toList = s.data.toList ++ t.data.toList by simp [ByteArray.data_append]]
  exact this

/-! ### the walks of Matches and mtTold -/
/-- A text and a pattern of which something is said. -/
def Good (s p : ByteArray) (ks : List (List UInt8)) (js : List (List UInt8)) (ts : List Gl) : Prop := Txt s ks ∧ Txt p js ∧ parse js = some ts
theorem natI_ch (ks : List (List UInt8)) : ks.map chI = natI (ks.map ch) := by simp [natI, chI]
theorem flat_len {ks : List (List UInt8)} (h : ∀ k ∈ ks, Enc k) : ks.length ≤ ks.flatten.length := by
  induction ks with
  | nil => simp
  | cons k ks ih =>
    have := (h k (by simp)).pos
    have := ih fun x hx => h x (by simp [hx])
    rw [List.flatten_cons, List.length_append, List.length_cons]; omega
theorem parse_len : ∀ (n : Nat) {js : List (List UInt8)} {ts : List Gl}, js.length ≤ n → parse js = some ts → ts.length ≤ js.length
  | _, [], ts, _, h => by rw [parse_nil] at h; injection h with h; subst h; simp
  | 0, _ :: _, _, hn, _ => by simp at hn
  | n + 1, k :: js, ts, hn, h => by
    by_cases hk : k = [92]
    · subst hk
      match js with
      | [] => rw [parse_esc_end] at h; cases h
      | j :: js =>
        rw [parse_esc] at h
        obtain ⟨t, ht, rfl⟩ := Option.map_eq_some_iff.1 h
        have := parse_len n (by simp at hn; omega) ht
        simp; omega
    · rw [parse_cons hk] at h
      obtain ⟨t, ht, rfl⟩ := Option.map_eq_some_iff.1 h
      have := parse_len n (by simp at hn; omega) ht
      simp; omega
theorem up {α : Type} {f : Nat → Option α} (hf : ∀ k, LeO (f k) (f (k + 1))) {k : Nat} {r : α} (h : f k = some r) : ∀ m, f (k + m) = some r
  | 0 => h
  | m + 1 => hf (k + m) r (up hf h m)
set_option maxHeartbeats 1000000 in
theorem matchesW (s p : ByteArray) (ks js : List (List UInt8)) (ts : List Gl) (w : World) (hs : s.size ≤ 65536) (hp : p.size ≤ 65536) (hg : Good s p ks js ts) :
    Calls Tryd.prog 8 #[.string s, .string p] w fun e w' => e = .returned (.tuple #[.bool (mtB ks ts), .bool true]) ∧ Below w.heap.size w w' := by
  obtain ⟨h1, h2, h3⟩ := hg
  have HC := Lib.hid (chars_yes (s := s) (by omega) h1)
  have HG := Lib.hid (globs_yes (s := p) (by omega) h2 h3)
  have hl1 : (ks.map ch).length ≤ 65536 := by
    have := flat_len h1.1; have := h1.size; simp; omega
  have hl2 : ts.length ≤ 65536 := by
    have := flat_len h2.1; have := h2.size; have := parse_len _ (Nat.le_refl _) h3; omega
  clear h1 h2 h3
  rw [natI_ch] at HC
  unfold mtB
  generalize ks.map ch = cs at *
  go_enter Tryd.func8, Tryd.ntmps8
  go_wp2_with fail
  refine (spec_Characters.calls (s.size + 10) s _ _ w HC.out).mono ?_
  rintro e w1 ⟨v0, rfl, hR, hb1⟩
  obtain ⟨A0, c0, rfl, hc0, hC0⟩ := Kd.R_reads hR
  have hnl : (natI cs).length = cs.length := by simp [natI]
  rw [hnl] at hc0 hC0 ⊢
  have HB1 := Lib.hid hb1
  have HC0 := Lib.hid hC0
  clear hb1 hR hC0 hnl
  go_wp2_with fail
  refine (spec_Globs.calls (p.size + 10) p _ _ w1 HG.out).mono ?_
  rintro e w2 ⟨v1, rfl, hR, hb2⟩
  obtain ⟨A1, c1, rfl, hc1, hC1⟩ := Kd.R_reads hR
  have hnl : (ts.map gS).length = ts.length := by simp
  rw [hnl] at hc1 hC1 ⊢
  have HB2 := Lib.hid hb2
  have HC1 := Lib.hid hC1
  clear hb2 hR hC1 hnl
  go_wp2_with fail
  refine (fitsW A0 c0 cs A1 c1 ts w2 hl1 hl2 (Kd.C_below HC0.out HB2.out) hc0 HC1.out hc1).mono ?_
  rintro e w3 ⟨rfl, hb3⟩
  have HB3 := Lib.hid (below_of (below_of HB1.out HB2.out) hb3)
  clear hb3
  go_wp2
  go_ret2
  exact ⟨rfl, HB3.out⟩
set_option maxHeartbeats 1000000 in
theorem matchesNo (s p : ByteArray) (w : World) (hs : s.size ≤ 65536) (hp : p.size ≤ 65536) (hg : ¬ ∃ ks js ts, Good s p ks js ts) :
    Calls Tryd.prog 8 #[.string s, .string p] w fun e w' => e = .returned (.tuple #[.bool false, .bool false]) ∧ Below w.heap.size w w' := by
  by_cases h1 : ∃ ks, Txt s ks
  · obtain ⟨ks, h1⟩ := h1
    have HC := Lib.hid (chars_yes (s := s) (by omega) h1)
    have HG := Lib.hid (globs_no (s := p) (by omega) fun ⟨js, ts, h2, h3⟩ => hg ⟨ks, js, ts, h1, h2, h3⟩)
    clear h1 hg
    go_enter Tryd.func8, Tryd.ntmps8
    go_wp2_with fail
    refine (spec_Characters.calls (s.size + 10) s _ _ w HC.out).mono ?_
    rintro e w1 ⟨v0, rfl, hR, hb1⟩
    obtain ⟨A0, c0, rfl, hc0, hC0⟩ := Kd.R_reads hR
    have HB1 := Lib.hid hb1
    clear hb1 hR hC0
    go_wp2_with fail
    refine (spec_Globs.calls (p.size + 10) p _ _ w1 HG.out).mono ?_
    rintro e w2 ⟨v1, rfl, hR, hb2⟩
    obtain ⟨A1, c1, rfl, hc1, hC1⟩ := Kd.R_reads hR
    have HB2 := Lib.hid hb2
    clear hb2 hR hC1
    go_wp2
    go_ret2
    exact ⟨rfl, below_of HB1.out HB2.out⟩
  · have HC := Lib.hid (chars_no (s := s) (by omega) h1)
    have HG : ∃ r1 r2, spec_Globs.f (p.size + 10) p = some (r1, r2) := by
      by_cases h2 : ∃ js ts, Txt p js ∧ parse js = some ts
      · obtain ⟨js, ts, h2, h3⟩ := h2
        exact ⟨_, _, globs_yes (s := p) (by omega) h2 h3⟩
      · exact ⟨_, _, globs_no (s := p) (by omega) h2⟩
    obtain ⟨r1, r2, hG⟩ := HG
    have HG := Lib.hid hG
    clear h1 hg hG
    go_enter Tryd.func8, Tryd.ntmps8
    go_wp2_with fail
    refine (spec_Characters.calls (s.size + 10) s _ _ w HC.out).mono ?_
    rintro e w1 ⟨v0, rfl, hR, hb1⟩
    obtain ⟨A0, c0, rfl, hc0, hC0⟩ := Kd.R_reads hR
    have HB1 := Lib.hid hb1
    clear hb1 hR hC0
    go_wp2_with fail
    refine (spec_Globs.calls (p.size + 10) p _ _ w1 HG.out).mono ?_
    rintro e w2 ⟨v1, rfl, hR, hb2⟩
    obtain ⟨A1, c1, rfl, hc1, hC1⟩ := Kd.R_reads hR
    have HB2 := Lib.hid hb2
    clear hb2 hR hC1
    go_wp2
    go_ret2
    exact ⟨rfl, below_of HB1.out HB2.out⟩
/-- What mtTold answers. -/
def ToldPost (s p : ByteArray) (w : World) (e : Ending) (w' : World) : Prop := (∃ fits good : Bool, e = .returned (.tuple #[.bool fits, .bool good]) ∧ (good = true → s.size ≤ 4096 ∧ p.size ≤ 4096 ∧ ∃ ks js ts, Good s p ks js ts)) ∧ Below w.heap.size w w'
theorem ToldPost.no {s p : ByteArray} {w w' : World} {e : Ending} (he : e = .returned (.tuple #[.bool false, .bool false])) (hb : Below w.heap.size w w') : ToldPost s p w e w' := ⟨⟨_, _, he, fun h => (by cases h)⟩, hb⟩
theorem ToldPost.yes {s p : ByteArray} {w w' : World} {e : Ending} {b : Bool} (he : e = .returned (.tuple #[.bool b, .bool true])) (hb : Below w.heap.size w w') (h : s.size ≤ 4096 ∧ p.size ≤ 4096 ∧ ∃ ks js ts, Good s p ks js ts) : ToldPost s p w e w' := ⟨⟨_, _, he, fun _ => h⟩, hb⟩
theorem toldW (s p : ByteArray) (w : World) : Calls Tryd.prog 7 #[.string s, .string p] w (ToldPost s p w) := by
  by_cases hs : 4096 < s.size
  · go_enter Tryd.func7, Tryd.ntmps7
    go_wp2
    go_ret2
    exact ToldPost.no rfl (Below.refl _ _)
  by_cases hp : 4096 < p.size
  · go_enter Tryd.func7, Tryd.ntmps7
    go_wp2
    go_ret2
    exact ToldPost.no rfl (Below.refl _ _)
  by_cases hg : ∃ ks js ts, Good s p ks js ts
  · have HG := Lib.hid hg
    obtain ⟨ks, js, ts, hg⟩ := hg
    have HC := Lib.hid (matchesW s p ks js ts w (by omega) (by omega) hg)
    clear hg
    go_enter Tryd.func7, Tryd.ntmps7
    go_wp2_with fail
    refine HC.out.mono ?_
    rintro e w1 ⟨rfl, hb⟩
    have HB := Lib.hid hb
    clear hb
    go_wp2
    go_ret2
    exact ToldPost.yes rfl HB.out ⟨by omega, by omega, HG.out⟩
  · have HC := Lib.hid (matchesNo s p w (by omega) (by omega) hg)
    clear hg
    go_enter Tryd.func7, Tryd.ntmps7
    go_wp2_with fail
    refine HC.out.mono ?_
    rintro e w1 ⟨rfl, hb⟩
    have HB := Lib.hid hb
    clear hb
    go_wp2
    go_ret2
    exact ToldPost.no rfl HB.out
def ToldYes (w : World) (e : Ending) (w' : World) : Prop := ∃ f : Bool, e = .returned (.tuple #[.bool f, .bool true]) ∧ Below w.heap.size w w'
theorem ToldYes.mk {w w' : World} {e : Ending} {f : Bool} (he : e = .returned (.tuple #[.bool f, .bool true])) (hb : Below w.heap.size w w') : ToldYes w e w' := ⟨f, he, hb⟩
theorem told_yes' (s p : ByteArray) (ks js : List (List UInt8)) (ts : List Gl) (w : World) (hs : s.size ≤ 4096) (hp : p.size ≤ 4096) (hg : Good s p ks js ts) (hc : Calls Tryd.prog 8 #[.string s, .string p] w fun e w' => e = .returned (.tuple #[.bool (mtB ks ts), .bool true]) ∧ Below w.heap.size w w') :
    Calls Tryd.prog 7 #[.string s, .string p] w (ToldYes w) := by
  have HC := Lib.hid hc
  clear hg hc
  go_enter Tryd.func7, Tryd.ntmps7
  go_wp2_with fail
  refine HC.out.mono ?_
  rintro e w1 ⟨rfl, hb⟩
  have HB := Lib.hid hb
  clear hb
  go_wp2
  go_ret2
  exact ToldYes.mk rfl HB.out
theorem told_yes (s p : ByteArray) (ks js : List (List UInt8)) (ts : List Gl) (w : World) (hs : s.size ≤ 4096) (hp : p.size ≤ 4096) (hg : Good s p ks js ts) : Calls Tryd.prog 7 #[.string s, .string p] w fun e w' => ∃ f : Bool, e = .returned (.tuple #[.bool f, .bool true]) ∧ Below w.heap.size w w' := by
  have HC := Lib.hid (matchesW s p ks js ts w (by omega) (by omega) hg)
  have main : Calls Tryd.prog 7 #[.string s, .string p] w (ToldYes w) := told_yes' s p ks js ts w hs hp hg HC.out
  exact main
end Go.Proofs.YtmpjkhcddfdboaaDoor.M
