/- The walk of match.match: a text in UTF-8 and a pattern. -/
import Derived.Test.YtmpjkhcddfdboaaDoorMtTrim
namespace Go.Proofs.YtmpjkhcddfdboaaDoor.M
open Go.Lib Go.RowKit
set_option linter.unusedVariables false
set_option linter.unusedSimpArgs false

/-- What is left of a text and a pattern, of no more than P bytes. -/
def MatI (ks : List (List UInt8)) (ts : List Gl) (P : Nat) (s p : ByteArray) : Prop :=
  ∃ ks' js' ts', Txt s ks' ∧ Txt p js' ∧ parse js' = some ts' ∧ p.size ≤ P ∧ (Fit (ks.map ch) ts ↔ Fit (ks'.map ch) ts')
def MPost (ks : List (List UInt8)) (ts : List Gl) (w : World) (e : Ending) (w' : World) : Prop :=
  e = .returned (.int .i64 (if fitB (ks.map ch) ts = true then 1 else 0)) ∧ Below w.heap.size w w'
theorem MPost.yes {ks : List (List UInt8)} {ts : List Gl} {w w' : World} {e : Ending} (he : e = .returned (.int .i64 1)) (hb : Below w.heap.size w w') (h : Fit (ks.map ch) ts) : MPost ks ts w e w' :=
  ⟨by rw [if_pos (fitB_iff.2 h)]; exact he, hb⟩
theorem MPost.no {ks : List (List UInt8)} {ts : List Gl} {w w' : World} {e : Ending} (he : e = .returned (.int .i64 0)) (hb : Below w.heap.size w w') (h : ¬ Fit (ks.map ch) ts) : MPost ks ts w e w' :=
  ⟨by rw [if_neg (by rw [fitB_no h]; decide)]; exact he, hb⟩
/-- The first byte of a text. -/
theorem first_byte {s : ByteArray} {k : List UInt8} {ks : List (List UInt8)} (h : Txt s (k :: ks)) (hp : 0 < s.size) : (s[0]'hp) = k.getD 0 0 := by
  have hk := (h.1 k (by simp)).pos
  rw [← getD_at s 0 hp, h.2, List.flatten_cons, List.getD_eq_getElem?_getD, List.getD_eq_getElem?_getD, List.getElem?_append_left hk]
theorem w32 {i : Int} (h0 : 0 ≤ i) (h : i ≤ 255) : wrap32 i = i := by unfold wrap32; omega
theorem first_one {s : ByteArray} {k : List UInt8} {ks : List (List UInt8)} (h : Txt s (k :: ks)) (hp : 0 < s.size) (h1 : k.length = 1) : wrap32 ((s[0]'hp).toNat : Int) = (ch k : Int) ∧ ¬ (127 : Int) < (ch k : Int) := by
  have hk := h.1 k (by simp)
  have hs : (k.getD 0 0).toNat < 128 := by have := hk.ok; omega
  obtain ⟨a, rfl⟩ : ∃ a, k = [a] := ⟨k.getD 0 0, hk.small (by omega) hs⟩
  simp only [List.getD_cons_zero] at hs
  rw [first_byte h hp, ch_one hs]
  simp only [List.getD_cons_zero]
  exact ⟨w32 (by omega) (by omega), by omega⟩
theorem first_more {s : ByteArray} {k : List UInt8} {ks : List (List UInt8)} (h : Txt s (k :: ks)) (hp : 0 < s.size) (h1 : k.length ≠ 1) : (127 : Int) < wrap32 ((s[0]'hp).toNat : Int) := by
  have hk := h.1 k (by simp)
  have hs : ¬ (k.getD 0 0).toNat < 128 := fun hs => by
    have := hk.small hk.pos hs
    exact h1 (by rw [this]; rfl)
  rw [first_byte h hp]
  have := (k.getD 0 0).toNat_lt
  rw [w32 (by omega) (by omega)]
  omega
theorem more_ne {k : List UInt8} (hk : Enc k) (h1 : k.length ≠ 1) {a : UInt8} (ha : a.toNat < 128) : ¬ ch k = a.toNat := fun e => h1 (by rw [(hk.ascii ha).1 e]; rfl)
/-! ### the pieces' own steps -/
section
variable {ks : List (List UInt8)} {ts : List Gl} {P : Nat} {s p : ByteArray} {k c : List UInt8} {jr kr : List (List UInt8)} {tr : List Gl}
theorem glOf_star : glOf [42] = .star := rfl
theorem mat_one (hs : Txt s (c :: kr)) (hp : Txt p (k :: jr)) (hj : parse jr = some tr) (hle : p.size ≤ P) (hf : Fit (ks.map ch) ts ↔ Fit ((c :: kr).map ch) (.one :: tr)) : MatI ks ts P (s.extract c.length s.size) (p.extract k.length p.size) :=
  ⟨kr, jr, tr, hs.tail.1, hp.tail.1, hj, Nat.le_trans (by rw [ByteArray.size_extract]; omega) hle, by rw [hf, List.map_cons, fit_cons_one]⟩
theorem mat_chr (hs : Txt s (c :: kr)) (hp : Txt p (k :: jr)) (hj : parse jr = some tr) (hle : p.size ≤ P) (hf : Fit (ks.map ch) ts ↔ Fit ((c :: kr).map ch) (.chr (ch k) :: tr)) (e : ch c = ch k) : MatI ks ts P (s.extract c.length s.size) (p.extract k.length p.size) :=
  ⟨kr, jr, tr, hs.tail.1, hp.tail.1, hj, Nat.le_trans (by rw [ByteArray.size_extract]; omega) hle, by rw [hf, List.map_cons, fit_cons_chr]; exact ⟨fun h => h.2, fun h => ⟨e, h⟩⟩⟩
theorem mat_ne {x : Nat} (hf : Fit (ks.map ch) ts ↔ Fit ((c :: kr).map ch) (.chr x :: tr)) (e : ¬ ch c = x) : ¬ Fit (ks.map ch) ts := by
  rw [hf, List.map_cons, fit_cons_chr]; exact fun h => e h.1
theorem len_tail (s : ByteArray) (n : Nat) (h : 0 < n) (hs : 0 < s.size) : (s.extract n s.size).size < s.size := by rw [ByteArray.size_extract]; omega
/-- Behind a star. -/
def StarI (ks : List (List UInt8)) (ts : List Gl) (kc : List (List UInt8)) (P : Nat) (p : ByteArray) : Prop :=
  ∃ jr tr, Txt p ([42] :: jr) ∧ parse jr = some tr ∧ p.size ≤ P ∧ (Fit (ks.map ch) ts ↔ Fit (kc.map ch) (.star :: tr))
theorem StarI.pos {kc : List (List UInt8)} (h : StarI ks ts kc P p) : 0 < p.size ∧ p.size ≤ P := by
  obtain ⟨_, _, h1, _, h2, _⟩ := h
  exact ⟨h1.pos, h2⟩
theorem StarI.one {kc : List (List UInt8)} (h : StarI ks ts kc P p) (h1 : p.size = 1) : Fit (ks.map ch) ts := by
  obtain ⟨jr, tr, hp, hj, _, hf⟩ := h
  have hz : jr = [] := by
    have := hp.tail.1.nil_iff
    rw [ByteArray.size_extract] at this
    exact this.1 (by simp; omega)
  subst hz
  rw [parse_nil] at hj
  injection hj with hj
  subst hj
  exact hf.2 (fit_star_last _)
theorem StarI.two {kc : List (List UInt8)} (h : StarI ks ts kc P p) (h1 : 1 < p.size) : ∃ y, (p[1]'h1) = y ∧ (y.toNat = 42 → StarI ks ts kc P (p.extract 1 p.size)) := by
  refine ⟨_, rfl, fun hy => ?_⟩
  obtain ⟨jr, tr, hp, hj, hle, hf⟩ := h
  cases jr with
  | nil => have := hp.size; simp at this; omega
  | cons k2 r2 =>
    have hk2 := hp.1 k2 (by simp)
    have hkp := hk2.pos
    have e1 : (p[1]'h1) = k2.getD 0 0 := by
      rw [← getD_at p 1 h1, hp.2, List.flatten_cons, List.flatten_cons]
      simp only [List.cons_append, List.nil_append, List.getD_cons_succ]
      rw [List.getD_eq_getElem?_getD, List.getD_eq_getElem?_getD, List.getElem?_append_left hkp]
    rw [e1] at hy
    have h42 : k2 = [42] := by
      have := hk2.small hkp (by omega)
      rw [this]
      congr 1
      apply UInt8.toNat_inj.1; rw [hy]; rfl
    subst h42
    rw [parse_star] at hj
    obtain ⟨t2, ht2, rfl⟩ := Option.map_eq_some_iff.1 hj
    exact ⟨r2, t2, hp.tail.1, ht2, Nat.le_trans (by rw [ByteArray.size_extract]; omega) hle, by rw [hf, fit_star_star]⟩
theorem StarI.trim {kc : List (List UInt8)} (h : StarI ks ts kc P p) (hs : Txt s kc) : ∃ T, TrimI kc T p.size s p ∧ (Fit (ks.map ch) ts ↔ Fit (kc.map ch) (.star :: T)) := by
  obtain ⟨jr, tr, hp, hj, hle, hf⟩ := h
  exact ⟨tr, TrimI.start hs hp hj, hf⟩
/-- Behind the trim: what the recursive call is of, and what goes on. -/
theorem TrimI.parts {kc : List (List UInt8)} {T : List Gl} (h : TrimI kc T P s p) : ∃ k2 j2 T2 q, Txt s k2 ∧ Txt p ([42] :: j2) ∧ parse j2 = some T2 ∧ kc = k2 ++ q ∧ p.size ≤ P ∧ Txt (p.extract 1 p.size) j2 ∧ (p.extract 1 p.size).size < p.size ∧ (Fit (kc.map ch) (.star :: T) ↔ Fit (k2.map ch) (.star :: T2)) := by
  obtain ⟨k2, j2, T2, q, h1, h2, h3, h4, h5, h6⟩ := h
  exact ⟨k2, j2, T2, q, h1, h2, h3, h4, h5, h2.tail.1, len_tail p 1 (by omega) h2.pos, h6⟩
theorem wild_next {k2 j2 kr' q : List (List UInt8)} {T2 : List Gl} {c' : List UInt8} (hs : Txt s k2) (hp : Txt p ([42] :: j2)) (hj : parse j2 = some T2) (hle : p.size ≤ P) (hf : Fit (ks.map ch) ts ↔ Fit (k2.map ch) (.star :: T2)) (hn : ¬ Fit (k2.map ch) T2) (hq : c' :: kr' = k2 ++ q) (hne : 0 < s.size) :
    MatI ks ts P (s.extract c'.length s.size) p ∧ (s.extract c'.length s.size).size < s.size := by
  cases k2 with
  | nil => have := hs.nil_iff.2 rfl; omega
  | cons x k2 =>
    simp only [List.cons_append, List.cons.injEq] at hq
    obtain ⟨rfl, hq⟩ := hq
    refine ⟨⟨k2, [42] :: j2, .star :: T2, hs.tail.1, hp, by rw [parse_star, hj]; rfl, hle, ?_⟩, len_tail s _ hs.tail.2.1.pos hne⟩
    rw [hf, List.map_cons, fit_star_step]
    exact ⟨fun h => h.elim (fun h => absurd h hn) id, .inr⟩
theorem wild_len {k2 kr' q : List (List UInt8)} {c' : List UInt8} (hs : Txt s k2) (hq : c' :: kr' = k2 ++ q) (hne : 0 < s.size) (h : s.size < c'.length) : False := by
  cases k2 with
  | nil => have := hs.nil_iff.2 rfl; omega
  | cons x k2 =>
    simp only [List.cons_append, List.cons.injEq] at hq
    obtain ⟨rfl, hq⟩ := hq
    have := hs.tail.2.2
    omega
theorem wild_end {k2 : List (List UInt8)} {T2 : List Gl} (hs : Txt s k2) (hf : Fit (ks.map ch) ts ↔ Fit (k2.map ch) (.star :: T2)) (hn : ¬ Fit (k2.map ch) T2) (h0 : s.size = 0) : ¬ Fit (ks.map ch) ts := by
  have := hs.nil_iff.1 h0
  subst this
  rw [hf, List.map_nil, fit_star_nil]
  exact hn
theorem fit_star_of {cs : List Nat} {T : List Gl} (h : Fit cs T) : Fit cs (.star :: T) := ⟨[], cs, rfl, h⟩
end

/-- What a call of match on a shorter pattern does. -/
def MC (n : Nat) : Prop := ∀ (s p : ByteArray) (ks js : List (List UInt8)) (ts : List Gl) (w : World), s.size ≤ 2147483648 → p.size ≤ 2147483648 → p.size < n → Lib.Utf8Tabs 0 1 w → Txt s ks → Txt p js → parse js = some ts →
  Calls Tryd.prog 17 #[.string s, .string p, .int .i64 0, .pointer none, .int .i64 (-1), .bool false] w (MPost ks ts w)
theorem MC.hit {n : Nat} (h : MC n) (s p : ByteArray) (ks js : List (List UInt8)) (ts : List Gl) (w : World) (hs : s.size ≤ 2147483648) (hp : p.size ≤ 2147483648) (hn : p.size < n) (hT : Lib.Utf8Tabs 0 1 w) (h1 : Txt s ks) (h2 : Txt p js) (h3 : parse js = some ts) (hf : Fit (ks.map ch) ts) :
    Calls Tryd.prog 17 #[.string s, .string p, .int .i64 0, .pointer none, .int .i64 (-1), .bool false] w fun e w' => e = .returned (.int .i64 1) ∧ Below w.heap.size w w' :=
  (h s p ks js ts w hs hp hn hT h1 h2 h3).mono fun e w' ⟨he, hb⟩ => ⟨by rw [if_pos (fitB_iff.2 hf)] at he; exact he, hb⟩
theorem MC.miss {n : Nat} (h : MC n) (s p : ByteArray) (ks js : List (List UInt8)) (ts : List Gl) (w : World) (hs : s.size ≤ 2147483648) (hp : p.size ≤ 2147483648) (hn : p.size < n) (hT : Lib.Utf8Tabs 0 1 w) (h1 : Txt s ks) (h2 : Txt p js) (h3 : parse js = some ts) (hf : ¬ Fit (ks.map ch) ts) :
    Calls Tryd.prog 17 #[.string s, .string p, .int .i64 0, .pointer none, .int .i64 (-1), .bool false] w fun e w' => e = .returned (.int .i64 0) ∧ Below w.heap.size w w' :=
  (h s p ks js ts w hs hp hn hT h1 h2 h3).mono fun e w' ⟨he, hb⟩ => ⟨by rw [if_neg (by rw [fitB_no hf]; decide)] at he; exact he, hb⟩
set_option maxRecDepth 100000 in
set_option maxHeartbeats 8000000 in
theorem matchW (n : Nat) (ih : MC n) : MC (n + 1) := by
  intro s p ks js ts w hs hp hn hT hsK hpJ hpar
  have HT := Lib.hid hT
  have HI := Lib.hid (show MatI ks ts p.size s p from ⟨ks, js, ts, hsK, hpJ, hpar, Nat.le_refl _, Iff.rfl⟩)
  have IH := Lib.hid ih
  clear hT hsK hpJ hpar ih
  go_enter Tryd.func17, Tryd.ntmps17
  go_wp2
  go_loopg [0, 1] (s.size + p.size) (fun d v0 v1 wr => ∃ s' p' : ByteArray, v0 = .string s' ∧ v1 = .string p' ∧ s'.size + p'.size ≤ d ∧ s'.size ≤ s.size ∧ MatI ks ts p.size s' p' ∧ Below w.heap.size w wr)
  case atStart => exact ⟨s, p, rfl, rfl, Nat.le_refl _, Nat.le_refl _, HI.out, Below.refl _ _⟩
  case round =>
    obtain ⟨s', p', rfl, rfl, hd, hle, ⟨kc, jc, tc, hsK, hpJ, hpar, hpl, hf⟩, hB⟩ := hrel
    have HD := Lib.hid hd
    have HS := Lib.hid hsK
    have HPAR := Lib.hid hpar
    have HF := Lib.hid hf
    have HB := Lib.hid hB
    clear hd hsK hpar hf hB
    by_cases hp0 : 0 < p'.size
    · cases jc with
      | nil => exact absurd (hpJ.nil_iff.2 rfl) (by omega)
      | cons k jr =>
        have HP := Lib.hid hpJ
        clear hpJ
        have hEk := Lib.hid (HP.out.1 k (by simp))
        have hkl := hEk.out.pos
        have hkp := HP.out.tail.2.2
        have hpl' := hpl
        have hcpos := HS.out.size
        by_cases z42 : k = [42]
        · subst z42
          have g0 : wrap32 ((p'[0]'hp0).toNat : Int) = 42 := (first_one HP.out hp0 rfl).1
          simp only [List.length_cons, List.length_nil] at hkl hkp
          have HST := Lib.hid (show StarI ks ts kc p'.size p' by
            have := HPAR.out
            rw [parse_star] at this
            obtain ⟨t, ht, rfl⟩ := Option.map_eq_some_iff.1 this
            exact ⟨jr, t, HP.out, ht, Nat.le_refl _, HF.out⟩)
          cases kc with
          | nil =>
            have hs0 : ¬ 0 < s'.size := by have := HS.out.nil_iff.2 rfl; omega
            have hse : ((s'.size : Int) == 0) = true := beq_yes (b := 0) (by omega)
            clear hcpos
            go_upto_block 3 with fail
            simp only [g0]
            go_cut [1] (fun v1 wx => ∃ p2 : ByteArray, v1 = .string p2 ∧ wx = wr ∧ StarI ks ts [] p'.size p2)
            case first =>
              go_wp2_with fail
              go_loopg [1] (p'.size) (fun d v1 wx => ∃ p2 : ByteArray, v1 = .string p2 ∧ wx = wr ∧ p2.size ≤ d ∧ StarI ks ts [] p'.size p2)
              case atStart => exact ⟨_, rfl, rfl, Nat.le_refl _, HST.out⟩
              case round =>
                obtain ⟨p2, rfl, hwx, hd2, hst⟩ := hrel
                subst hwx
                have hp2 := hst.pos
                have HST2 := Lib.hid hst
                have HD2 := Lib.hid hd2
                clear hst hd2
                by_cases hp21 : 1 < p2.size
                · obtain ⟨y, hy, hnext⟩ := HST2.out.two hp21
                  have HN := Lib.hid hnext
                  have HY := Lib.hid hy
                  clear hnext hy
                  by_cases hy42 : y.toNat = 42
                  · have t1 : (((p2[1]'hp21).toNat : Int) == 42) = true := beq_yes (b := 42) (by rw [HY.out]; exact hy42)
                    have HM := Lib.hid (HN.out hy42)
                    have hl := len_tail p2 1 (by omega) (by omega)
                    clear hy42
                    go_wp2_with fail
                    go_roundg (gk - 1)
                    case measure => have := HD2.out; omega
                    case rel => exact ⟨_, rfl, rfl, by have := HD2.out; omega, HM.out⟩
                  · have t1 : (((p2[1]'hp21).toNat : Int) == 42) = false := beq_no (b := 42) (by rw [HY.out]; exact hy42)
                    clear hy42
                    go_wp2_with fail
                    go_meet
                    exact ⟨_, rfl, rfl, HST2.out⟩
                · go_wp2_with fail
                  go_meet
                  exact ⟨_, rfl, rfl, HST2.out⟩
            case rest =>
              obtain ⟨p2, rfl, rfl, hst⟩ := hcut
              have hp2 := hst.pos
              obtain ⟨TT, hTI, hTF⟩ := hst.trim HS.out
              have HST2 := Lib.hid hst
              have HTI := Lib.hid hTI
              have HTF := Lib.hid hTF
              clear hst hTI hTF
              by_cases hp21 : p2.size = 1
              · have HYES := Lib.hid (HST2.out.one hp21)
                have t1 : ((p2.size : Int) == 1) = true := beq_yes (b := 1) hp21
                clear hp21
                go_wp2
                go_ret
                exact MPost.yes rfl HB.out HYES.out
              · have t1 : ((p2.size : Int) == 1) = false := beq_no (b := 1) hp21
                go_wp2_with fail
                refine (trimW s' p2 [] TT _ (by omega) (by omega) (tabs_below HT.out HB.out) HTI.out).mono ?_
                rintro e wt ⟨hbt, s2, p3, b, rfl, hyes, hno⟩
                have HWT := Lib.hid (below_of HB.out hbt)
                clear hbt
                cases b with
                | false =>
                  have HNO := Lib.hid (show ¬ Fit (ks.map ch) ts by rw [HTF.out]; exact hno rfl)
                  clear hyes hno
                  go_wp2
                  go_ret
                  exact MPost.no rfl HWT.out HNO.out
                | true =>
                  obtain ⟨hti, hs2⟩ := hyes rfl
                  clear hyes hno
                  obtain ⟨k3, j3, T3, q3, h31, h32, h33, h34, h35, h36, h37, h38⟩ := hti.parts
                  have hp3 := h32.pos
                  have H31 := Lib.hid h31
                  have H32 := Lib.hid h32
                  have H33 := Lib.hid h33
                  have H34 := Lib.hid h34
                  have H36 := Lib.hid h36
                  have HF3 := Lib.hid (HTF.out.trans h38)
                  clear hti h31 h32 h33 h34 h36 h38
                  by_cases hp31 : p3.size = 1
                  · have HYES := Lib.hid (show Fit (ks.map ch) ts by
                      rw [HF3.out]
                      have hz := H36.out.nil_iff.1 (by rw [ByteArray.size_extract]; omega)
                      have h33 := H33.out
                      rw [hz, parse_nil] at h33
                      injection h33 with h33
                      rw [← h33]
                      exact fit_star_last _)
                    have t2 : ((p3.size : Int) == 1) = true := beq_yes (b := 1) hp31
                    clear hp31
                    go_wp2
                    go_ret
                    exact MPost.yes rfl HWT.out HYES.out
                  · have t2 : ((p3.size : Int) == 1) = false := beq_no (b := 1) hp31
                    have hlt3 : (p3.extract 1 p3.size).size < n := by omega
                    by_cases hfit : Fit (k3.map ch) T3
                    · have HYES := Lib.hid (show Fit (ks.map ch) ts by rw [HF3.out]; exact fit_star_of hfit)
                      have HFT := Lib.hid hfit
                      clear hfit
                      go_wp2_with fail
                      refine (IH.out.hit s2 (p3.extract 1 p3.size) k3 j3 T3 _ (by omega) (by omega) hlt3 (tabs_below HT.out HWT.out) H31.out H36.out H33.out HFT.out).mono ?_
                      rintro e wr3 ⟨rfl, hb3⟩
                      have HW3 := Lib.hid (below_of HWT.out hb3)
                      clear hb3
                      go_wp2
                      go_ret
                      exact MPost.yes rfl HW3.out HYES.out
                    · have HFT := Lib.hid hfit
                      clear hfit
                      by_cases hs20 : 0 < s2.size
                      · exact absurd hs2 (by omega)
                      · have HNO := Lib.hid (wild_end H31.out HF3.out HFT.out (by omega))
                        have t3 : ((s2.size : Int) == 0) = true := beq_yes (b := 0) (by omega)
                        go_wp2_with fail
                        refine (IH.out.miss s2 (p3.extract 1 p3.size) k3 j3 T3 _ (by omega) (by omega) hlt3 (tabs_below HT.out HWT.out) H31.out H36.out H33.out HFT.out).mono ?_
                        rintro e wr3 ⟨rfl, hb3⟩
                        have HW3 := Lib.hid (below_of HWT.out hb3)
                        clear hb3
                        go_wp2
                        go_ret
                        exact MPost.no rfl HW3.out HNO.out
          | cons c kr =>
            have hs0 := HS.out.pos
            have hse : ((s'.size : Int) == 0) = false := beq_no (b := 0) (by omega)
            have hEc := Lib.hid (HS.out.1 c (by simp))
            have hcl := hEc.out.pos
            have hcs := HS.out.tail.2.2
            clear hcpos
            by_cases c1 : c.length = 1
            · obtain ⟨f0, f1⟩ := first_one HS.out hs0 c1
              have C1 := Lib.hid c1
              clear c1
              go_upto_block 3 with fail
              simp only [g0, f0]
              go_cut [1] (fun v1 wx => ∃ p2 : ByteArray, v1 = .string p2 ∧ wx = wr ∧ StarI ks ts (c :: kr) p'.size p2)
              case first =>
                go_wp2_with fail
                go_loopg [1] (p'.size) (fun d v1 wx => ∃ p2 : ByteArray, v1 = .string p2 ∧ wx = wr ∧ p2.size ≤ d ∧ StarI ks ts (c :: kr) p'.size p2)
                case atStart => exact ⟨_, rfl, rfl, Nat.le_refl _, HST.out⟩
                case round =>
                  obtain ⟨p2, rfl, hwx, hd2, hst⟩ := hrel
                  subst hwx
                  have hp2 := hst.pos
                  have HST2 := Lib.hid hst
                  have HD2 := Lib.hid hd2
                  clear hst hd2
                  by_cases hp21 : 1 < p2.size
                  · obtain ⟨y, hy, hnext⟩ := HST2.out.two hp21
                    have HN := Lib.hid hnext
                    have HY := Lib.hid hy
                    clear hnext hy
                    by_cases hy42 : y.toNat = 42
                    · have t1 : (((p2[1]'hp21).toNat : Int) == 42) = true := beq_yes (b := 42) (by rw [HY.out]; exact hy42)
                      have HM := Lib.hid (HN.out hy42)
                      have hl := len_tail p2 1 (by omega) (by omega)
                      clear hy42
                      go_wp2_with fail
                      go_roundg (gk - 1)
                      case measure => have := HD2.out; omega
                      case rel => exact ⟨_, rfl, rfl, by have := HD2.out; omega, HM.out⟩
                    · have t1 : (((p2[1]'hp21).toNat : Int) == 42) = false := beq_no (b := 42) (by rw [HY.out]; exact hy42)
                      clear hy42
                      go_wp2_with fail
                      go_meet
                      exact ⟨_, rfl, rfl, HST2.out⟩
                  · go_wp2_with fail
                    go_meet
                    exact ⟨_, rfl, rfl, HST2.out⟩
              case rest =>
                obtain ⟨p2, rfl, rfl, hst⟩ := hcut
                have hp2 := hst.pos
                obtain ⟨TT, hTI, hTF⟩ := hst.trim HS.out
                have HST2 := Lib.hid hst
                have HTI := Lib.hid hTI
                have HTF := Lib.hid hTF
                clear hst hTI hTF
                by_cases hp21 : p2.size = 1
                · have HYES := Lib.hid (HST2.out.one hp21)
                  have t1 : ((p2.size : Int) == 1) = true := beq_yes (b := 1) hp21
                  clear hp21
                  go_wp2
                  go_ret
                  exact MPost.yes rfl HB.out HYES.out
                · have t1 : ((p2.size : Int) == 1) = false := beq_no (b := 1) hp21
                  go_wp2_with fail
                  refine (trimW s' p2 (c :: kr) TT _ (by omega) (by omega) (tabs_below HT.out HB.out) HTI.out).mono ?_
                  rintro e wt ⟨hbt, s2, p3, b, rfl, hyes, hno⟩
                  have HWT := Lib.hid (below_of HB.out hbt)
                  clear hbt
                  cases b with
                  | false =>
                    have HNO := Lib.hid (show ¬ Fit (ks.map ch) ts by rw [HTF.out]; exact hno rfl)
                    clear hyes hno
                    go_wp2
                    go_ret
                    exact MPost.no rfl HWT.out HNO.out
                  | true =>
                    obtain ⟨hti, hs2⟩ := hyes rfl
                    clear hyes hno
                    obtain ⟨k3, j3, T3, q3, h31, h32, h33, h34, h35, h36, h37, h38⟩ := hti.parts
                    have hp3 := h32.pos
                    have H31 := Lib.hid h31
                    have H32 := Lib.hid h32
                    have H33 := Lib.hid h33
                    have H34 := Lib.hid h34
                    have H36 := Lib.hid h36
                    have HF3 := Lib.hid (HTF.out.trans h38)
                    clear hti h31 h32 h33 h34 h36 h38
                    by_cases hp31 : p3.size = 1
                    · have HYES := Lib.hid (show Fit (ks.map ch) ts by
                        rw [HF3.out]
                        have hz := H36.out.nil_iff.1 (by rw [ByteArray.size_extract]; omega)
                        have h33 := H33.out
                        rw [hz, parse_nil] at h33
                        injection h33 with h33
                        rw [← h33]
                        exact fit_star_last _)
                      have t2 : ((p3.size : Int) == 1) = true := beq_yes (b := 1) hp31
                      clear hp31
                      go_wp2
                      go_ret
                      exact MPost.yes rfl HWT.out HYES.out
                    · have t2 : ((p3.size : Int) == 1) = false := beq_no (b := 1) hp31
                      have hlt3 : (p3.extract 1 p3.size).size < n := by omega
                      by_cases hfit : Fit (k3.map ch) T3
                      · have HYES := Lib.hid (show Fit (ks.map ch) ts by rw [HF3.out]; exact fit_star_of hfit)
                        have HFT := Lib.hid hfit
                        clear hfit
                        go_wp2_with fail
                        refine (IH.out.hit s2 (p3.extract 1 p3.size) k3 j3 T3 _ (by omega) (by omega) hlt3 (tabs_below HT.out HWT.out) H31.out H36.out H33.out HFT.out).mono ?_
                        rintro e wr3 ⟨rfl, hb3⟩
                        have HW3 := Lib.hid (below_of HWT.out hb3)
                        clear hb3
                        go_wp2
                        go_ret
                        exact MPost.yes rfl HW3.out HYES.out
                      · have HFT := Lib.hid hfit
                        clear hfit
                        by_cases hs20 : 0 < s2.size
                        · obtain ⟨hm2, hl2⟩ := wild_next H31.out H32.out H33.out (Nat.le_trans h35 (Nat.le_trans hp2.2 hpl)) HF3.out HFT.out H34.out hs20
                          have HM := Lib.hid hm2
                          have C1' := C1.out
                          rw [C1'] at HM hl2
                          clear C1'
                          clear hm2
                          have t3 : ((s2.size : Int) == 0) = false := beq_no (b := 0) (by omega)
                          have hcs2 : 1 ≤ s2.size := by
                            rcases Nat.lt_or_ge s2.size 1 with h | h
                            · exfalso
                              have := H31.out; have := H34.out
                              exact wild_len H31.out H34.out hs20 (by rw [C1.out]; exact h)
                            · exact h
                          go_wp2_with fail
                          refine (IH.out.miss s2 (p3.extract 1 p3.size) k3 j3 T3 _ (by omega) (by omega) hlt3 (tabs_below HT.out HWT.out) H31.out H36.out H33.out HFT.out).mono ?_
                          rintro e wr3 ⟨rfl, hb3⟩
                          have HW3 := Lib.hid (below_of HWT.out hb3)
                          clear hb3
                          go_wp2
                          go_roundg (gk - 1)
                          case measure => have := HD.out; omega
                          case rel => exact ⟨_, _, rfl, rfl, by have := HD.out; omega, by omega, HM.out, HW3.out⟩
                        · have HNO := Lib.hid (wild_end H31.out HF3.out HFT.out (by omega))
                          have t3 : ((s2.size : Int) == 0) = true := beq_yes (b := 0) (by omega)
                          go_wp2_with fail
                          refine (IH.out.miss s2 (p3.extract 1 p3.size) k3 j3 T3 _ (by omega) (by omega) hlt3 (tabs_below HT.out HWT.out) H31.out H36.out H33.out HFT.out).mono ?_
                          rintro e wr3 ⟨rfl, hb3⟩
                          have HW3 := Lib.hid (below_of HWT.out hb3)
                          clear hb3
                          go_wp2
                          go_ret
                          exact MPost.no rfl HW3.out HNO.out
            · have f0 := first_more HS.out hs0 c1
              have C1 := Lib.hid c1
              have hcne : ((c.length : Int) == 0) = false := beq_no (b := 0) (by omega)
              clear c1
              go_wp2_with fail
              refine (Tryd.utf8_DecodeRuneInString s' _ (tabs_below HT.out HB.out)).mono ?_
              rw [HS.out.first]
              rintro e w1 ⟨rfl, hb_⟩
              have Hw1 := Lib.hid (below_of HB.out hb_)
              clear hb_
              go_upto_block 3 with fail
              go_cut [1] (fun v1 wx => ∃ p2 : ByteArray, v1 = .string p2 ∧ wx = w1 ∧ StarI ks ts (c :: kr) p'.size p2)
              case first =>
                go_wp2_with fail
                go_loopg [1] (p'.size) (fun d v1 wx => ∃ p2 : ByteArray, v1 = .string p2 ∧ wx = w1 ∧ p2.size ≤ d ∧ StarI ks ts (c :: kr) p'.size p2)
                case atStart => exact ⟨_, rfl, rfl, Nat.le_refl _, HST.out⟩
                case round =>
                  obtain ⟨p2, rfl, hwx, hd2, hst⟩ := hrel
                  subst hwx
                  have hp2 := hst.pos
                  have HST2 := Lib.hid hst
                  have HD2 := Lib.hid hd2
                  clear hst hd2
                  by_cases hp21 : 1 < p2.size
                  · obtain ⟨y, hy, hnext⟩ := HST2.out.two hp21
                    have HN := Lib.hid hnext
                    have HY := Lib.hid hy
                    clear hnext hy
                    by_cases hy42 : y.toNat = 42
                    · have t1 : (((p2[1]'hp21).toNat : Int) == 42) = true := beq_yes (b := 42) (by rw [HY.out]; exact hy42)
                      have HM := Lib.hid (HN.out hy42)
                      have hl := len_tail p2 1 (by omega) (by omega)
                      clear hy42
                      go_wp2_with fail
                      go_roundg (gk - 1)
                      case measure => have := HD2.out; omega
                      case rel => exact ⟨_, rfl, rfl, by have := HD2.out; omega, HM.out⟩
                    · have t1 : (((p2[1]'hp21).toNat : Int) == 42) = false := beq_no (b := 42) (by rw [HY.out]; exact hy42)
                      clear hy42
                      go_wp2_with fail
                      go_meet
                      exact ⟨_, rfl, rfl, HST2.out⟩
                  · go_wp2_with fail
                    go_meet
                    exact ⟨_, rfl, rfl, HST2.out⟩
              case rest =>
                obtain ⟨p2, rfl, rfl, hst⟩ := hcut
                have hp2 := hst.pos
                obtain ⟨TT, hTI, hTF⟩ := hst.trim HS.out
                have HST2 := Lib.hid hst
                have HTI := Lib.hid hTI
                have HTF := Lib.hid hTF
                clear hst hTI hTF
                by_cases hp21 : p2.size = 1
                · have HYES := Lib.hid (HST2.out.one hp21)
                  have t1 : ((p2.size : Int) == 1) = true := beq_yes (b := 1) hp21
                  clear hp21
                  go_wp2
                  go_ret
                  exact MPost.yes rfl Hw1.out HYES.out
                · have t1 : ((p2.size : Int) == 1) = false := beq_no (b := 1) hp21
                  go_wp2_with fail
                  refine (trimW s' p2 (c :: kr) TT _ (by omega) (by omega) (tabs_below HT.out Hw1.out) HTI.out).mono ?_
                  rintro e wt ⟨hbt, s2, p3, b, rfl, hyes, hno⟩
                  have HWT := Lib.hid (below_of Hw1.out hbt)
                  clear hbt
                  cases b with
                  | false =>
                    have HNO := Lib.hid (show ¬ Fit (ks.map ch) ts by rw [HTF.out]; exact hno rfl)
                    clear hyes hno
                    go_wp2
                    go_ret
                    exact MPost.no rfl HWT.out HNO.out
                  | true =>
                    obtain ⟨hti, hs2⟩ := hyes rfl
                    clear hyes hno
                    obtain ⟨k3, j3, T3, q3, h31, h32, h33, h34, h35, h36, h37, h38⟩ := hti.parts
                    have hp3 := h32.pos
                    have H31 := Lib.hid h31
                    have H32 := Lib.hid h32
                    have H33 := Lib.hid h33
                    have H34 := Lib.hid h34
                    have H36 := Lib.hid h36
                    have HF3 := Lib.hid (HTF.out.trans h38)
                    clear hti h31 h32 h33 h34 h36 h38
                    by_cases hp31 : p3.size = 1
                    · have HYES := Lib.hid (show Fit (ks.map ch) ts by
                        rw [HF3.out]
                        have hz := H36.out.nil_iff.1 (by rw [ByteArray.size_extract]; omega)
                        have h33 := H33.out
                        rw [hz, parse_nil] at h33
                        injection h33 with h33
                        rw [← h33]
                        exact fit_star_last _)
                      have t2 : ((p3.size : Int) == 1) = true := beq_yes (b := 1) hp31
                      clear hp31
                      go_wp2
                      go_ret
                      exact MPost.yes rfl HWT.out HYES.out
                    · have t2 : ((p3.size : Int) == 1) = false := beq_no (b := 1) hp31
                      have hlt3 : (p3.extract 1 p3.size).size < n := by omega
                      by_cases hfit : Fit (k3.map ch) T3
                      · have HYES := Lib.hid (show Fit (ks.map ch) ts by rw [HF3.out]; exact fit_star_of hfit)
                        have HFT := Lib.hid hfit
                        clear hfit
                        go_wp2_with fail
                        refine (IH.out.hit s2 (p3.extract 1 p3.size) k3 j3 T3 _ (by omega) (by omega) hlt3 (tabs_below HT.out HWT.out) H31.out H36.out H33.out HFT.out).mono ?_
                        rintro e wr3 ⟨rfl, hb3⟩
                        have HW3 := Lib.hid (below_of HWT.out hb3)
                        clear hb3
                        go_wp2
                        go_ret
                        exact MPost.yes rfl HW3.out HYES.out
                      · have HFT := Lib.hid hfit
                        clear hfit
                        by_cases hs20 : 0 < s2.size
                        · obtain ⟨hm2, hl2⟩ := wild_next H31.out H32.out H33.out (Nat.le_trans h35 (Nat.le_trans hp2.2 hpl)) HF3.out HFT.out H34.out hs20
                          have HM := Lib.hid hm2
                          skip
                          clear hm2
                          have t3 : ((s2.size : Int) == 0) = false := beq_no (b := 0) (by omega)
                          have hcs2 : c.length ≤ s2.size := by
                            rcases Nat.lt_or_ge s2.size c.length with h | h
                            · exfalso
                              have := H31.out; have := H34.out
                              exact wild_len H31.out H34.out hs20 h
                            · exact h
                          go_wp2_with fail
                          refine (IH.out.miss s2 (p3.extract 1 p3.size) k3 j3 T3 _ (by omega) (by omega) hlt3 (tabs_below HT.out HWT.out) H31.out H36.out H33.out HFT.out).mono ?_
                          rintro e wr3 ⟨rfl, hb3⟩
                          have HW3 := Lib.hid (below_of HWT.out hb3)
                          clear hb3
                          go_wp2
                          go_roundg (gk - 1)
                          case measure => have := HD.out; omega
                          case rel => exact ⟨_, _, rfl, rfl, by have := HD.out; omega, by omega, HM.out, HW3.out⟩
                        · have HNO := Lib.hid (wild_end H31.out HF3.out HFT.out (by omega))
                          have t3 : ((s2.size : Int) == 0) = true := beq_yes (b := 0) (by omega)
                          go_wp2_with fail
                          refine (IH.out.miss s2 (p3.extract 1 p3.size) k3 j3 T3 _ (by omega) (by omega) hlt3 (tabs_below HT.out HWT.out) H31.out H36.out H33.out HFT.out).mono ?_
                          rintro e wr3 ⟨rfl, hb3⟩
                          have HW3 := Lib.hid (below_of HWT.out hb3)
                          clear hb3
                          go_wp2
                          go_ret
                          exact MPost.no rfl HW3.out HNO.out
        by_cases z63 : k = [63]
        · subst z63
          have g0 : wrap32 ((p'[0]'hp0).toNat : Int) = 63 := (first_one HP.out hp0 rfl).1
          obtain ⟨tr, htr, rfl⟩ : ∃ tr, parse jr = some tr ∧ tc = .one :: tr := by
            have := HPAR.out
            rw [parse_cons (by decide)] at this
            obtain ⟨t, ht, rfl⟩ := Option.map_eq_some_iff.1 this
            exact ⟨t, ht, rfl⟩
          have HTR := Lib.hid htr
          have K1 := Lib.hid (show [(63 : UInt8)].length = 1 from rfl)
          clear htr
          cases kc with
          | nil =>
            have hs0 : ¬ 0 < s'.size := by have := HS.out.nil_iff.2 rfl; omega
            have hse : ((s'.size : Int) == 0) = true := beq_yes (b := 0) (by omega)
            clear hcpos
            have HNO := Lib.hid (show ¬ Fit (ks.map ch) ts by rw [HF.out]; exact fit_nil_one)
            go_wp2
            go_ret
            exact MPost.no rfl HB.out HNO.out
          | cons c kr =>
            have hs0 := HS.out.pos
            have hse : ((s'.size : Int) == 0) = false := beq_no (b := 0) (by omega)
            have hEc := Lib.hid (HS.out.1 c (by simp))
            have hcl := hEc.out.pos
            have hcs := HS.out.tail.2.2
            clear hcpos
            by_cases c1 : c.length = 1
            · obtain ⟨f0, f1⟩ := first_one HS.out hs0 c1
              have C1 := Lib.hid c1
              clear c1
              have HM := Lib.hid (mat_one HS.out HP.out HTR.out hpl HF.out)
              have hLs := len_tail s' 1 (by omega) hs0
              have hLp := len_tail p' 1 (by omega) hp0
              simp only [K1.out, C1.out] at HM
              go_wp2
              go_roundg (gk - 1)
              case measure => have := HD.out; omega
              case rel => exact ⟨_, _, rfl, rfl, by have := HD.out; omega, by omega, HM.out, HB.out⟩
            · have f0 := first_more HS.out hs0 c1
              have C1 := Lib.hid c1
              have hcne : ((c.length : Int) == 0) = false := beq_no (b := 0) (by omega)
              clear c1
              have HM := Lib.hid (mat_one HS.out HP.out HTR.out hpl HF.out)
              have hLs := len_tail s' c.length (by omega) hs0
              have hLp := len_tail p' 1 (by omega) hp0
              simp only [K1.out] at HM
              go_wp2_with (first
                | (go_at_call 18; go_must (refine (Tryd.utf8_DecodeRuneInString s' _ (tabs_below HT.out HB.out)).mono ?_); rw [HS.out.first]; rintro e w1 ⟨rfl, hb_⟩; have Hw1 := Lib.hid (below_of HB.out hb_); clear hb_))
              go_roundg (gk - 1)
              case measure => have := HD.out; omega
              case rel => exact ⟨_, _, rfl, rfl, by have := HD.out; omega, by omega, HM.out, Hw1.out⟩
        by_cases z92 : k = [92]
        · subst z92
          have g0 : wrap32 ((p'[0]'hp0).toNat : Int) = 92 := (first_one HP.out hp0 rfl).1
          obtain ⟨k2, jr2, tr, hjr, htr, rfl⟩ : ∃ k2 jr2 tr, jr = k2 :: jr2 ∧ parse jr2 = some tr ∧ tc = .chr (ch k2) :: tr := by
            have := HPAR.out
            cases jr with
            | nil => rw [parse_esc_end] at this; cases this
            | cons k2 jr2 =>
              rw [parse_esc] at this
              obtain ⟨t, ht, rfl⟩ := Option.map_eq_some_iff.1 this
              exact ⟨k2, jr2, t, rfl, ht, rfl⟩
          subst hjr
          have HTR := Lib.hid htr
          have HP2 := Lib.hid (show Txt (p'.extract 1 p'.size) (k2 :: jr2) from HP.out.tail.1)
          have hk2p := (HP2.out.1 k2 (by simp)).pos
          have hk2s := HP2.out.tail.2.2
          have hLp1 := len_tail p' 1 (by omega) hp0
          have hpl2 : (p'.extract 1 p'.size).size ≤ p.size := by omega
          have hk2ne : ((k2.length : Int) == 0) = false := beq_no (b := 0) (by omega)
          clear htr
          cases kc with
          | nil =>
            have hs0 : ¬ 0 < s'.size := by have := HS.out.nil_iff.2 rfl; omega
            have hse : ((s'.size : Int) == 0) = true := beq_yes (b := 0) (by omega)
            clear hcpos
            have HNO := Lib.hid (show ¬ Fit (ks.map ch) ts by rw [HF.out]; exact fit_nil_chr)
            go_wp2
            go_ret
            exact MPost.no rfl HB.out HNO.out
          | cons c kr =>
            have hs0 := HS.out.pos
            have hse : ((s'.size : Int) == 0) = false := beq_no (b := 0) (by omega)
            have hEc := Lib.hid (HS.out.1 c (by simp))
            have hcl := hEc.out.pos
            have hcs := HS.out.tail.2.2
            clear hcpos
            by_cases c1 : c.length = 1
            · obtain ⟨f0, f1⟩ := first_one HS.out hs0 c1
              have C1 := Lib.hid c1
              clear c1
              by_cases hcc : ch c = ch k2
              · have t4 : ((ch c : Int) != (ch k2 : Int)) = false := bne_no hcc
                have HM := Lib.hid (mat_chr HS.out HP2.out HTR.out hpl2 HF.out hcc)
                have hLs := len_tail s' 1 (by omega) hs0
                have hLp := len_tail (p'.extract 1 p'.size) k2.length hk2p HP2.out.pos
                have hps1 : (p'.extract 1 p'.size).size = p'.size - 1 := by rw [ByteArray.size_extract]; omega
                rw [hps1] at HM hLp
                clear hps1
                simp only [C1.out] at HM
                clear hcc
                go_wp2_with fail
                refine (Tryd.utf8_DecodeRuneInString (p'.extract 1 p'.size) _ (tabs_below HT.out HB.out)).mono ?_
                rw [HP2.out.first]
                rintro e w2 ⟨rfl, hb_⟩
                have Hw2 := Lib.hid (below_of HB.out hb_)
                clear hb_
                go_wp2
                go_roundg (gk - 1)
                case measure => have := HD.out; omega
                case rel => exact ⟨_, _, rfl, rfl, by have := HD.out; omega, by omega, HM.out, Hw2.out⟩
              · have t4 : ((ch c : Int) != (ch k2 : Int)) = true := bne_yes hcc
                have HNO := Lib.hid (mat_ne HF.out hcc)
                clear hcc
                go_wp2_with fail
                refine (Tryd.utf8_DecodeRuneInString (p'.extract 1 p'.size) _ (tabs_below HT.out HB.out)).mono ?_
                rw [HP2.out.first]
                rintro e w2 ⟨rfl, hb_⟩
                have Hw2 := Lib.hid (below_of HB.out hb_)
                clear hb_
                go_wp2
                go_ret
                exact MPost.no rfl Hw2.out HNO.out
            · have f0 := first_more HS.out hs0 c1
              have C1 := Lib.hid c1
              have hcne : ((c.length : Int) == 0) = false := beq_no (b := 0) (by omega)
              clear c1
              by_cases hcc : ch c = ch k2
              · have t4 : ((ch c : Int) != (ch k2 : Int)) = false := bne_no hcc
                have HM := Lib.hid (mat_chr HS.out HP2.out HTR.out hpl2 HF.out hcc)
                have hLs := len_tail s' c.length (by omega) hs0
                have hLp := len_tail (p'.extract 1 p'.size) k2.length hk2p HP2.out.pos
                have hps1 : (p'.extract 1 p'.size).size = p'.size - 1 := by rw [ByteArray.size_extract]; omega
                rw [hps1] at HM hLp
                clear hps1
                clear hcc
                go_wp2_with fail
                refine (Tryd.utf8_DecodeRuneInString s' _ (tabs_below HT.out HB.out)).mono ?_
                rw [HS.out.first]
                rintro e w1 ⟨rfl, hb_⟩
                have Hw1 := Lib.hid (below_of HB.out hb_)
                clear hb_
                go_wp2_with fail
                refine (Tryd.utf8_DecodeRuneInString (p'.extract 1 p'.size) _ (tabs_below HT.out Hw1.out)).mono ?_
                rw [HP2.out.first]
                rintro e w2 ⟨rfl, hb_⟩
                have Hw2 := Lib.hid (below_of Hw1.out hb_)
                clear hb_
                go_wp2
                go_roundg (gk - 1)
                case measure => have := HD.out; omega
                case rel => exact ⟨_, _, rfl, rfl, by have := HD.out; omega, by omega, HM.out, Hw2.out⟩
              · have t4 : ((ch c : Int) != (ch k2 : Int)) = true := bne_yes hcc
                have HNO := Lib.hid (mat_ne HF.out hcc)
                clear hcc
                go_wp2_with fail
                refine (Tryd.utf8_DecodeRuneInString s' _ (tabs_below HT.out HB.out)).mono ?_
                rw [HS.out.first]
                rintro e w1 ⟨rfl, hb_⟩
                have Hw1 := Lib.hid (below_of HB.out hb_)
                clear hb_
                go_wp2_with fail
                refine (Tryd.utf8_DecodeRuneInString (p'.extract 1 p'.size) _ (tabs_below HT.out Hw1.out)).mono ?_
                rw [HP2.out.first]
                rintro e w2 ⟨rfl, hb_⟩
                have Hw2 := Lib.hid (below_of Hw1.out hb_)
                clear hb_
                go_wp2
                go_ret
                exact MPost.no rfl Hw2.out HNO.out
        obtain ⟨tr, htr, rfl⟩ : ∃ tr, parse jr = some tr ∧ tc = .chr (ch k) :: tr := by
          have := HPAR.out
          rw [parse_cons z92] at this
          obtain ⟨t, ht, rfl⟩ := Option.map_eq_some_iff.1 this
          exact ⟨t, ht, by unfold glOf; rw [if_neg z42, if_neg z63]⟩
        have HTR := Lib.hid htr
        have g42 : ((ch k : Int) == 42) = false := beq_no (b := 42) (fun e => z42 ((hEk.out.ascii (a := 42) (by decide)).1 e))
        have g63 : ((ch k : Int) == 63) = false := beq_no (b := 63) (fun e => z63 ((hEk.out.ascii (a := 63) (by decide)).1 e))
        have g92 : ((ch k : Int) == 92) = false := beq_no (b := 92) (fun e => z92 ((hEk.out.ascii (a := 92) (by decide)).1 e))
        clear htr z42 z63 z92
        by_cases k1 : k.length = 1
        · obtain ⟨g0, g1⟩ := first_one HP.out hp0 k1
          have K1 := Lib.hid k1
          clear k1
          cases kc with
          | nil =>
            have hs0 : ¬ 0 < s'.size := by have := HS.out.nil_iff.2 rfl; omega
            have hse : ((s'.size : Int) == 0) = true := beq_yes (b := 0) (by omega)
            clear hcpos
            have HNO := Lib.hid (show ¬ Fit (ks.map ch) ts by rw [HF.out]; exact fit_nil_chr)
            go_wp2
            go_ret
            exact MPost.no rfl HB.out HNO.out
          | cons c kr =>
            have hs0 := HS.out.pos
            have hse : ((s'.size : Int) == 0) = false := beq_no (b := 0) (by omega)
            have hEc := Lib.hid (HS.out.1 c (by simp))
            have hcl := hEc.out.pos
            have hcs := HS.out.tail.2.2
            clear hcpos
            by_cases c1 : c.length = 1
            · obtain ⟨f0, f1⟩ := first_one HS.out hs0 c1
              have C1 := Lib.hid c1
              clear c1
              by_cases hcc : ch c = ch k
              · have t4 : ((ch c : Int) != (ch k : Int)) = false := bne_no hcc
                have HM := Lib.hid (mat_chr HS.out HP.out HTR.out hpl HF.out hcc)
                have hLs := len_tail s' 1 (by omega) hs0
                have hLp := len_tail p' 1 (by omega) hp0
                simp only [K1.out, C1.out] at HM
                clear hcc
                go_wp2
                go_roundg (gk - 1)
                case measure => have := HD.out; omega
                case rel => exact ⟨_, _, rfl, rfl, by have := HD.out; omega, by omega, HM.out, HB.out⟩
              · have t4 : ((ch c : Int) != (ch k : Int)) = true := bne_yes hcc
                have HNO := Lib.hid (mat_ne HF.out hcc)
                clear hcc
                go_wp2
                go_ret
                exact MPost.no rfl HB.out HNO.out
            · have f0 := first_more HS.out hs0 c1
              have C1 := Lib.hid c1
              have hcne : ((c.length : Int) == 0) = false := beq_no (b := 0) (by omega)
              clear c1
              by_cases hcc : ch c = ch k
              · have t4 : ((ch c : Int) != (ch k : Int)) = false := bne_no hcc
                have HM := Lib.hid (mat_chr HS.out HP.out HTR.out hpl HF.out hcc)
                have hLs := len_tail s' c.length (by omega) hs0
                have hLp := len_tail p' 1 (by omega) hp0
                simp only [K1.out] at HM
                clear hcc
                go_wp2_with fail
                refine (Tryd.utf8_DecodeRuneInString s' _ (tabs_below HT.out HB.out)).mono ?_
                rw [HS.out.first]
                rintro e w1 ⟨rfl, hb_⟩
                have Hw1 := Lib.hid (below_of HB.out hb_)
                clear hb_
                go_wp2
                go_roundg (gk - 1)
                case measure => have := HD.out; omega
                case rel => exact ⟨_, _, rfl, rfl, by have := HD.out; omega, by omega, HM.out, Hw1.out⟩
              · have t4 : ((ch c : Int) != (ch k : Int)) = true := bne_yes hcc
                have HNO := Lib.hid (mat_ne HF.out hcc)
                clear hcc
                go_wp2_with fail
                refine (Tryd.utf8_DecodeRuneInString s' _ (tabs_below HT.out HB.out)).mono ?_
                rw [HS.out.first]
                rintro e w1 ⟨rfl, hb_⟩
                have Hw1 := Lib.hid (below_of HB.out hb_)
                clear hb_
                go_wp2
                go_ret
                exact MPost.no rfl Hw1.out HNO.out
        · have g0 := first_more HP.out hp0 k1
          clear k1
          cases kc with
          | nil =>
            have hs0 : ¬ 0 < s'.size := by have := HS.out.nil_iff.2 rfl; omega
            have hse : ((s'.size : Int) == 0) = true := beq_yes (b := 0) (by omega)
            clear hcpos
            have HNO := Lib.hid (show ¬ Fit (ks.map ch) ts by rw [HF.out]; exact fit_nil_chr)
            go_wp2_with fail
            refine (Tryd.utf8_DecodeRuneInString p' _ (tabs_below HT.out HB.out)).mono ?_
            rw [HP.out.first]
            rintro e w1 ⟨rfl, hb_⟩
            have Hw1 := Lib.hid (below_of HB.out hb_)
            clear hb_
            go_wp2
            go_ret
            exact MPost.no rfl Hw1.out HNO.out
          | cons c kr =>
            have hs0 := HS.out.pos
            have hse : ((s'.size : Int) == 0) = false := beq_no (b := 0) (by omega)
            have hEc := Lib.hid (HS.out.1 c (by simp))
            have hcl := hEc.out.pos
            have hcs := HS.out.tail.2.2
            clear hcpos
            by_cases c1 : c.length = 1
            · obtain ⟨f0, f1⟩ := first_one HS.out hs0 c1
              have C1 := Lib.hid c1
              clear c1
              by_cases hcc : ch c = ch k
              · have t4 : ((ch c : Int) != (ch k : Int)) = false := bne_no hcc
                have HM := Lib.hid (mat_chr HS.out HP.out HTR.out hpl HF.out hcc)
                have hLs := len_tail s' 1 (by omega) hs0
                have hLp := len_tail p' k.length (by omega) hp0
                simp only [C1.out] at HM
                clear hcc
                go_wp2_with fail
                refine (Tryd.utf8_DecodeRuneInString p' _ (tabs_below HT.out HB.out)).mono ?_
                rw [HP.out.first]
                rintro e w1 ⟨rfl, hb_⟩
                have Hw1 := Lib.hid (below_of HB.out hb_)
                clear hb_
                go_wp2
                go_roundg (gk - 1)
                case measure => have := HD.out; omega
                case rel => exact ⟨_, _, rfl, rfl, by have := HD.out; omega, by omega, HM.out, Hw1.out⟩
              · have t4 : ((ch c : Int) != (ch k : Int)) = true := bne_yes hcc
                have HNO := Lib.hid (mat_ne HF.out hcc)
                clear hcc
                go_wp2_with fail
                refine (Tryd.utf8_DecodeRuneInString p' _ (tabs_below HT.out HB.out)).mono ?_
                rw [HP.out.first]
                rintro e w1 ⟨rfl, hb_⟩
                have Hw1 := Lib.hid (below_of HB.out hb_)
                clear hb_
                go_wp2
                go_ret
                exact MPost.no rfl Hw1.out HNO.out
            · have f0 := first_more HS.out hs0 c1
              have C1 := Lib.hid c1
              have hcne : ((c.length : Int) == 0) = false := beq_no (b := 0) (by omega)
              clear c1
              by_cases hcc : ch c = ch k
              · have t4 : ((ch c : Int) != (ch k : Int)) = false := bne_no hcc
                have HM := Lib.hid (mat_chr HS.out HP.out HTR.out hpl HF.out hcc)
                have hLs := len_tail s' c.length (by omega) hs0
                have hLp := len_tail p' k.length (by omega) hp0
                clear hcc
                go_wp2_with fail
                refine (Tryd.utf8_DecodeRuneInString p' _ (tabs_below HT.out HB.out)).mono ?_
                rw [HP.out.first]
                rintro e w1 ⟨rfl, hb_⟩
                have Hw1 := Lib.hid (below_of HB.out hb_)
                clear hb_
                go_wp2_with fail
                refine (Tryd.utf8_DecodeRuneInString s' _ (tabs_below HT.out Hw1.out)).mono ?_
                rw [HS.out.first]
                rintro e w2 ⟨rfl, hb_⟩
                have Hw2 := Lib.hid (below_of Hw1.out hb_)
                clear hb_
                go_wp2
                go_roundg (gk - 1)
                case measure => have := HD.out; omega
                case rel => exact ⟨_, _, rfl, rfl, by have := HD.out; omega, by omega, HM.out, Hw2.out⟩
              · have t4 : ((ch c : Int) != (ch k : Int)) = true := bne_yes hcc
                have HNO := Lib.hid (mat_ne HF.out hcc)
                clear hcc
                go_wp2_with fail
                refine (Tryd.utf8_DecodeRuneInString p' _ (tabs_below HT.out HB.out)).mono ?_
                rw [HP.out.first]
                rintro e w1 ⟨rfl, hb_⟩
                have Hw1 := Lib.hid (below_of HB.out hb_)
                clear hb_
                go_wp2_with fail
                refine (Tryd.utf8_DecodeRuneInString s' _ (tabs_below HT.out Hw1.out)).mono ?_
                rw [HS.out.first]
                rintro e w2 ⟨rfl, hb_⟩
                have Hw2 := Lib.hid (below_of Hw1.out hb_)
                clear hb_
                go_wp2
                go_ret
                exact MPost.no rfl Hw2.out HNO.out
    · have hz := hpJ.nil_iff.1 (by omega)
      subst hz
      have htc : tc = [] := by have := HPAR.out; rw [parse_nil] at this; injection this with this; exact this.symm
      subst htc
      clear hpJ
      by_cases hs0 : 0 < s'.size
      · have HNO := Lib.hid (show ¬ Fit (ks.map ch) ts by
          rw [HF.out]; intro h
          have h2 : kc.map ch = [] := h
          have h3 := HS.out.nil_iff.2 (List.map_eq_nil_iff.1 h2)
          omega)
        have hne : ((s'.size : Int) == 0) = false := beq_no (b := 0) (by omega)
        go_wp2
        go_ret
        exact MPost.no rfl HB.out HNO.out
      · have HYES := Lib.hid (show Fit (ks.map ch) ts by
          rw [HF.out, HS.out.nil_iff.1 (by omega)]; rfl)
        have hne : ((s'.size : Int) == 0) = true := beq_yes (b := 0) (by omega)
        go_wp2
        go_ret
        exact MPost.yes rfl HB.out HYES.out
theorem matchAll : ∀ n, MC n
  | 0 => fun s p ks js ts w hs hp hn => absurd hn (by omega)
  | n + 1 => matchW n (matchAll n)
end Go.Proofs.YtmpjkhcddfdboaaDoor.M
