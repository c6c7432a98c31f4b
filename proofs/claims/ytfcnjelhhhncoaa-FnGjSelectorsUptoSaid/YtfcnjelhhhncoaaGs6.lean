/- FnGjSelectors: parseSubSelectors takes a list of paths apart. -/
import Derived.Test.YtfcnjelhhhncoaaGs5
namespace Go.Proofs.Ytfcnjelhhhncoaa.L
open Go.RowKit
set_option linter.unusedVariables false
set_option linter.unusedSimpArgs false

theorem Its.lt {t : ByteArray} {cl : Int} {a e : Nat} {xs : List Itm} (h : Its t cl a xs e) : e < t.size ∧ bt t (e : Int) = cl := by
  induction h with
  | last h hb hc => exact ⟨hb, hc⟩
  | cons h hb hc r ih => exact ih
/-- Behind an item that ends at b. -/
def Tail (t : ByteArray) (cl : Int) (e b : Nat) (xs : List Itm) : Prop := (xs = [] ∧ e = b ∧ bt t (b : Int) = cl) ∨ (bt t (b : Int) = 44 ∧ Its t cl (b + 1) xs e ∧ xs ≠ [])
/-- At i, in the path of an item. -/
def MP (t : ByteArray) (cl : Int) (e i col st : Nat) (nm pt : ByteArray) (xs : List Itm) : Prop := ∃ b, i ≤ b ∧ b < t.size ∧ st ≤ b ∧ (∀ j : Nat, i ≤ j → j < b → PlainB (bt t (j : Int))) ∧ ((col = 0 ∧ nm = ⟨#[]⟩ ∧ pt = t.extract st b) ∨ (0 < col ∧ st ≤ col ∧ col + 1 ≤ b ∧ nm = t.extract st col ∧ pt = t.extract (col + 1) b)) ∧ Tail t cl e b xs
/-- At i, at the colon of an item. -/
def MC (t : ByteArray) (cl : Int) (e i col st : Nat) (nm pt : ByteArray) (xs : List Itm) : Prop := i < t.size ∧ bt t (i : Int) = 58 ∧ col = 0 ∧ 0 < i ∧ st ≤ i ∧ MP t cl e (i + 1) i st nm pt xs
/-- At i, at the start of a quoted name. -/
def MQ (t : ByteArray) (cl : Int) (e i col st : Nat) (nm pt : ByteArray) (xs : List Itm) : Prop := col = 0 ∧ st = i ∧ i < t.size ∧ bt t (i : Int) = 34 ∧ ∃ c, i < c ∧ c < t.size ∧ bt t (c : Int) = 34 ∧ (∀ j : Nat, i < j → j < c → bt t (j : Int) ≠ 34 ∧ bt t (j : Int) ≠ 92) ∧ MC t cl e (c + 1) 0 st nm pt xs
theorem Its.ne {t : ByteArray} {cl : Int} {a e : Nat} {xs : List Itm} (h : Its t cl a xs e) : xs ≠ [] := by cases h <;> simp
theorem mode_item {t : ByteArray} {cl : Int} {a b e : Nat} {x : Itm} {xs : List Itm} (h : It t a b x) (hb : b < t.size) (ht : Tail t cl e b xs) : MP t cl e a 0 a x.1 x.2 xs ∨ MQ t cl e a 0 a x.1 x.2 xs := by
  obtain ⟨-, ⟨h1, h2, h3, h4⟩ | ⟨c, h1, h2, h3, h4, h5, h6, h7, h8, h9⟩⟩ := h
  · exact .inl ⟨b, h2, hb, h2, h4, .inl ⟨rfl, h1, h3⟩, ht⟩
  · exact .inr ⟨rfl, rfl, by omega, h3, c, h1, by omega, h4, h5, by omega, h6, rfl, by omega, by omega, b, by omega, hb, by omega, (fun j hj hj2 => h9 j (by omega) hj2), .inr ⟨by omega, by omega, by omega, h7, h8⟩, ht⟩
theorem mode_of {t : ByteArray} {cl : Int} {a e : Nat} {xs : List Itm} (h : Its t cl a xs e) : ∃ x ys, xs = x :: ys ∧ (MP t cl e a 0 a x.1 x.2 ys ∨ MQ t cl e a 0 a x.1 x.2 ys) := by
  cases h with
  | last h hb hc => exact ⟨_, _, rfl, mode_item h hb (.inl ⟨rfl, rfl, hc⟩)⟩
  | cons h hb hc r => exact ⟨_, _, rfl, mode_item h hb (.inr ⟨hc, r, r.ne⟩)⟩
def subV (xs : List Itm) : List Value := xs.flatMap fun x => [.string x.1, .string x.2]
theorem subV_snoc (xs : List Itm) (x : Itm) : subV (xs ++ [x]) = subV xs ++ [.string x.1, .string x.2] := by simp [subV]
/-- A plain byte is none of the marks. -/
theorem plain_not {z : Int} (h : PlainB z) : (z == 92) = false ∧ (z == 64) = false ∧ (z == 58) = false ∧ (z == 44) = false ∧ (z == 34) = false ∧ (z == 91) = false ∧ (z == 40) = false ∧ (z == 123) = false ∧ (z == 93) = false ∧ (z == 41) = false ∧ (z == 125) = false := by
  refine ⟨?_, ?_, ?_, ?_, ?_, ?_, ?_, ?_, ?_, ?_, ?_⟩ <;> refine beq_eq_false_iff_ne.2 (fun e => ?_) <;> subst e <;> rcases h with (⟨a, b⟩ | ⟨a, b⟩ | ⟨a, b⟩ | a) | a <;> omega
/-- What parseSubSelectors answers. -/
def SubPost (w0 : World) (T : ByteArray) (xs : List Itm) (e : Nat) (en : Ending) (w' : World) : Prop := ∃ v, en = .returned (.tuple #[v, .string (T.extract (e + 1) T.size), .bool true]) ∧ Below w0.heap.size w0 w' ∧ w'.ownsRow (w0.heap.size + 6) 55 2 v xs.length (subV xs)
theorem gm_start (T : ByteArray) (w : World) : Gm w T w.heap.size 1 0 1 (.slice none 0 0) 0 [] ((((((w.alloc (.cells #[.string T] 9)).alloc (.cells #[.slice none 0 0] 51)).alloc (.cells #[.int .i64 0] 3)).alloc (.cells #[.int .i64 0] 3)).alloc (.cells #[.int .i64 1] 3)).alloc (.cells #[.int .i64 1] 3)) := by
  have l : ∀ (wx : World) (g : Nat) (t : TypeId) (v : Value) (o : Obj), One wx g t v → One (wx.alloc o) g t v := fun wx g t v o h => h.below (below_alloc (Below.refl _ _) o)
  have s1 := One.new w 9 (.string T)
  obtain ⟨w1, e1⟩ : ∃ w1, w.alloc (.cells #[.string T] 9) = w1 := ⟨_, rfl⟩
  rw [e1] at s1 ⊢
  have z1 : w1.heap.size = w.heap.size + 1 := by rw [← e1]; simp
  have b1 : Below w.heap.size w w1 := by rw [← e1]; exact below_alloc (Below.refl _ _) _
  have s2 := One.new w1 51 (.slice none 0 0)
  obtain ⟨w2, e2⟩ : ∃ w2, w1.alloc (.cells #[.slice none 0 0] 51) = w2 := ⟨_, rfl⟩
  replace s1 := l _ _ _ _ (.cells #[.slice none 0 0] 51) s1
  rw [e2] at s1 s2 ⊢
  have z2 : w2.heap.size = w.heap.size + 2 := by rw [← e2]; simp [z1]
  have b2 : Below w.heap.size w w2 := by rw [← e2]; exact below_alloc b1 _
  have s3 := One.new w2 3 (.int .i64 0)
  obtain ⟨w3, e3⟩ : ∃ w3, w2.alloc (.cells #[.int .i64 0] 3) = w3 := ⟨_, rfl⟩
  replace s1 := l _ _ _ _ (.cells #[.int .i64 0] 3) s1
  replace s2 := l _ _ _ _ (.cells #[.int .i64 0] 3) s2
  rw [e3] at s1 s2 s3 ⊢
  have z3 : w3.heap.size = w.heap.size + 3 := by rw [← e3]; simp [z2]
  have b3 : Below w.heap.size w w3 := by rw [← e3]; exact below_alloc b2 _
  have s4 := One.new w3 3 (.int .i64 0)
  obtain ⟨w4, e4⟩ : ∃ w4, w3.alloc (.cells #[.int .i64 0] 3) = w4 := ⟨_, rfl⟩
  replace s1 := l _ _ _ _ (.cells #[.int .i64 0] 3) s1
  replace s2 := l _ _ _ _ (.cells #[.int .i64 0] 3) s2
  replace s3 := l _ _ _ _ (.cells #[.int .i64 0] 3) s3
  rw [e4] at s1 s2 s3 s4 ⊢
  have z4 : w4.heap.size = w.heap.size + 4 := by rw [← e4]; simp [z3]
  have b4 : Below w.heap.size w w4 := by rw [← e4]; exact below_alloc b3 _
  have s5 := One.new w4 3 (.int .i64 1)
  obtain ⟨w5, e5⟩ : ∃ w5, w4.alloc (.cells #[.int .i64 1] 3) = w5 := ⟨_, rfl⟩
  replace s1 := l _ _ _ _ (.cells #[.int .i64 1] 3) s1
  replace s2 := l _ _ _ _ (.cells #[.int .i64 1] 3) s2
  replace s3 := l _ _ _ _ (.cells #[.int .i64 1] 3) s3
  replace s4 := l _ _ _ _ (.cells #[.int .i64 1] 3) s4
  rw [e5] at s1 s2 s3 s4 s5 ⊢
  have z5 : w5.heap.size = w.heap.size + 5 := by rw [← e5]; simp [z4]
  have b5 : Below w.heap.size w w5 := by rw [← e5]; exact below_alloc b4 _
  have s6 := One.new w5 3 (.int .i64 1)
  replace s1 := l _ _ _ _ (.cells #[.int .i64 1] 3) s1
  replace s2 := l _ _ _ _ (.cells #[.int .i64 1] 3) s2
  replace s3 := l _ _ _ _ (.cells #[.int .i64 1] 3) s3
  replace s4 := l _ _ _ _ (.cells #[.int .i64 1] 3) s4
  replace s5 := l _ _ _ _ (.cells #[.int .i64 1] 3) s5
  rw [z1] at s2
  rw [z2] at s3
  rw [z3] at s4
  rw [z4] at s5
  rw [z5] at s6
  exact ⟨below_alloc b5 _, Nat.le_refl _, s1, s2, s3, s4, s5, s6, World.ownsRow_nil _ _ _ _⟩
set_option maxRecDepth 100000 in
set_option maxHeartbeats 8000000 in
theorem subsW (T : ByteArray) (cl : Int) (e : Nat) (all : List Itm) (w : World) (hcl : cl = 93 ∨ cl = 125) (hI : Its T cl 1 all e) (hn : all.length ≤ 1048576) (hT : T.size ≤ 140737488355328) :
    Calls Try.prog 28 #[.string T] w (SubPost w T all e) := by
  obtain ⟨he, hec⟩ := hI.lt
  obtain ⟨x, ys, hall, hm⟩ := mode_of hI
  have HI := Lib.hid hI
  have HM := Lib.hid hm
  have HAL := Lib.hid hall
  have HN := Lib.hid hn
  clear hI hm hall hn
  go_enter Try.func28, Try.ntmps28
  go_wp2
  have H0 := Lib.hid (gm_start T w)
  obtain ⟨h, hh⟩ : ∃ h, w.heap.size = h := ⟨_, rfl⟩
  simp only [hh, Nat.add_assoc, Nat.reduceAdd]
  go_loopg [6] T.size (fun d v6 wx => ∃ (i col st : Nat) (vS : Value) (dn : List Itm) (x : Itm) (ys : List Itm), v6 = .int .i64 1 ∧ all = dn ++ x :: ys ∧ Gm w T h (i : Int) (col : Int) (st : Int) vS dn.length (subV dn) wx ∧ (MP T cl e i col st x.1 x.2 ys ∨ MC T cl e i col st x.1 x.2 ys ∨ MQ T cl e i col st x.1 x.2 ys) ∧ 0 < i ∧ T.size - i < d)
  case atStart => subst hh; exact ⟨1, 0, 1, _, [], x, ys, rfl, HAL.out, H0.out, HM.out.elim .inl (fun q => .inr (.inr q)), by omega, by omega⟩
  case round =>
    obtain ⟨i, col, st, vS, dn, x, ys, rfl, hall, hG, hm, hi0, hd⟩ := hrel
    have HD := Lib.hid hd
    have HAL2 := Lib.hid hall
    have HG := Lib.hid hG
    clear hd hall hG HM HAL H0
    have c0 := HG.out.p.c
    have c1 := HG.out.s.c
    have c2 := HG.out.m.c
    have c3 := HG.out.c.c
    have c5 := HG.out.i.c
    have f0 := HG.out.p.f
    have f3 := HG.out.c.f
    have f5 := HG.out.i.f
    rcases hm with ⟨b, hib, hbT, hst, hpl, hcc, htl⟩ | ⟨hiT, hz, rfl, hi1, hsti, hmp⟩ | ⟨rfl, rfl, hiT, hz, c, hic, hcT, hzc, hin, hmc⟩
    · have HPL := Lib.hid hpl
      have HCC := Lib.hid hcc
      have HTL := Lib.hid htl
      clear hpl hcc htl
      have hiT : i < T.size := by omega
      have x0 : ∀ h : i < T.size, ((T[i]'h).toNat : Int) = bt T i := bt_at T i
      have kk : IntKind.i64.wrap ((i : Int) + 1) = (i : Int) + 1 := IntWalk.i64_in _ (by omega)
      by_cases hlt : i < b
      · have hp := HPL.out i (Nat.le_refl _) hlt
        obtain ⟨z, hz⟩ : ∃ c, bt T (i : Nat) = c := ⟨_, rfl⟩
        rw [hz] at x0 hp
        obtain ⟨p1, p2, p3, p4, p5, p6, p7, p8, p9, p10, p11⟩ := plain_not hp
        clear hz hp
        go_wp2
        go_roundg (gk - 1)
        case measure => have := HD.out; omega
        case rel => exact ⟨i + 1, col, st, vS, dn, x, ys, rfl, HAL2.out, HG.out.setI, .inl ⟨b, by omega, by omega, hst, fun j hj hj2 => HPL.out j (by omega) hj2, HCC.out, HTL.out⟩, by omega, by have := HD.out; omega⟩
      · obtain rfl : b = i := by omega
        clear hlt HPL
        have HCALL : ∀ wz, Gm w T h (b : Int) (col : Int) (st : Int) vS dn.length (subV dn) wz → Calls Try.prog 35 #[.pointer (some ⟨h + 3, 0, none⟩), .pointer (some ⟨h, 0, none⟩), .pointer (some ⟨h + 4, 0, none⟩), .pointer (some ⟨h + 5, 0, none⟩), .pointer (some ⟨h + 1, 0, none⟩), .pointer (some ⟨h + 2, 0, none⟩)] wz fun e' w' => e' = .returned (.tuple #[]) ∧ ∃ v', Gm w T h (b : Int) 0 ((b : Int) + 1) v' (dn.length + 1) (subV dn ++ [.string x.1, .string x.2]) w' :=
          fun wz hwz => pushW w T x.1 x.2 h b col st dn.length vS (subV dn) wz hwz (by have := HN.out; rw [HAL2.out] at this; simp at this; omega) hT (by omega) hst HCC.out
        have HCAL := Lib.hid HCALL
        clear HCALL
        rcases HTL.out with ⟨rfl, rfl, hz⟩ | ⟨hz, hits, hne⟩
        · rw [hz] at x0
          have j1 : (0 : Int) ≤ (e : Int) + 1 := by omega
          have j2 : (e : Int) + 1 ≤ (T.size : Int) := by omega
          clear hz HTL HCC
          have QE := Lib.hid (show all = dn ++ [x] from HAL2.out)
          focus
            rcases hcl with rfl | rfl
            all_goals
              go_upto_region 40 with (first
                | (go_at_call 35; (with_reducible refine (HCAL.out _ HG.out).mono ?_); rintro e1 w1 ⟨rfl, v1, hG1⟩
                   have r0 := hG1.p.c
                   have r1 := hG1.s.c
                   have r5 := hG1.i.c
                   have q0 := hG1.p.f
                   have q1 := hG1.s.f
                   replace hG1 := Lib.hid hG1))
              obtain ⟨w2, hw2⟩ : ∃ w2, w1.setCell ⟨h, 0, none⟩ (.string (T.extract (e + 1) T.size)) = w2 := ⟨_, rfl⟩
              have t0 : w2.cell? ⟨h, 0, none⟩ = some (.string (T.extract (e + 1) T.size)) := by rw [← hw2]; exact (hG1.out.p.put (u := .string (T.extract (e + 1) T.size))).c
              have t1 : w2.cell? ⟨h + 1, 0, none⟩ = some v1 := by rw [← hw2]; exact (hG1.out.s.far (by omega)).c
              have HS2 := Lib.hid (show One w2 (h + 1) 51 v1 by rw [← hw2]; exact hG1.out.s.far (by omega))
              have y1 : w2.frozen? ⟨h + 1, 0, none⟩ = false := by rw [← hw2]; exact (hG1.out.s.far (by omega)).f
              have hb2 : Below w.heap.size w w2 := by rw [← hw2]; exact hG1.out.bel.setCell (show w.heap.size ≤ h by omega) _
              have ho2 : w2.ownsRow (h + 6) 55 2 v1 (dn.length + 1) (subV dn ++ [.string x.1, .string x.2]) := by rw [← hw2]; exact ownsRow_setCell_below hG1.out.row (show h < h + 6 by omega) _
              obtain ⟨A1, cc1, rfl, -⟩ := Row.of_own ho2
              have HB2 := Lib.hid hb2
              have HO2 := Lib.hid ho2
              rw [hw2]
              clear r0 r1 r5 q0 q1 hw2 hb2 ho2 c0 c1 c2 c3 c5 f0 f3 f5 x0 kk j1 j2
              go_region
              obtain ⟨w3, hw3⟩ : ∃ w3, (w2.setCell ⟨h + 1, 0, none⟩ (.slice A1 (dn.length + 1) cc1)).drew = w3 := ⟨_, rfl⟩
              have t3 : w3.cell? ⟨h + 1, 0, none⟩ = some (.slice A1 (dn.length + 1) cc1) := by rw [← hw3]; exact (HS2.out.put (u := .slice A1 (dn.length + 1) cc1)).c
              rw [hw3]
              clear t0 t1 y1
              go_wp2
              (try simp only [Exit.inBlock, Exit.then])
              refine bodyPost_ret (v := .tuple #[.slice A1 (dn.length + 1) cc1, .string (T.extract (e + 1) T.size), .bool true]) (by simp [results, Try.results28, go_sem, t3]) rfl ?_
              refine ⟨_, rfl, ?_, ?_⟩
              · rw [← hw3]
                exact (HB2.out.setCell (show w.heap.size ≤ h + 1 by omega) _).drew
              · rw [← hw3, QE.out, subV_snoc, List.length_append, hh]
                exact (ownsRow_setCell_below HO2.out (show h + 1 < h + 6 by omega) _).drew
        · rw [hz] at x0
          have HITS := Lib.hid hits
          clear hz hits hne
          go_wp2_with (first
            | (go_at_call 35; (with_reducible refine (HCAL.out _ HG.out).mono ?_); rintro e1 w1 ⟨rfl, v1, hG1⟩
               have r5 := hG1.i.c
               have q5 := hG1.i.f
               replace hG1 := Lib.hid hG1))
          obtain ⟨x', ys', e1, hm'⟩ := mode_of HITS.out
          go_roundg (gk - 1)
          case measure => have := HD.out; omega
          case rel => exact ⟨b + 1, 0, b + 1, v1, dn ++ [x], x', ys', rfl, by rw [HAL2.out, e1]; simp, by rw [subV_snoc, List.length_append]; exact hG1.out.setI, hm'.elim .inl (fun q => .inr (.inr q)), by omega, by have := HD.out; omega⟩
    · have HMP := Lib.hid hmp
      have x0 : ∀ h : i < T.size, ((T[i]'h).toNat : Int) = bt T i := bt_at T i
      have kk : IntKind.i64.wrap ((i : Int) + 1) = (i : Int) + 1 := IntWalk.i64_in _ (by omega)
      rw [hz] at x0
      clear hz hmp
      go_wp2
      go_roundg (gk - 1)
      case measure => have := HD.out; omega
      case rel => exact ⟨i + 1, i, st, vS, dn, x, ys, rfl, HAL2.out, HG.out.setC.setI, .inl HMP.out, by omega, by have := HD.out; omega⟩
    · have HMC := Lib.hid hmc
      have HIN := Lib.hid hin
      have x0 : ∀ h : st < T.size, ((T[st]'h).toNat : Int) = bt T st := bt_at T st
      have kk : IntKind.i64.wrap ((st : Int) + 1) = (st : Int) + 1 := IntWalk.i64_in _ (by omega)
      rw [hz] at x0
      clear hz hmc hin
      go_wp2
      go_step3
      go_wp2
      go_step3
      go_wp2
      have HGI := Lib.hid (HG.out.setI (i' := ((st + 1 : Nat) : Int)))
      clear c0 c1 c2 c3 c5 f0 f3 f5 x0 kk
      go_loopg [] T.size (fun d wi => ∃ k : Nat, st < k ∧ k ≤ c ∧ T.size - k < d ∧ Gm w T h (k : Int) (((0 : Nat) : Int)) (st : Int) vS dn.length (subV dn) wi)
      case atStart => exact ⟨st + 1, by omega, by omega, by omega, HGI.out⟩
      case round =>
        obtain ⟨k, hsk, hkc, hdk, hGk⟩ := hrel
        have HDK := Lib.hid hdk
        have HGK := Lib.hid hGk
        clear hdk hGk
        have c0 := HGK.out.p.c
        have c5 := HGK.out.i.c
        have f5 := HGK.out.i.f
        have hkT : k < T.size := by omega
        have x0 : ∀ h : k < T.size, ((T[k]'h).toNat : Int) = bt T k := bt_at T k
        have kk : IntKind.i64.wrap ((k : Int) + 1) = (k : Int) + 1 := IntWalk.i64_in _ (by omega)
        by_cases hlt : k < c
        · obtain ⟨y1, y2⟩ := HIN.out k hsk hlt
          obtain ⟨z, hz⟩ : ∃ c, bt T (k : Nat) = c := ⟨_, rfl⟩
          rw [hz] at x0 y1 y2
          have b1 : (z == 34) = false := beq_eq_false_iff_ne.2 y1
          have b2 : (z == 92) = false := beq_eq_false_iff_ne.2 y2
          clear hz y1 y2
          go_wp2
          go_roundg (gk - 1)
          case measure => have := HDK.out; omega
          case rel => exact ⟨k + 1, by omega, by omega, by have := HDK.out; omega, HGK.out.setI⟩
        · obtain rfl : c = k := by omega
          rw [hzc] at x0
          clear hzc hlt
          go_wp2
          rw [Exit.noGoto_normal]
          go_wp2
          go_roundg (T.size - c)
          case measure => have := HD.out; omega
          case rel => exact ⟨c + 1, 0, st, vS, dn, x, ys, rfl, HAL2.out, HGK.out.setI, .inr (.inl HMC.out), by omega, by omega⟩
end Go.Proofs.Ytfcnjelhhhncoaa.L
