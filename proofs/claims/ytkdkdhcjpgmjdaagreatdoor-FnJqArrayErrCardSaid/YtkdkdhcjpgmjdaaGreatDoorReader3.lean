/- The walks of spec's reader, third part: elements, members, value, Places. -/
import Derived.Test.YtkdkdhcjpgmjdaaGreatDoorTree
namespace Go.Proofs.YtkdkdhcjpgmjdaaGreatDoor.L
open Go.RowKit
set_option linter.unusedVariables false
set_option linter.unusedSimpArgs false

/-- What value answers. -/
def ValPost (w : World) (g : Nat) (s : ByteArray) (r : Option (Nat × Pl)) (e : Ending) (w' : World) : Prop :=
  ∃ (j : Nat) (k b' e' : Int) (An : Option Addr) (nn cn : Nat) (Ak : Option Addr) (nk ck : Nat), j ≤ s.size ∧ Mv w w' g s j ∧
    e = .returned (.tuple #[.agg #[.int .i64 k, .int .i64 b', .int .i64 e', .slice An nn cn, .slice Ak nk ck], .bool r.isSome]) ∧
    (∀ l p, r = some (l, p) → j = l ∧ PlC w' (From w.heap.size) p [.int .i64 k, .int .i64 b', .int .i64 e', .slice An nn cn, .slice Ak nk ck])
/-- What elements answers. -/
def ElPost (w : World) (g : Nat) (s : ByteArray) (r : Option (Nat × List Pl)) (e : Ending) (w' : World) : Prop :=
  ∃ (j : Nat) (Ak : Option Addr) (nk ck : Nat), j ≤ s.size ∧ Mv w w' g s j ∧ e = .returned (.tuple #[.slice Ak nk ck, .bool r.isSome]) ∧
    (∀ l ps, r = some (l, ps) → j = l ∧ nk = ps.length ∧ ∃ xs, Row w' (From w.heap.size) 5 Ak nk ck xs ∧ PlsC w' (From w.heap.size) ps xs)
/-- What members answers. -/
def MbPost (w : World) (g : Nat) (s : ByteArray) (r : Option (Nat × List (Nat × Nat) × List Pl)) (e : Ending) (w' : World) : Prop :=
  ∃ (j : Nat) (An : Option Addr) (nn cn : Nat) (Ak : Option Addr) (nk ck : Nat), j ≤ s.size ∧ Mv w w' g s j ∧ e = .returned (.tuple #[.slice An nn cn, .slice Ak nk ck, .bool r.isSome]) ∧
    (∀ l ns ps, r = some (l, ns, ps) → j = l ∧ nn = ns.length ∧ nk = ps.length ∧ Row w' (From w.heap.size) 2 An nn cn (spv ns) ∧ ∃ xs, Row w' (From w.heap.size) 5 Ak nk ck xs ∧ PlsC w' (From w.heap.size) ps xs)

def ValC (s : ByteArray) (n : Nat) : Prop := ∀ (g i : Nat) (w : World), RdS w g s i → i ≤ s.size → s.size - i < n → Calls Tryz.prog 41 #[rp g] w (ValPost w g s (valN s n i))

theorem info_pl : (Tryz.prog.info? 27).map (fun i => (i.zero, i.size, i.bytes)) = some (some (.agg #[.int .i64 0, .int .i64 0, .int .i64 0, .slice none 0 0, .slice none 0 0]), 5, 72) := by kernel_rfl
theorem info_sp : (Tryz.prog.info? 68).map (fun i => (i.zero, i.size, i.bytes)) = some (some (.agg #[.int .i64 0, .int .i64 0]), 2, 16) := by kernel_rfl

theorem val_yes {s : ByteArray} {n : Nat} (hv : ValC s n) (g i : Nat) (w : World) (h : RdS w g s i) (hi : i ≤ s.size) (hn : s.size - i < n) {j : Nat} {p : Pl} (hr : valN s n i = some (j, p)) :
    Calls Tryz.prog 41 #[rp g] w fun e w' => ∃ (k b' e' : Int) (An : Option Addr) (nn cn : Nat) (Ak : Option Addr) (nk ck : Nat), Mv w w' g s j ∧
      e = .returned (.tuple #[.agg #[.int .i64 k, .int .i64 b', .int .i64 e', .slice An nn cn, .slice Ak nk ck], .bool true]) ∧ PlC w' (From w.heap.size) p [.int .i64 k, .int .i64 b', .int .i64 e', .slice An nn cn, .slice Ak nk ck] := by
  refine (hv g i w h hi hn).mono ?_
  rintro e w' ⟨l, k, b', e', An, nn, cn, Ak, nk, ck, hl, hM, rfl, hp⟩
  rw [hr] at hp ⊢
  obtain ⟨rfl, hp2⟩ := hp j p rfl
  exact ⟨k, b', e', An, nn, cn, Ak, nk, ck, hM, rfl, hp2⟩
theorem val_no {s : ByteArray} {n : Nat} (hv : ValC s n) (g i : Nat) (w : World) (h : RdS w g s i) (hi : i ≤ s.size) (hn : s.size - i < n) (hr : valN s n i = none) :
    Calls Tryz.prog 41 #[rp g] w fun e w' => ∃ (j : Nat) (k b' e' : Int) (An : Option Addr) (nn cn : Nat) (Ak : Option Addr) (nk ck : Nat), j ≤ s.size ∧ Mv w w' g s j ∧
      e = .returned (.tuple #[.agg #[.int .i64 k, .int .i64 b', .int .i64 e', .slice An nn cn, .slice Ak nk ck], .bool false]) := by
  refine (hv g i w h hi hn).mono ?_
  rintro e w' ⟨l, k, b', e', An, nn, cn, Ak, nk, ck, hl, hM, rfl, hp⟩
  rw [hr]
  exact ⟨l, k, b', e', An, nn, cn, Ak, nk, ck, hl, hM, rfl⟩

section
variable {f : Nat → Option (Nat × Pl)} {s : ByteArray} {k i : Nat} {acc : List Pl}
theorem el_fail (h : f i = none) : elemsN f s (k + 1) i acc = none := by simp only [elemsN, h]
theorem el_end {j : Nat} {p : Pl} (h : f i = some (j, p)) (hc : bt s (skip isBlank s j) = 93) : elemsN f s (k + 1) i acc = some (skip isBlank s j + 1, acc ++ [p]) := by simp only [elemsN, h]; rw [if_pos hc]
theorem el_more {j : Nat} {p : Pl} (h : f i = some (j, p)) (h93 : ¬ bt s (skip isBlank s j) = 93) (hc : bt s (skip isBlank s j) = 44) : elemsN f s (k + 1) i acc = elemsN f s k (skip isBlank s (skip isBlank s j + 1)) (acc ++ [p]) := by
  simp only [elemsN, h]; rw [if_neg h93, if_pos hc]
theorem el_bad {j : Nat} {p : Pl} (h : f i = some (j, p)) (h93 : ¬ bt s (skip isBlank s j) = 93) (hc : ¬ bt s (skip isBlank s j) = 44) : elemsN f s (k + 1) i acc = none := by
  simp only [elemsN, h]; rw [if_neg h93, if_neg hc]
end

theorem ElPost.no {w w' : World} {g : Nat} {s : ByteArray} {r : Option (Nat × List Pl)} {e : Ending} {j : Nat} (hM : Mv w w' g s j) (hr : r = none) (hj : j ≤ s.size) (he : e = .returned (.tuple #[.slice none 0 0, .bool false])) : ElPost w g s r e w' :=
  ⟨j, none, 0, 0, hj, hM, by rw [he, hr]; rfl, fun l p h => by rw [hr] at h; cases h⟩

theorem own_ne {w : World} {b b' : Nat} {e e' : TypeId} {z z' n n' : Nat} {v v' : Value} {xs xs' : List Value} (h : w.ownsRow b e z v n xs) (h' : w.ownsRow b' e' z' v' n' xs') (hne : e ≠ e') : v.ownBlock = none ∨ v.ownBlock ≠ v'.ownBlock := by
  rcases h.2 with ⟨rfl, _⟩ | ⟨g, cap, cur, rfl, _, hh, _⟩
  · exact .inl rfl
  · refine .inr fun hk => ?_
    rcases h'.2 with ⟨rfl, _⟩ | ⟨g', cap', cur', rfl, _, hh', _⟩
    · simp [Value.ownBlock] at hk
    · have : g = g' := by simpa [Value.ownBlock] using hk
      subst this
      rw [hh] at hh'
      injection hh' with hh'
      injection hh' with _ ht
      exact hne ht

/-- The kids that have been read so far; none of their rows lies in block av. -/
structure Kids (wr : World) (b : Nat) (v : Value) (av : Option Nat) (ps : List Pl) (xs : List Value) : Prop where
  own : wr.ownsRow b 27 5 v ps.length xs
  pls : PlsC wr (fun j => b ≤ j ∧ some j ≠ v.ownBlock ∧ some j ≠ av) ps xs
theorem Kids.nil (w : World) (b : Nat) (av : Option Nat) : Kids w b (.slice none 0 0) av [] [] := ⟨World.ownsRow_nil _ _ _ _, by simp [PlsC]⟩
theorem Kids.keep {w1 w2 : World} {b g : Nat} {v : Value} {av : Option Nat} {ps : List Pl} {xs : List Value} (h : Kids w1 b v av ps xs) (hg : w1.grownBy w2 (some g)) (hgb : g < b) : Kids w2 b v av ps xs :=
  ⟨h.own.kept hg (.inr fun e => by
    have := (h.own.lt g e).1
    omega), h.pls.keep (.of_grown hg fun j hj e => by injection e; omega)⟩
theorem Kids.below {w1 w2 : World} {b : Nat} {v : Value} {av : Option Nat} {ps : List Pl} {xs : List Value} (h : Kids w1 b v av ps xs) (hb : Below w1.heap.size w1 w2) : Kids w2 b v av ps xs :=
  ⟨h.own.kept (grown_of_below hb none) (by cases v.ownBlock <;> simp), h.pls.keep (.of_below hb)⟩
/-- The row av has been written, or laid anew. -/
theorem Kids.other {w1 w2 : World} {b : Nat} {v : Value} {av av' : Option Nat} {ps : List Pl} {xs : List Value} (h : Kids w1 b v av ps xs) (hg : w1.grownBy w2 av) (hne : v.ownBlock = none ∨ v.ownBlock ≠ av) (hat : av' = av ∨ av' = some w1.heap.size) : Kids w2 b v av' ps xs := by
  refine ⟨h.own.kept hg hne, ?_⟩
  have h1 : PlsC w1 (fun j => (b ≤ j ∧ some j ≠ v.ownBlock ∧ some j ≠ av') ∧ some j ≠ av) ps xs := h.pls.mono fun j hl hj => ⟨⟨hj.1, hj.2.1, fun e => by
    rcases hat with e' | e' <;> rw [e'] at e
    · exact hj.2.2 e
    · injection e; omega⟩, hj.2.2⟩
  exact (h1.keep (.of_grown hg fun j hj => hj.2)).mono fun j _ hj => hj.1
theorem Kids.snoc {wa w2 : World} {b z : Nat} {v v' : Value} {av : Option Nat} {ps : List Pl} {xs cs : List Value} {p : Pl} (h : Kids wa b v av ps xs) (hp : PlC wa (From z) p cs) (hz : ∀ j, v.ownBlock = some j → j < z) (hav : ∀ j, av = some j → j < z) (hbz : b ≤ z)
    (ho : w2.ownsRow b 27 5 v' (ps.length + 1) (xs ++ cs)) (hg : wa.grownBy w2 v.ownBlock) (hat : v'.ownBlock = v.ownBlock ∨ v'.ownBlock = some wa.heap.size) : Kids w2 b v' av (ps ++ [p]) (xs ++ cs) := by
  have hk : Keeps (fun j => b ≤ j ∧ some j ≠ v.ownBlock ∧ some j ≠ v'.ownBlock ∧ some j ≠ av) wa w2 := .of_grown hg fun j hj => hj.2.1
  refine ⟨by rw [List.length_append]; exact ho, ?_⟩
  have h1 : PlsC wa (fun j => b ≤ j ∧ some j ≠ v.ownBlock ∧ some j ≠ v'.ownBlock ∧ some j ≠ av) ps xs := h.pls.mono fun j hl hj => ⟨hj.1, hj.2.1, fun e => by
    rcases hat with e' | e' <;> rw [e'] at e
    · exact hj.2.1 e
    · injection e; omega, hj.2.2⟩
  have h2 : PlC wa (fun j => b ≤ j ∧ some j ≠ v.ownBlock ∧ some j ≠ v'.ownBlock ∧ some j ≠ av) p cs := hp.mono fun j hl hj => by
    have n1 : some j ≠ v.ownBlock := fun e => by have := hz j e.symm; simp only [From] at hj; omega
    refine ⟨Nat.le_trans hbz hj, n1, fun e => ?_, fun e => by have := hav j e.symm; simp only [From] at hj; omega⟩
    rcases hat with e' | e' <;> rw [e'] at e
    · exact n1 e
    · injection e; omega
  exact (PlsC.snoc (h2.keep hk) (h1.keep hk)).mono fun j _ hj => ⟨hj.1, hj.2.2⟩

set_option maxRecDepth 100000 in
set_option maxHeartbeats 4000000 in
theorem elements {s : ByteArray} {n : Nat} (hs : s.size ≤ 2147483648) (hv : ValC s n) (g i : Nat) (w : World) (h : RdS w g s i) (hi : i < s.size) (hn : s.size - i ≤ n) :
    Calls Tryz.prog 59 #[rp g] w (ElPost w g s (elemsAt (valN s n) s i)) := by
  have HV := Lib.hid hv
  have c1 := h.c1
  have f1 := h.f1
  have hgw := h.lt
  have HM := Lib.hid (Mv.refl h)
  have hs2 : s.size ≤ 140737488351232 := by omega
  clear h hv
  have hb0 := skip_le isBlank s (i + 1)
  have hb1 := skip_top isBlank s (i := i + 1) (by omega)
  by_cases h93 : bt s (skip isBlank s (i + 1)) = 93
  · have hlt := lt_of_bt (s := s) (i := skip isBlank s (i + 1)) (by omega)
    have HE := Lib.hid (show elemsAt (valN s n) s i = some (skip isBlank s (i + 1) + 1, []) by unfold elemsAt; rw [if_pos h93])
    have H93 := Lib.hid h93
    clear h93
    go_enter Tryz.func59, Tryz.ntmps59
    go_wp2_with (first
      | (go_at_call 40; go_must (refine (blanks g s (i + 1) _ HM.out.next.rd hs2 (by omega)).mono ?_); rintro e w1 ⟨rfl, hM1⟩)
      | (go_at_call 82; go_must (refine (take_yes g s _ _ _ hM1.rd hs2 (by decide) H93.out).mono ?_); rintro e w2 ⟨rfl, hM2⟩))
    go_ret2
    refine ⟨skip isBlank s (i + 1) + 1, none, 0, 0, by omega, (HM.out.next.trans hM1).trans hM2, by rw [HE.out]; rfl, fun l ps hr => ?_⟩
    rw [HE.out] at hr
    simp only [Option.some.injEq, Prod.mk.injEq] at hr
    obtain ⟨rfl, rfl⟩ := hr
    exact ⟨rfl, rfl, [], Row.nil _ _ _, rfl⟩
  · have HE := Lib.hid (show elemsAt (valN s n) s i = elemsN (valN s n) s (s.size + 1) (skip isBlank s (i + 1)) [] by unfold elemsAt; rw [if_neg h93])
    have H93 := Lib.hid h93
    clear h93
    go_enter Tryz.func59, Tryz.ntmps59
    go_wp2_with (first
      | (go_at_call 40; go_must (refine (blanks g s (i + 1) _ HM.out.next.rd hs2 (by omega)).mono ?_); rintro e w1 ⟨rfl, hM1⟩)
      | (go_at_call 82; go_must (refine (take_no g s _ _ _ hM1.rd hs2 (by decide) H93.out).mono ?_); rintro e w2 ⟨rfl, hM2⟩))
    have HM2 := Lib.hid ((HM.out.next.trans hM1).trans hM2)
    clear hM1 hM2 HM H93 c1 f1
    go_loopg [4] (s.size + 1) (fun d v4 wr => ∃ (k : Nat) (ps : List Pl) (xs : List Value), Mv w wr g s k ∧ elemsN (valN s n) s d k ps = elemsAt (valN s n) s i ∧ k ≤ s.size ∧ i < k ∧ s.size - k < d ∧ ps.length ≤ k ∧ Kids wr w.heap.size v4 none ps xs)
    case atStart => exact ⟨_, [], [], HM2.out, HE.out.symm, hb1, by omega, by omega, by simp, Kids.nil _ _ _⟩
    case round =>
      obtain ⟨k, ps, xs, hM, hel, hk, hik, hfu, hpl, hK⟩ := hrel
      obtain ⟨d, rfl⟩ : ∃ d, gk = d + 1 := ⟨gk - 1, by omega⟩
      have HM := Lib.hid hM
      have HS := Lib.hid hel
      have HK := Lib.hid hK
      clear hM hel hK HM2 HE
      cases hr : valN s n k with
      | none =>
        have HR := Lib.hid hr
        have HE := Lib.hid ((el_fail (k := d) (s := s) (acc := ps) hr).symm.trans HS.out)
        clear hr
        go_wp2_with (first
          | (go_at_call 41; go_must (refine (val_no HV.out g k _ HM.out.rd hk (by omega) HR.out).mono ?_); rintro e w3 ⟨j, k', b', e', An, nn, cn, Ak, nk, ck, hj, hM3, rfl⟩))
        go_ret2
        exact ElPost.no ⟨(HM.out.trans hM3).rd.alloc _, grown_alloc (HM.out.trans hM3).gr _⟩ HE.out.symm hj (by simp)
      | some jp =>
        obtain ⟨j, p⟩ := jp
        have HR := Lib.hid hr
        have hj := valN_fwd s n k j p hk hr
        have hk0 := skip_le isBlank s j
        have hk1 := skip_top isBlank s hj.2
        obtain ⟨i0, hi0, hz0, hz1, hz2⟩ := info_parts info_pl
        have HI := Lib.hid hi0
        have HZ0 := Lib.hid hz0
        have HZ1 := Lib.hid hz1
        have HZ2 := Lib.hid hz2
        clear hr hi0 hz0 hz1 hz2
        obtain ⟨q, hq⟩ : ∃ q, skip isBlank s j = q := ⟨_, rfl⟩
        rw [hq] at hk0 hk1
        have HQ := Lib.hid hq
        clear hq
        go_upto_region 10 with (first
          | (go_at_call 41; go_must (refine (val_yes HV.out g k _ HM.out.rd hk (by omega) HR.out).mono ?_); rintro e w3 ⟨k', b', e', An, nn, cn, Ak, nk, ck, hM3, rfl, hP⟩
             have HM3 := Lib.hid hM3
             have HP := Lib.hid hP
             clear hM3 hP)
          | (at_builtin; go_must (refine wpList_append_own_at _ rfl (.tmp 25) (.tmp 27) 25 rfl w.heap.size 27 i0 _ 5 72 Tryz.underlying25 HI.out HZ0.out HZ1.out HZ2.out rfl (by decide) _ ps.length xs rfl (((HK.out.keep HM3.out.gr hgw).own.alloc _).alloc _) ⟨w3.heap.size + 1, 0, none⟩ 1 1 [.int .i64 k', .int .i64 b', .int .i64 e', .slice An nn cn, .slice Ak nk ck] rfl rfl (World.news_of_block (cs := #[.int .i64 k', .int .i64 b', .int .i64 e', .slice An nn cn, .slice Ak nk ck]) (t := 27) (fr := (0, 0)) (by rw [show w3.heap.size + 1 = (w3.alloc _).heap.size from (by simp)]; exact heap_alloc_new _ _)) (by simp [Value.oneCell']) (by simp only [maxLen]; omega) (by omega) (by have := HM.out.gr.size; have := HM3.out.gr.size; simp; omega) ?_)
             intro v5 w5 hO5 hg5 _ hat5))
        have hKk := HK.out.keep HM3.out.gr hgw
        have hg5' : (wr.grownBy w5 (some g)) ∨ True := .inr trivial
        have hM4 : Mv w ((w3.alloc (Obj.cells #[.int .i64 k', .int .i64 b', .int .i64 e', .slice An nn cn, .slice Ak nk ck] 27)).alloc (Obj.cells #[.int .i64 k', .int .i64 b', .int .i64 e', .slice An nn cn, .slice Ak nk ck] 27)) g s j :=
          ⟨((HM.out.trans HM3.out).rd.alloc _).alloc _, grown_alloc (grown_alloc (HM.out.trans HM3.out).gr _) _⟩
        have hKa : Kids ((w3.alloc (Obj.cells #[.int .i64 k', .int .i64 b', .int .i64 e', .slice An nn cn, .slice Ak nk ck] 27)).alloc (Obj.cells #[.int .i64 k', .int .i64 b', .int .i64 e', .slice An nn cn, .slice Ak nk ck] 27)) w.heap.size u4 none ps xs :=
          hKk.below (below_alloc (below_alloc (Below.refl _ _) _) _)
        have hown : ∀ j, u4.ownBlock = some j → w.heap.size ≤ j ∧ j < wr.heap.size := fun j hj => HK.out.own.lt j hj
        have hM5 : Mv w w5 g s j := ⟨hM4.rd.grown hg5 (fun e => by have := (hown g e.symm).1; omega), grown_new hM4.gr hg5 (fun l hl => .inr (hown l hl).1)⟩
        have hP3 : PlC ((w3.alloc (Obj.cells #[.int .i64 k', .int .i64 b', .int .i64 e', .slice An nn cn, .slice Ak nk ck] 27)).alloc (Obj.cells #[.int .i64 k', .int .i64 b', .int .i64 e', .slice An nn cn, .slice Ak nk ck] 27)) (From wr.heap.size) p [.int .i64 k', .int .i64 b', .int .i64 e', .slice An nn cn, .slice Ak nk ck] :=
          (HP.out.keep (.alloc _ _ _)).keep (.alloc _ _ _)
        have HM5 := Lib.hid hM5
        have HK5 := Lib.hid (hKa.snoc hP3 (fun l hl => (hown l hl).2) (fun l hl => by cases hl) HM.out.gr.size hO5 hg5 hat5)
        clear hKk hg5' hM4 hKa hown hM5 hP3 hO5 hg5 hat5 HK HP HM3 HM HI HZ0 HZ1 HZ2
        have hQj : j ≤ q := hk0
        by_cases h93 : bt s q = 93
        · have hlt := lt_of_bt (s := s) (i := q) (by omega)
          have HE := Lib.hid ((el_end (k := d) (s := s) (acc := ps) HR.out (by rw [HQ.out]; exact h93)).symm.trans HS.out)
          have H93 := Lib.hid h93
          clear h93
          obtain ⟨A5, c5, rfl, hrow⟩ := Row.of_own HK5.out.own
          have HROW := Lib.hid hrow
          clear hrow
          go_wp2_with (first
            | (go_at_call 40; go_must (refine (blanks g s j _ HM5.out.rd hs2 hj.2).mono ?_); rw [HQ.out]; rintro e w6 ⟨rfl, hM6⟩)
            | (go_at_call 82; go_must (refine (take_yes g s _ _ _ hM6.rd hs2 (by decide) H93.out).mono ?_); rintro e w7 ⟨rfl, hM7⟩))
          go_ret2
          have hM67 := hM6.trans hM7
          have hkp : Keeps (From w.heap.size) w5 w7 := .of_grown hM67.gr (fun l hl e => by injection e; simp only [From] at hl; omega)
          refine ⟨q + 1, A5, ps.length + 1, c5, by omega, HM5.out.trans hM67, by rw [← HE.out]; rfl, fun l rs hr => ?_⟩
          rw [← HE.out, HQ.out] at hr
          simp only [Option.some.injEq, Prod.mk.injEq] at hr
          obtain ⟨rfl, rfl⟩ := hr
          exact ⟨rfl, by simp, _, by have h := HROW.out.keep hkp; rwa [List.length_append] at h, (HK5.out.pls.mono (fun l _ hl => hl.1)).keep hkp⟩
        · by_cases h44 : bt s q = 44
          · have hlt := lt_of_bt (s := s) (i := q) (by omega)
            have HE := Lib.hid ((el_more (k := d) (s := s) (acc := ps) HR.out (by rw [HQ.out]; exact h93) (by rw [HQ.out]; exact h44)).symm.trans HS.out)
            have H93 := Lib.hid h93
            have H44 := Lib.hid h44
            have hr0 := skip_le isBlank s (q + 1)
            have hr1 := skip_top isBlank s (i := q + 1) (by omega)
            clear h93 h44
            have tok1 : True := trivial
            have tok2 : True := trivial
            go_wp2_with (first
              | (go_at_call 40; clear tok1; go_must (refine (blanks g s j _ HM5.out.rd hs2 hj.2).mono ?_); rw [HQ.out]; rintro e w6 ⟨rfl, hM6⟩)
              | (go_at_call 82; clear tok2; go_must (refine (take_no g s _ _ _ hM6.rd hs2 (by decide) H93.out).mono ?_); rintro e w7 ⟨rfl, hM7⟩)
              | (go_at_call 82; go_must (refine (take_yes g s _ _ _ hM7.rd hs2 (by decide) H44.out).mono ?_); rintro e w8 ⟨rfl, hM8⟩)
              | (go_at_call 40; go_must (refine (blanks g s (q + 1) _ hM8.rd hs2 (by omega)).mono ?_); rintro e w9 ⟨rfl, hM9⟩))
            go_roundg d
            case measure => omega
            case rel =>
              have hMM := ((hM6.trans hM7).trans hM8).trans hM9
              exact ⟨_, ps ++ [p], _, HM5.out.trans hMM, by rw [← HQ.out]; rw [← HQ.out] at *; exact HE.out, hr1, by omega, by omega, by simp; omega, HK5.out.keep hMM.gr hgw⟩
          · have HE := Lib.hid ((el_bad (k := d) (s := s) (acc := ps) HR.out (by rw [HQ.out]; exact h93) (by rw [HQ.out]; exact h44)).symm.trans HS.out)
            have H93 := Lib.hid h93
            have H44 := Lib.hid h44
            clear h93 h44
            have tok2 : True := trivial
            go_wp2_with (first
              | (go_at_call 40; go_must (refine (blanks g s j _ HM5.out.rd hs2 hj.2).mono ?_); rw [HQ.out]; rintro e w6 ⟨rfl, hM6⟩)
              | (go_at_call 82; clear tok2; go_must (refine (take_no g s _ _ _ hM6.rd hs2 (by decide) H93.out).mono ?_); rintro e w7 ⟨rfl, hM7⟩)
              | (go_at_call 82; go_must (refine (take_no g s _ _ _ hM7.rd hs2 (by decide) H44.out).mono ?_); rintro e w8 ⟨rfl, hM8⟩))
            go_ret2
            exact ElPost.no (((HM5.out.trans hM6).trans hM7).trans hM8) HE.out.symm hk1 (by simp)
end Go.Proofs.YtkdkdhcjpgmjdaaGreatDoor.L
