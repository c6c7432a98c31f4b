/- fastjson's escapeString, NewString and FjQuote. -/
import Derived.Test.YtdcmiggpjjdocaaDoorFqQ
import Derived.Test.YtdcmiggpjjdocaaDoorJuP
import Derived.Deep.RegionHeld3
import Derived.Deep.RegionWith
import Derived.Laws.BytesArg
namespace Go.Proofs.YtdcmiggpjjdocaaDoor.L
open Go.RowKit
set_option linter.unusedVariables false
set_option linter.unusedSimpArgs false

/-- The first cells of block g are the bytes l. -/
structure Bs (w : World) (g c : Nat) (l : List Int) : Prop where
  le : l.length ≤ c
  cm : c ≤ maxLen
  lt : g < w.heap.size
  cell : ∀ i, i < l.length → w.cell? ⟨g, i, none⟩ = some (.int .u8 (l.getD i 0))
theorem Bs.below {w w' : World} {g c : Nat} {l : List Int} (h : Bs w g c l) (hb : Below w.heap.size w w') : Bs w' g c l :=
  ⟨h.le, h.cm, Nat.lt_of_lt_of_le h.lt hb.size, fun i hi => (hb.cell (p := ⟨g, i, none⟩) h.lt).trans (h.cell i hi)⟩
theorem Bs.set {w : World} {g c h o : Nat} {l : List Int} {v : Value} (hB : Bs w g c l) (hne : h ≠ g) : Bs (w.setCell ⟨h, o, none⟩ v) g c l :=
  ⟨hB.le, hB.cm, by simpa [World.setCell] using hB.lt, fun i hi => by
    rw [World.cell?_setCell_other _ _ _ _ (by intro e; injection e with e; exact hne e)]
    exact hB.cell i hi⟩
/-- What escapeString gives. -/
def EscPost (l : List Int) (B : Nat) (w0 w : World) (e : Ending) (w' : World) : Prop := ∃ g c n, n = l.length ∧ e = .returned (.slice (some ⟨g, 0, none⟩) n c) ∧ w.heap.size ≤ g ∧ Bs w' g c l ∧ Below w.heap.size w w'
theorem esc_of_buf {B : Nat} {W0 w' : World} {v : Value} {l : List Int} (h : Lib.OwnBuf B 5 v l.length (Lib.intCells l) W0 w') (hl : 0 < l.length) : ∃ g c, v = .slice (some ⟨g, 0, none⟩) l.length c ∧ B ≤ g ∧ Bs w' g c l := by
  rcases h.1.2 with ⟨_, h0⟩ | ⟨g, cap, cur, fz, rfl, hb, hg, hfz, hn, hm, hcs, htk⟩
  · omega
  · refine ⟨g, cap, rfl, hb, ⟨by omega, hm, (Array.getElem?_eq_some_iff.1 hg).1, fun i hi => ?_⟩⟩
    have := h.1.cells (g := g) (by simp [Value.ownBlock]) i (.int .u8 (l.getD i 0)) (by simp [Lib.intCells, List.getD, List.getElem?_eq_getElem hi])
    by_cases hi0 : i = 0 <;> simpa [Addr.add, hi0] using this
theorem quote_len (T : Lib.PrintTabs) (s : ByteArray) : 0 < (Lib.quoteZ T s).length := by simp [Lib.quoteZ]
set_option maxRecDepth 100000 in
set_option maxHeartbeats 4000000 in
/-- escapeString over a text with something to escape. -/
theorem escQuoteW (T : Lib.PrintTabs) (s : ByteArray) (W0 w : World) (hs : s.size ≤ 1000000) (hsp : Special s) (hbw : Below W0.heap.size W0 w) (hsz0 : W0.heap.size ≤ w.heap.size) (hT : Ptab T w) (hU : Utab w) :
    Calls Tryd.prog 20 #[.slice none 0 0, .string s] w (EscPost (Lib.quoteZ T s) W0.heap.size W0 w) := by
  have h0 : 0 < s.size := by obtain ⟨k, hk, -⟩ := hsp; omega
  have HQ : Calls Tryd.prog 31 #[.slice none 0 0, .string s] w (EscPost (Lib.quoteZ T s) W0.heap.size W0 w) := by
    have hq := quoteNil T s w w (Below.refl _ _) (Nat.le_refl _) h0 hs hT hU
    have HQ := Lib.hid hq
    clear hq hT hU hsp
    go_enter Tryd.func31, Tryd.ntmps31
    go_wp2_with (first
      | (go_at_call 32; go_must (refine HQ.out.mono ?_); rintro e w1 ⟨v, rfl, hb⟩))
    obtain ⟨g, c, rfl, h1, h2⟩ := esc_of_buf hb (quote_len T s)
    go_ret
    exact ⟨g, c, _, rfl, rfl, h1, h2, hb.2.1⟩
  have HQ2 := Lib.hid HQ
  have HS := Lib.hid hsp
  clear HQ hT hU hsp
  go_enter Tryd.func20, Tryd.ntmps20
  go_wp2_with (first
    | (go_at_call 30; go_must (refine (specialW s _ hs).mono ?_); rintro e w1 ⟨⟨b, rfl, hb⟩, rfl⟩; obtain rfl : b = true := hb.2 HS.out; clear hb)
    | (go_at_call 31; go_must (refine HQ2.out.mono ?_); rintro e w1 ⟨g, c, n, hn, rfl, h1, h2, h3⟩))
  go_ret
  exact ⟨g, c, _, rfl, rfl, h1, h2, h3⟩
theorem plain_bytes (s : ByteArray) : strOfNums [34] ++ s ++ strOfNums [34] = strOfNums (34 :: (bl s ++ [34])) := by
  rw [show (34 :: (bl s ++ [34])) = [34] ++ bl s ++ [34] by simp, sON_append, sON_append, bl_nums]
theorem plain_rng (s : ByteArray) : ∀ x ∈ (34 :: (bl s ++ [34])), 0 ≤ x ∧ x ≤ 255 := by
  intro x hx
  simp only [List.mem_cons, List.mem_append, List.mem_singleton, bl, List.mem_map, List.mem_range] at hx
  rcases hx with rfl | ⟨j, -, rfl⟩ | hx
  · omega
  · exact bt_range s j
  · rcases hx with rfl | hx
    · omega
    · cases hx
/-- escapeString over a text with nothing to escape. -/
theorem escBareW (s : ByteArray) (W0 w : World) (hs : s.size ≤ 1000000) (hns : ¬ Special s) :
    Calls Tryd.prog 20 #[.slice none 0 0, .string s] w (EscPost (34 :: (bl s ++ [34])) W0.heap.size W0 w) := by
  refine (escPlainW s w hs hns).mono ?_
  rintro e w1 ⟨v', rfl, hO, hb⟩
  rw [plain_bytes] at hO
  have hl : (strOfNums (34 :: (bl s ++ [34]))).size = (34 :: (bl s ++ [34])).length := strOfNums_size _
  have hO2 := hO
  rcases hO with ⟨rfl, h0⟩ | ⟨g, cap, cur, q, rfl, hbg, hg, hc, hcc, hm, ht⟩
  · rw [hl] at h0; simp at h0
  · obtain ⟨A, c, he, hc2, hr⟩ := hO2.rd
    injection he with he1 he2 he3
    subst he1
    refine ⟨g, cap, _, hl, rfl, hbg, ⟨by omega, hm, (Array.getElem?_eq_some_iff.1 hg).1, fun i hi => ?_⟩, hb⟩
    obtain ⟨ad, he, -, hcell⟩ := hr (by rw [hl]; omega)
    injection he with he
    subst he
    have := hcell i (by rw [hl]; exact hi)
    have e1 : (⟨g, 0, none⟩ : Addr).add i = ⟨g, i, none⟩ := by unfold Addr.add; split <;> simp_all
    rw [e1, bt_nums _ _ hi (plain_rng s _ (List.getElem_mem hi))] at this
    rw [this, List.getD_eq_getElem?_getD, List.getElem?_eq_getElem hi]
    rfl
theorem b2sL (g o n c : Nat) (l : List Int) (w : World) (hn : l.length = n) (hc : ∀ i, i < n → w.cell? ⟨g, o + i, none⟩ = some (.int .u8 (l.getD i 0))) :
    Calls Tryd.prog 21 #[.slice (some ⟨g, o, none⟩) n c] w fun e w' => e = .returned (.string (strOfNums l)) ∧ w = w' := by
  have hcv := run_convert_bytes_arg w 26 5 Tryd.underlying26 Tryd.underlying5 g o n c l hn hc 9 Tryd.underlying9
  go_enter Tryd.func21, Tryd.ntmps21
  go_wp2
  go_ret
  exact ⟨rfl, rfl⟩
/-- What NewString gives: a raw string's place. -/
def NsPost (m : List Int) (B : Nat) (W0 : World) (e : Ending) (w' : World) : Prop := ∃ h, e = .returned (.pointer (some ⟨h, 0, none⟩)) ∧ h < w'.heap.size ∧ w'.cell? ⟨h, 3, none⟩ = some (.string (strOfNums m)) ∧ w'.cell? ⟨h, 4, none⟩ = some (.int .i64 7) ∧ Below B W0 w' ∧ B ≤ w'.heap.size
set_option maxRecDepth 100000 in
set_option maxHeartbeats 8000000 in
theorem newStringW (g : Nat) (s : ByteArray) (m : List Int) (q : TypeId) (W0 w : World) (hm1 : m.length ≤ 1000000) (hg : w.heap[g]? = some (.cells #[.slice none 0 0, .slice none 0 0] q (0, 0))) (hgB : W0.heap.size ≤ g) (hbw : Below W0.heap.size W0 w)
    (hesc : ∀ w1, Below W0.heap.size W0 w1 → W0.heap.size ≤ w1.heap.size → Calls Tryd.prog 20 #[.slice none 0 0, .string s] w1 (EscPost (34 :: (m ++ [34])) W0.heap.size W0 w1)) :
    Calls Tryd.prog 10 #[.pointer (some ⟨g, 0, none⟩), .string s] w (NsPost m W0.heap.size W0) := by
  have hgl : g < w.heap.size := (Array.getElem?_eq_some_iff.1 hg).1
  obtain ⟨B, hB⟩ : ∃ B, W0.heap.size = B := ⟨_, rfl⟩
  rw [hB] at hgB hbw hesc ⊢
  have HG := Lib.hid hg
  have HBW := Lib.hid hbw
  have HE := Lib.hid hesc
  clear hg hbw hesc hB
  go_enter Tryd.func10, Tryd.ntmps10
  go_upto_region 2 with (first
    | (go_at_call 19; go_must (refine (getValueW g (.slice none 0 0) q _ HG.out).mono ?_); rintro e w1 ⟨h, cap, cur, rfl, hh, hc1, htk, hg1, hgr⟩))
  have hne : h ≠ g := by omega
  have hne' : g ≠ h := by omega
  have h5 : 5 ≤ cur.size := by
    have := congrArg List.length htk
    simp at this
    omega
  have hcur : ∀ (k : Nat) (v : Value), zval[k]? = some v → cur[k]? = some v := by
    intro k v hk
    rw [← htk, List.getElem?_take] at hk
    split at hk
    · simpa using hk
    · cases hk
  have k3 : w1.cell? ⟨h, 3, none⟩ = some (.string ⟨#[]⟩) := by rw [cell_of_row w1 h 3 _ _ _ hc1]; exact hcur 3 _ rfl
  have k4 : w1.cell? ⟨h, 4, none⟩ = some (.int .i64 0) := by rw [cell_of_row w1 h 4 _ _ _ hc1]; exact hcur 4 _ rfl
  have kg : w1.cell? ⟨g, 0, none⟩ = some (.slice none 0 0) := cell_of_row w1 g 0 _ _ _ hg1
  have fh : ∀ k, w1.frozen? ⟨h, k, none⟩ = false := fun k => by simp [World.frozen?, hc1]
  have fg : ∀ k, w1.frozen? ⟨g, k, none⟩ = false := fun k => by simp [World.frozen?, hg1]
  have hB1 : Below B W0 w1 := HBW.out.grown hgr (by omega) (fun j hj => by injection hj with hj; omega)
  have hlh : h < w1.heap.size := (Array.getElem?_eq_some_iff.1 hc1).1
  have hlg : g < w1.heap.size := (Array.getElem?_eq_some_iff.1 hg1).1
  obtain ⟨w2, hw2⟩ : ∃ w2, w1.setCell ⟨h, 4, none⟩ (.int .i64 7) = w2 := ⟨_, rfl⟩
  have n3 : w2.cell? ⟨h, 3, none⟩ = some (.string ⟨#[]⟩) := by rw [← hw2, World.cell?_setCell_other _ _ _ _ (by simp)]; exact k3
  have n4 : w2.cell? ⟨h, 4, none⟩ = some (.int .i64 7) := by rw [← hw2]; exact World.cell?_setCell_same _ _ _ k4
  have ng : w2.cell? ⟨g, 0, none⟩ = some (.slice none 0 0) := by rw [← hw2, World.cell?_setCell_other _ _ _ _ (by simp [hne])]; exact kg
  have nfh : ∀ k, w2.frozen? ⟨h, k, none⟩ = false := fun k => by rw [← hw2, World.frozen?_setCell]; exact fh k
  have nfg : ∀ k, w2.frozen? ⟨g, k, none⟩ = false := fun k => by rw [← hw2, World.frozen?_setCell]; exact fg k
  have hB2 : Below B W0 w2 := by rw [← hw2]; exact hB1.setCell (show B ≤ h by omega) _
  have hz2 : w2.heap.size = w1.heap.size := by rw [← hw2]; simp [World.setCell]
  have f4 := fh 4
  have HB2 := Lib.hid hB2
  have NFH := Lib.hid nfh
  have NFG := Lib.hid nfg
  have N3 := Lib.hid n3
  have N4 := Lib.hid n4
  have NG := Lib.hid ng
  clear hc1 htk hg1 hgr hcur kg k3 fh fg hB1 hB2 nfh nfg n3 n4
  go_upto_region 4 with (fail)
  clear hw2 k4 f4
  go_upto_region 5 with (first
    | (go_at_call 20; go_must (refine (HE.out _ HB2.out (show B ≤ w2.heap.size by omega)).mono ?_); rintro e w3 ⟨g2, c, n, hn, rfl, hg2, hbs, hb3⟩
       have hcg : w3.cell? ⟨g, 0, none⟩ = some (.slice none 0 0) := (hb3.cell (p := ⟨g, 0, none⟩) (show g < w2.heap.size by omega)).trans NG.out
       have hfg : w3.frozen? ⟨g, 0, none⟩ = false := (hb3.frozen (p := ⟨g, 0, none⟩) (show g < w2.heap.size by omega)).trans (NFG.out 0)
       replace hbs := Lib.hid hbs
       replace hb3 := Lib.hid hb3
       replace hn := Lib.hid hn))
  have hn2 := hn.out
  simp only [List.length_cons, List.length_append, List.length_nil] at hn2
  have hle := hbs.out.le
  have hcm := hbs.out.cm
  simp only [List.length_cons, List.length_append, List.length_nil, maxLen] at hle hcm
  have hg2l := hbs.out.lt
  have hn0 : g2 ≠ g := by omega
  have hn1 : g2 ≠ h := by omega
  have hz3 : w2.heap.size ≤ w3.heap.size := hb3.out.size
  obtain ⟨w4, hw4⟩ : ∃ w4, w3.setCell ⟨g, 0, none⟩ (.slice (some ⟨g2, 0, none⟩) n c) = w4 := ⟨_, rfl⟩
  have mg : w4.cell? ⟨g, 0, none⟩ = some (.slice (some ⟨g2, 0, none⟩) n c) := by rw [← hw4]; exact World.cell?_setCell_same _ _ _ hcg
  have m3 : w4.cell? ⟨h, 3, none⟩ = some (.string ⟨#[]⟩) := by
    rw [← hw4, World.cell?_setCell_other _ _ _ _ (by simp [hne'])]
    exact (hb3.out.cell (p := ⟨h, 3, none⟩) (show h < w2.heap.size by omega)).trans N3.out
  have m4 : w4.cell? ⟨h, 4, none⟩ = some (.int .i64 7) := by
    rw [← hw4, World.cell?_setCell_other _ _ _ _ (by simp [hne'])]
    exact (hb3.out.cell (p := ⟨h, 4, none⟩) (show h < w2.heap.size by omega)).trans N4.out
  have mf : w4.frozen? ⟨h, 3, none⟩ = false := by
    rw [← hw4, World.frozen?_setCell]
    exact (hb3.out.frozen (p := ⟨h, 3, none⟩) (show h < w2.heap.size by omega)).trans (NFH.out 3)
  have mb : Bs w4 g2 c (34 :: (m ++ [34])) := by rw [← hw4]; exact hbs.out.set (Ne.symm hn0)
  have hB4 : Below B W0 w4 := by rw [← hw4]; exact (HB2.out.trans (hb3.out.mono (by omega))).setCell (show B ≤ g by omega) _
  have hz4 : w4.heap.size = w3.heap.size := by rw [← hw4]; simp [World.setCell]
  have MB := Lib.hid mb
  have M4 := Lib.hid m4
  have HB4 := Lib.hid hB4
  clear mb m4 hB4 ng
  have hcv : ∀ w5 : World, w5 = w4 ∨ True → True := fun _ _ => trivial
  rw [hw4]
  clear hw4 hcg hfg
  have e1 : IntKind.i64.wrap ((n : Int) - 1) = (n : Int) - 1 := IntWalk.i64_in _ (by omega)
  have e2 : (0 : Int) ≤ (n : Int) - 1 := by omega
  have e3 : (1 : Int) ≤ (n : Int) - 1 := by omega
  have e4 : (n : Int) - 1 ≤ (c : Int) := by omega
  have e5 : ((n : Int) - 1).toNat = n - 1 := by omega
  have e6 : ¬ c = 1 := by omega
  have e9 : IntKind.i64.wrap (1 : Int) = 1 := by decide
  have e7 : (1 : Int) ≤ (n : Int) := by omega
  have e8 : (1 : Int) ≤ ((n - 1 : Nat) : Int) := by omega
  have hbb := fun W (hW : ∀ a, World.cell? W a = World.cell? w4 a) => b2sL g2 1 (n - 1 - 1) (c - 1) m W (by omega) (fun i hi => by
    rw [hW, MB.out.cell (1 + i) (by simp; omega)]
    simp only [List.getD_eq_getElem?_getD, Nat.add_comm 1 i, List.getElem?_cons_succ]
    rw [List.getElem?_append_left (by omega)])
  have HBB := Lib.hid hbb
  clear hbb
  clear hn2
  go_region_with (first
    | (go_at_call 21; go_must (refine (HBB.out w4.drew (fun a => rfl)).mono ?_); rintro e w5 ⟨rfl, rfl⟩))
  all_goals
    clear e1 e2 e3 e4 e5 e6 e7 e8 e9
    go_wp2
    go_ret
    refine ⟨h, rfl, ?_, ?_, ?_, ?_, ?_⟩
    · simp [World.setCell]; omega
    · exact World.cell?_setCell_same _ _ _ m3
    · show (w4.setCell ⟨h, 3, none⟩ (.string (strOfNums m))).cell? ⟨h, 4, none⟩ = _
      rw [World.cell?_setCell_other _ _ _ _ (by simp)]; exact M4.out
    · have hbs : Below B W0 (w4.setCell ⟨h, 3, none⟩ (.string (strOfNums m))) := HB4.out.setCell (show B ≤ h by omega) _
      exact ⟨hbs.os, hbs.tape, hbs.output, hbs.size, hbs.block⟩
    · simp [World.setCell]; omega
set_option maxRecDepth 100000 in
set_option maxHeartbeats 4000000 in
/-- FjQuote, given what escapeString gives. -/
theorem fjQuoteW (s : ByteArray) (m : List Int) (q : ByteArray) (hq : q = strOfNums [34] ++ strOfNums m ++ strOfNums [34]) (w : World) (hm1 : m.length ≤ 1000000)
    (hesc : ∀ w1, Below w.heap.size w w1 → w.heap.size ≤ w1.heap.size → Calls Tryd.prog 20 #[.slice none 0 0, .string s] w1 (EscPost (34 :: (m ++ [34])) w.heap.size w w1)) :
    Calls Tryd.prog 5 #[.string s] w fun e w' => e = .returned (.string q) ∧ Below w.heap.size w w' := by
  have HE := Lib.hid hesc
  have HQ := Lib.hid hq
  clear hesc hq
  have hg0 : (w.alloc (.cells #[.slice none 0 0, .slice none 0 0] 31)).heap[w.heap.size]? = some (.cells #[.slice none 0 0, .slice none 0 0] 31 (0, 0)) := heap_alloc_new _ _
  have HG := Lib.hid hg0
  have HB := Lib.hid (below_alloc (Below.refl w.heap.size w) (.cells #[.slice none 0 0, .slice none 0 0] 31))
  clear hg0
  obtain ⟨w1, hw1⟩ : ∃ w1, w.alloc (.cells #[.slice none 0 0, .slice none 0 0] 31) = w1 := ⟨_, rfl⟩
  rw [hw1] at HG HB
  have hsz : (strOfNums m).size = m.length := strOfNums_size m
  go_enter Tryd.func5, Tryd.ntmps5
  go_wp2_with (first
    | (go_at_call 10; go_must (refine (newStringW w.heap.size s m _ w _ hm1 HG.out (Nat.le_refl _) HB.out HE.out).mono ?_); rintro e w2 ⟨h, rfl, hh, h3, h4, hb2, hz2⟩
       replace h3 := Lib.hid h3
       replace hb2 := Lib.hid hb2)
    | (go_at_call 11; go_must (refine (marshW h (strOfNums m) _ (by omega) hh h3.out h4).mono ?_); rintro e w3 ⟨v3, rfl, hO, hb3⟩
       rw [← HQ.out] at hO
       obtain ⟨A3, c3, rfl, hc3, hr3⟩ := hO.rd
       have hcv := hr3.string (P := Tryd.prog) (c := c3) Tryd.underlying26 Tryd.underlying5 Tryd.underlying9
       replace hb3 := Lib.hid hb3
       clear hO hr3))
  go_ret
  exact ⟨rfl, hb2.out.trans (hb3.out.mono hz2)⟩
end Go.Proofs.YtdcmiggpjjdocaaDoor.L
