/- A slice of bytes that the call itself owns, its block marked behind its last byte (as the conversion of a string leaves it): append. -/
import Derived.Test.YtdcmiggpjjdocaaDoorApp
import Derived.Laws.IdiomCopy
import Derived.Laws.CopyRow
namespace Go.Proofs.YtdcmiggpjjdocaaDoor.L
open Go.RowKit
set_option linter.unusedVariables false
set_option linter.unusedSimpArgs false

/-- No byte of a row of n is marked as shared. -/
def Clear (fr : Nat × Nat) (n : Nat) : Prop := fr.2 = 0 ∨ n ≤ fr.1
theorem clear_frozen {w : World} {g j : Nat} {cur : Array Value} {q : TypeId} {fr : Nat × Nat} (hg : w.heap[g]? = some (.cells cur q fr)) (hc : Clear fr cur.size) (hj : j < cur.size) : w.frozen? ⟨g, j, none⟩ = false := by
  obtain ⟨lo, hi⟩ := fr
  simp only [World.frozen?, hg]
  rcases hc with h | h
  · simp at h; simp [h]
  · simp at h
    simp only [Bool.and_eq_false_iff, decide_eq_false_iff_not]
    exact .inl (by omega)
theorem setCells_row (g : Nat) (t : TypeId) (fr : Nat × Nat) : ∀ (vs : List Value) (k : Nat) (cur : Array Value) (w : World), w.heap[g]? = some (.cells cur t fr) → k + vs.length ≤ cur.size →
    w.setCells g k vs = w.setRow g (cur.toList.take k ++ vs ++ cur.toList.drop (k + vs.length)).toArray
  | [], k, cur, w, hg, _ => by
    simp only [World.setCells, List.append_nil, List.length_nil, Nat.add_zero, List.take_append_drop, Array.toArray_toList]
    rw [setRow_self w g cur t fr hg]
  | v :: r, k, cur, w, hg, hl => by
    simp only [List.length_cons] at hl
    have ih := setCells_row g t fr r (k + 1) (cur.setIfInBounds k v) (w.setRow g (cur.setIfInBounds k v)) (setRow_heap w g cur _ t fr hg) (by simp; omega)
    simp only [World.setCells]
    rw [setCell_eq_setRow w g k cur t fr v hg, ih, setRow_setRow]
    congr 2
    have e := list_seg_step cur.toList k v r (by simp; omega)
    simpa [Array.toList_setIfInBounds, Nat.add_assoc] using e
/-- v is the call's own slice of bytes (its block is base or behind), and reads as s. -/
def OwnF (w : World) (base : Nat) (v : Value) (s : ByteArray) : Prop :=
  ∃ g cap cur q fr, v = .slice (some ⟨g, 0, none⟩) s.size cap ∧ base ≤ g ∧ w.heap[g]? = some (.cells cur q fr) ∧ s.size ≤ cap ∧ cap ≤ cur.size ∧ cap ≤ maxLen ∧ cur.toList.take s.size = bv s ∧ Clear fr cur.size
section
variable {w w' : World} {base : Nat} {v : Value} {s : ByteArray}
theorem OwnF.kept {row : Option Nat} (h : OwnF w base v s) (hg : w.grownBy w' row) (hne : v.ownBlock = none ∨ v.ownBlock ≠ row) : OwnF w' base v s := by
  obtain ⟨g, cap, cur, q, fr, rfl, hb, hgg, rest⟩ := h
  refine ⟨g, cap, cur, q, fr, rfl, hb, ?_, rest⟩
  rw [hg.block g (Array.getElem?_eq_some_iff.1 hgg).1 (by simpa [Value.ownBlock] using hne)]
  exact hgg
theorem OwnF.below (h : OwnF w base v s) (hb : Below w.heap.size w w') : OwnF w' base v s :=
  h.kept (row := none) ⟨hb.os, hb.tape, hb.output, hb.size, fun k hk _ => hb.block k hk⟩ (by cases v.ownBlock <;> simp)
theorem OwnF.alloc (h : OwnF w base v s) (o : Obj) : OwnF (w.alloc o) base v s := h.below (below_alloc (Below.refl _ _) o)
theorem OwnF.block (h : OwnF w base v s) : ∀ k, v.ownBlock = some k → base ≤ k ∧ k < w.heap.size := by
  intro k hk
  obtain ⟨g, cap, cur, q, fr, rfl, hb, hg, _⟩ := h
  simp [Value.ownBlock] at hk
  subst hk
  exact ⟨hb, (Array.getElem?_eq_some_iff.1 hg).1⟩
theorem OwnF.rd (h : OwnF w base v s) : ∃ A c, v = .slice A s.size c ∧ s.size ≤ c ∧ Rd w A s := by
  obtain ⟨g, cap, cur, q, fr, rfl, hb, hg, hc, hcc, hm, ht, -⟩ := h
  refine ⟨_, cap, rfl, hc, fun _ => ⟨_, rfl, (Array.getElem?_eq_some_iff.1 hg).1, fun j hj => ?_⟩⟩
  have e1 : (⟨g, 0, none⟩ : Addr).add j = ⟨g, j, none⟩ := by unfold Addr.add; split <;> simp_all
  rw [e1, cell_of_row w g j cur q fr hg]
  have h2 := congrArg (fun l => l[j]?) ht
  simp only [bv_get, if_pos hj, List.getElem?_take] at h2
  simpa [hj] using h2
end
theorem run_append_bytesF {P : Program} (w : World) (base : Nat) (t xt ty e : TypeId) (i : TypeInfo) (ht : P.underlying t = some (.slice e)) (hu : P.underlying xt = some (.slice e) ∨ P.underlying xt = some .string) (hi : P.info? e = some i) (hz : i.zero = some (.int .u8 0)) (hs1 : i.size = 1) (hb1 : i.bytes = 1)
    (v x : Value) (s r : ByteArray) (hown : OwnF w base v s) (hlen : ∀ W, (Builtin.lenOf x).run P W = .ok r.size W) (hfc : ∀ W : World, (∀ a, W.cell? a = w.cell? a) → (Builtin.firstCells 1 r.size x).run P W = .ok (bv r).toArray W)
    (hsz : s.size + r.size ≤ 140737488355328) (hbase : base ≤ w.heap.size) :
    ∃ v' w', (Builtin.append_ #[t, xt] ty #[v, x]).run P w = .ok v' w' ∧ OwnF w' base v' (s ++ r) ∧ w.grownBy w' v.ownBlock := by
  obtain ⟨A, c0, hv, -, hrd⟩ := hown.rd
  obtain ⟨g, cap, cur, q, fr, rfl, hbg, hg, hnc, hcc, hcm, htake, hcl⟩ := hown
  by_cases hroom : s.size + r.size ≤ cap
  · have hf := hfc w (fun _ => rfl)
    have hst := run_storeCells_cells (P := P) g s.size (bv r) 0 w (fun j hj => by rw [bv_length] at hj; rw [cell_of_row w g _ cur q fr hg]; simp; omega)
      (fun j hj => by rw [bv_length] at hj; exact clear_frozen hg hcl (by omega)) (bv_one r)
    rw [Nat.add_zero, setCells_row g q fr (bv r) s.size cur w hg (by rw [bv_length]; omega)] at hst
    simp only [bv_length] at hst
    refine ⟨.slice (some ⟨g, 0, none⟩) (s.size + r.size) cap, w.setRow g (cur.toList.take s.size ++ bv r ++ cur.toList.drop (s.size + r.size)).toArray, ?_, ?_, ?_⟩
    · rcases hu with hu | hu <;> simp [Builtin.append_, run_underlying ht, run_underlying hu, sizeOf, typeInfo, hi, hs1, hlen, hroom, hf, Addr.add_lit, hst]
    · have hzz : (cur.toList.take s.size ++ bv r ++ cur.toList.drop (s.size + r.size)).toArray.size = cur.size := by
        simp only [List.size_toArray, List.length_append, List.length_take, List.length_drop, Array.length_toList, bv_length]
        omega
      refine ⟨g, cap, _, q, fr, by rw [ByteArray.size_append], hbg, setRow_heap w g cur _ q fr hg, by rw [ByteArray.size_append]; exact hroom, by rw [hzz]; exact hcc, hcm, ?_, by rw [hzz]; exact hcl⟩
      have hl : (s ++ r).size = (bv s ++ bv r).length := by rw [List.length_append, bv_length, bv_length, ByteArray.size_append]
      rw [htake, bv_append, hl]
      exact List.take_left
    · exact ⟨rfl, rfl, rfl, by simp, fun k _ hk => setRow_other w g k _ (fun e => hk (by simp [Value.ownBlock, e]))⟩
  · have hn : ¬ (s.size + r.size ≤ cap) := hroom
    have h63' : ¬ (9223372036854775807 < ((s.size : Int) + (r.size : Int))) := by omega
    have h48' : ¬ (281474976710656 < Builtin.nextslicecap (s.size + r.size) cap) := by
      have := growslice_fits (bytes := 1) (show cap < s.size + r.size by omega) (by omega)
      omega
    have hf := hfc w.drew (fun a => rfl)
    have hfo : (Builtin.firstCells 1 s.size (.slice (some ⟨g, 0, none⟩) s.size cap)).run P w.drew = .ok (bv s).toArray w.drew := by
      injection hv with hA hA2 hA3
      subst hA
      exact rd_first hrd cap w.drew (fun a => rfl)
    refine ⟨.slice (some ⟨w.heap.size, 0, none⟩) (s.size + r.size) (grownCap w (s.size + r.size) cap e), w.drew.alloc (.cells ((bv s).toArray ++ (bv r).toArray ++ Builtin.zeroCells (Value.int .u8 0).cells (grownCap w (s.size + r.size) cap e - (s.size + r.size))) e), ?_, ?_, ?_⟩
    · rcases hu with hu | hu <;> (simp [Builtin.append_, run_underlying ht, run_underlying hu, sizeOf, typeInfo, zeroValue, hi, hz, hs1, hb1, hlen, hn, h63', h48', Question.forced, hf, hfo, newRow, grownCap]; congr 2; apply Array.ext'; simp [List.append_assoc])
    · refine ⟨w.heap.size, _, _, e, (0, 0), by rw [ByteArray.size_append], hbase, heap_alloc_new w.drew _, ?_, ?_, grownCap_le_maxLen w _ cap e (by simp only [maxLen]; omega), ?_, .inl rfl⟩
      · rw [ByteArray.size_append]; exact grownCap_ge w _ cap e
      · have hz1 : (Value.int IntKind.u8 0).cells.size = 1 := rfl
        have hge := grownCap_ge w (s.size + r.size) cap e
        simp only [Array.size_append, List.size_toArray, size_zeroCells, hz1, bv_length]
        omega
      · simp only [Array.toList_append, List.append_assoc]
        rw [← List.append_assoc, bv_append]
        have hl : (s ++ r).size = (bv s ++ bv r).length := by rw [List.length_append, bv_length, bv_length, ByteArray.size_append]
        rw [hl]
        exact List.take_left
    · exact ⟨rfl, rfl, rfl, by simp, fun k hk _ => Below.heap_alloc w.drew _ k hk⟩
theorem wpList_append_bytesF {P : Program} (w : World) {ops : Array Oper} {rest : List Oper} {o : Oper} {a : Act} {Q : Exit → Act → World → Prop} (hgd : o.guard = none) (sl xo : Operand) (t xt : TypeId)
    (ho : o.op = .call { callee := .builtin .append, args := #[sl, xo], argTypes := #[t, xt] })
    (base : Nat) (e : TypeId) (i : TypeInfo) (ht : P.underlying t = some (.slice e)) (hu : P.underlying xt = some (.slice e) ∨ P.underlying xt = some .string) (hi : P.info? e = some i) (hz : i.zero = some (.int .u8 0)) (hs1 : i.size = 1) (hb1 : i.bytes = 1)
    (v x : Value) (s r : ByteArray) (hs : a.eval sl = v) (hx : a.eval xo = x) (hown : OwnF w base v s) (hlen : ∀ W, (Builtin.lenOf x).run P W = .ok r.size W) (hfc : ∀ W : World, (∀ a, W.cell? a = w.cell? a) → (Builtin.firstCells 1 r.size x).run P W = .ok (bv r).toArray W)
    (hsz : s.size + r.size ≤ 140737488355328) (hbase : base ≤ w.heap.size)
    (h : ∀ v' w', OwnF w' base v' (s ++ r) → w.grownBy w' v.ownBlock → wpList P ops Q rest (a.put o.dst v') w') : wpList P ops Q (o :: rest) a w :=
  wpList_plain hgd fun _ hK => by
    obtain ⟨v', w', hr, h2, h3⟩ := run_append_bytesF (P := P) w base t xt o.type e i ht hu hi hz hs1 hb1 v x s r hown hlen hfc hsz hbase
    unfold Oper.wp execOp
    simp only [ho, resolve, invoke, builtin, Sem.run_bind, Sem.run_pure, Result.andThen_ok, List.map_toArray, List.map_cons, List.map_nil, hs, hx, hr]
    exact hK _ _ (h v' w' h2 h3)
theorem app_rdF {ops : Array Oper} {rest : List Oper} {o : Oper} {a : Act} {Q : Exit → Act → World → Prop} (w : World) (hgd : o.guard = none) (sl xo : Operand)
    (ho : o.op = .call { callee := .builtin .append, args := #[sl, xo], argTypes := #[26, 26] })
    (base : Nat) (v : Value) (s r : ByteArray) (A : Option Addr) (n c : Nat) (hs : a.eval sl = v) (hx : a.eval xo = .slice A n c) (hn : n = r.size) (hown : OwnF w base v s) (hr : Rd w A r)
    (hsz : s.size + r.size ≤ 140737488355328) (hbase : base ≤ w.heap.size)
    (h : ∀ v' w', OwnF w' base v' (s ++ r) → w.grownBy w' v.ownBlock → wpList Tryd.prog ops Q rest (a.put o.dst v') w') : wpList Tryd.prog ops Q (o :: rest) a w := by
  obtain ⟨i, hi, hz, hz1, hz2⟩ := info_parts info_u8
  subst hn
  exact wpList_append_bytesF w hgd sl xo 26 26 ho base 5 i Tryd.underlying26 (.inl Tryd.underlying26) hi hz hz1 hz2 v _ s r hs hx hown (fun _ => rfl) (fun W hW => rd_first hr c W hW) hsz hbase h
theorem app_strF {ops : Array Oper} {rest : List Oper} {o : Oper} {a : Act} {Q : Exit → Act → World → Prop} (w : World) (hgd : o.guard = none) (sl xo : Operand)
    (ho : o.op = .call { callee := .builtin .append, args := #[sl, xo], argTypes := #[26, 9] })
    (base : Nat) (v : Value) (s r : ByteArray) (hs : a.eval sl = v) (hx : a.eval xo = .string r) (hown : OwnF w base v s)
    (hsz : s.size + r.size ≤ 140737488355328) (hbase : base ≤ w.heap.size)
    (h : ∀ v' w', OwnF w' base v' (s ++ r) → w.grownBy w' v.ownBlock → wpList Tryd.prog ops Q rest (a.put o.dst v') w') : wpList Tryd.prog ops Q (o :: rest) a w := by
  obtain ⟨i, hi, hz, hz1, hz2⟩ := info_parts info_u8
  exact wpList_append_bytesF w hgd sl xo 26 9 ho base 5 i Tryd.underlying26 (.inr Tryd.underlying9) hi hz hz1 hz2 v _ s r hs hx hown (fun _ => rfl) (fun W _ => str_first r W) hsz hbase h
/-- The beginning of what a string's conversion gives. -/
theorem ownF_bytes (w : World) (s : ByteArray) (n : Nat) (hn : n ≤ s.size) (hm : s.size ≤ 140737488355328) :
    OwnF (Lib.bytesWorld w 5 s) w.heap.size (.slice (some ⟨w.heap.size, 0, none⟩) n (grownCap w s.size 0 5)) (s.extract 0 n) := by
  have hz : (s.extract 0 n).size = n := by rw [size_ext]; omega
  have hge := grownCap_ge w s.size 0 5
  have hcs : (Lib.bytesCells w 5 s).size = grownCap w s.size 0 5 := by
    unfold Lib.bytesCells
    simp only [Array.size_append, Array.size_map, Array.size_replicate]
    show s.size + _ = _
    omega
  refine ⟨w.heap.size, _, _, _, _, by rw [hz], Nat.le_refl _, Lib.bytesWorld_at_new w 5 s, by rw [hz]; omega, by rw [hcs]; exact Nat.le_refl _, grownCap_le_maxLen w _ 0 _ (by simp only [maxLen]; omega), ?_, .inr (Nat.le_refl _)⟩
  rw [hz]
  apply List.ext_getElem?
  intro j
  rw [List.getElem?_take, bv_get, hz]
  by_cases hj : j < n
  · rw [if_pos hj, if_pos hj, bt_ext _ _ _ _ (by omega) (by rw [hz]; omega)]
    unfold Lib.bytesCells
    have h1 : j < s.size := by omega
    have h2 : j < s.data.toList.length := by simpa using h1
    rw [Array.toList_append, List.getElem?_append_left (by simp; exact h1), Array.toList_map, List.getElem?_map, List.getElem?_eq_getElem h2]
    have := getD_bt s j
    rw [List.getD_eq_getElem?_getD, List.getElem?_eq_getElem h2, Option.getD_some] at this
    rw [Option.map_some, this]
    congr 3
    simp
  · rw [if_neg hj, if_neg hj]
end Go.Proofs.YtdcmiggpjjdocaaDoor.L
