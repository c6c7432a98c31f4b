/- A slice of bytes that the call itself owns: append. -/
import Derived.Test.YtfcnjelhhhncoaaBase
import Derived.Maps.AppendAt
import Derived.Deep.AppendLies
import Derived.RegionTactic
import Derived.OwnWalk
namespace Go.Proofs.Ytfcnjelhhhncoaa.L
open Go.RowKit
set_option linter.unusedVariables false
set_option linter.unusedSimpArgs false

def bv (s : ByteArray) : List Value := (List.range s.size).map fun (j : Nat) => .int .u8 (bt s j)
theorem bv_length (s : ByteArray) : (bv s).length = s.size := by simp [bv]
theorem bv_get (s : ByteArray) (j : Nat) : (bv s)[j]? = if j < s.size then some (.int .u8 (bt s j)) else none := by
  unfold bv
  split
  · rename_i h
    simp [List.getElem?_map, List.getElem?_range h]
  · rename_i h
    rw [List.getElem?_eq_none (by simp; omega)]
theorem bv_append (a b : ByteArray) : bv (a ++ b) = bv a ++ bv b := by
  apply List.ext_getElem?
  intro j
  rw [List.getElem?_append, bv_get, bv_get, bv_get, bv_length, ByteArray.size_append]
  by_cases h : j < a.size
  · rw [if_pos h, if_pos h, if_pos (by omega), bt_app_left a b j (by omega) (by omega)]
  · rw [if_neg h]
    by_cases h2 : j < a.size + b.size
    · rw [if_pos h2, if_pos (by omega), bt_app_right a b j (by omega)]
      congr 3
      omega
    · rw [if_neg h2, if_neg (by omega)]
theorem bv_one (s : ByteArray) : ∀ u ∈ bv s, u.oneCell' = true := by
  intro u hu
  simp only [bv, List.mem_map] at hu
  obtain ⟨b, _, rfl⟩ := hu
  rfl

/-- v is the call's own slice of bytes (its block is base or behind), and reads as s. -/
def Own (w : World) (base : Nat) (v : Value) (s : ByteArray) : Prop :=
  (v = .slice none 0 0 ∧ s.size = 0) ∨
  ∃ g cap cur q, v = .slice (some ⟨g, 0, none⟩) s.size cap ∧ base ≤ g ∧ w.heap[g]? = some (.cells cur q (0, 0)) ∧ s.size ≤ cap ∧ cap ≤ cur.size ∧ cap ≤ maxLen ∧ cur.toList.take s.size = bv s

section
variable {w w' : World} {base : Nat} {v : Value} {s : ByteArray}
theorem Own.nil (w : World) (base : Nat) : Own w base (.slice none 0 0) ByteArray.empty := .inl ⟨rfl, rfl⟩
theorem Own.kept {row : Option Nat} (h : Own w base v s) (hg : w.grownBy w' row) (hne : v.ownBlock = none ∨ v.ownBlock ≠ row) : Own w' base v s := by
  rcases h with hn | ⟨g, cap, cur, q, rfl, hb, hgg, rest⟩
  · exact .inl hn
  · refine .inr ⟨g, cap, cur, q, rfl, hb, ?_, rest⟩
    rw [hg.block g (Array.getElem?_eq_some_iff.1 hgg).1 (by simpa [Value.ownBlock] using hne)]
    exact hgg
theorem Own.below (h : Own w base v s) (hb : Below w.heap.size w w') : Own w' base v s :=
  h.kept (row := none) ⟨hb.os, hb.tape, hb.output, hb.size, fun k hk _ => hb.block k hk⟩ (by cases v.ownBlock <;> simp)
theorem Own.alloc (h : Own w base v s) (o : Obj) : Own (w.alloc o) base v s := h.below (below_alloc (Below.refl _ _) o)
theorem Own.drewN (h : Own w base v s) (n : Nat) : Own (w.drewN n) base v s := h
theorem Own.drew (h : Own w base v s) : Own w.drew base v s := h
theorem Own.slice (h : Own w base v s) : ∃ A c, v = .slice A s.size c := by
  rcases h with ⟨rfl, h0⟩ | ⟨g, cap, cur, q, rfl, _⟩
  · exact ⟨none, 0, by rw [h0]⟩
  · exact ⟨_, cap, rfl⟩
theorem Own.block (h : Own w base v s) : ∀ k, v.ownBlock = some k → base ≤ k ∧ k < w.heap.size := by
  intro k hk
  rcases h with ⟨rfl, _⟩ | ⟨g, cap, cur, q, rfl, hb, hg, _⟩
  · simp [Value.ownBlock] at hk
  · simp [Value.ownBlock] at hk
    subst hk
    exact ⟨hb, (Array.getElem?_eq_some_iff.1 hg).1⟩
theorem Own.rd (h : Own w base v s) : ∃ A c, v = .slice A s.size c ∧ s.size ≤ c ∧ Rd w A s := by
  rcases h with ⟨rfl, h0⟩ | ⟨g, cap, cur, q, rfl, hb, hg, hc, hcc, hm, ht⟩
  · exact ⟨none, 0, by rw [h0], by omega, fun h => absurd h (by omega)⟩
  · refine ⟨_, cap, rfl, hc, fun _ => ⟨_, rfl, (Array.getElem?_eq_some_iff.1 hg).1, fun j hj => ?_⟩⟩
    have e1 : (⟨g, 0, none⟩ : Addr).add j = ⟨g, j, none⟩ := by unfold Addr.add; split <;> simp_all
    rw [e1, cell_of_row w g j cur q (0, 0) hg]
    have h2 := congrArg (fun l => l[j]?) ht
    simp only [bv_get, if_pos hj, List.getElem?_take] at h2
    simpa [hj] using h2
theorem Own.cells {g : Nat} (h : Own w base v s) (hg : v.ownBlock = some g) : ∀ j u, (bv s)[j]? = some u → w.cell? ((⟨g, 0, none⟩ : Addr).add j) = some u := by
  intro j u hu
  rw [bv_get] at hu
  split at hu
  · rename_i hj
    injection hu with hu
    subst hu
    obtain ⟨A, c, rfl, _, hr⟩ := h.rd
    obtain ⟨ad, rfl, _, hc⟩ := hr (by omega)
    have : ad = ⟨g, 0, none⟩ := by
      rcases h with ⟨h1, _⟩ | ⟨g', cap, cur, q, h1, _⟩
      · injection h1 with h1; cases h1
      · injection h1 with h1
        injection h1 with h1
        subst h1
        simp [Value.ownBlock] at hg
        rw [hg]
    subst this
    exact hc j hj
  · cases hu
end

theorem rd_first {P : Program} {w : World} {A : Option Addr} {s : ByteArray} (h : Rd w A s) (c : Nat) (W : World) (hW : ∀ a, W.cell? a = w.cell? a) : (Builtin.firstCells 1 s.size (.slice A s.size c)).run P W = .ok (bv s).toArray W := by
  rcases A with _ | ad
  · have h0 : s.size = 0 := by
      rcases Nat.eq_zero_or_pos s.size with h0 | h0
      · exact h0
      · obtain ⟨ad, h', _⟩ := h h0
        cases h'
    have e : bv s = [] := List.eq_nil_of_length_eq_zero (by rw [bv_length, h0])
    simp [Builtin.firstCells, e]
  · refine run_firstCells_some (P := P) W 1 s.size ad s.size c (bv s) (by rw [bv_length]; omega) fun j u hu => ?_
    rw [bv_get] at hu
    split at hu
    · rename_i hj
      injection hu with hu
      subst hu
      obtain ⟨ad', he, _, hc⟩ := h (by omega)
      injection he with he
      subst he
      rw [hW]
      exact hc j hj
    · cases hu
theorem str_first {P : Program} (s : ByteArray) (W : World) : (Builtin.firstCells 1 s.size (.string s)).run P W = .ok (bv s).toArray W := by
  have e : (s.data.map fun b => Value.int .u8 b.toNat) = (bv s).toArray := by
    apply Array.ext'
    simp only [Array.toList_map]
    apply List.ext_getElem?
    intro j
    rw [bv_get, List.getElem?_map]
    by_cases h : j < s.size
    · rw [if_pos h, ← getD_bt, List.getD_eq_getElem?_getD]
      have h' : j < s.data.toList.length := by simpa using h
      rw [List.getElem?_eq_getElem h']
      simp
    · rw [if_neg h]
      have h' : ¬ j < s.data.toList.length := by simpa using h
      rw [List.getElem?_eq_none (by omega)]
      rfl
  simp only [Builtin.firstCells]
  have e2 : s.extract 0 s.size = s := ext_all s
  rw [e2, e]
  rfl

section
variable {P : Program} (w : World)

theorem run_append_bytes (base : Nat) (t xt ty e : TypeId) (i : TypeInfo) (ht : P.underlying t = some (.slice e)) (hu : P.underlying xt = some (.slice e) ∨ P.underlying xt = some .string) (hi : P.info? e = some i) (hz : i.zero = some (.int .u8 0)) (hs1 : i.size = 1) (hb1 : i.bytes = 1)
    (v x : Value) (s r : ByteArray) (hown : Own w base v s) (hlen : ∀ W, (Builtin.lenOf x).run P W = .ok r.size W) (hfc : ∀ W : World, (∀ a, W.cell? a = w.cell? a) → (Builtin.firstCells 1 r.size x).run P W = .ok (bv r).toArray W)
    (hsz : s.size + r.size ≤ 140737488355328) (hbase : base ≤ w.heap.size) :
    ∃ v' w', (Builtin.append_ #[t, xt] ty #[v, x]).run P w = .ok v' w' ∧ Own w' base v' (s ++ r) ∧ w.grownBy w' v.ownBlock ∧ (v'.ownBlock = v.ownBlock ∨ v'.ownBlock = some w.heap.size) := by
  -- growing
  have grow : ∀ (A : Option Addr) (n c : Nat), v = .slice A n c → n = s.size → c < n + r.size → (Builtin.firstCells 1 n (.slice A n c)).run P w.drew = .ok (bv s).toArray w.drew →
      ∃ v' w', (Builtin.append_ #[t, xt] ty #[v, x]).run P w = .ok v' w' ∧ Own w' base v' (s ++ r) ∧ w.grownBy w' v.ownBlock ∧ (v'.ownBlock = v.ownBlock ∨ v'.ownBlock = some w.heap.size) := by
    rintro A n c rfl rfl hc hfo
    have hn : ¬ (s.size + r.size ≤ c) := by omega
    have h63' : ¬ (9223372036854775807 < ((s.size : Int) + (r.size : Int))) := by omega
    have h48' : ¬ (281474976710656 < Builtin.nextslicecap (s.size + r.size) c) := by
      have := growslice_fits (bytes := 1) hc (by omega)
      omega
    have hf := hfc w.drew (fun a => rfl)
    refine ⟨.slice (some ⟨w.heap.size, 0, none⟩) (s.size + r.size) (grownCap w (s.size + r.size) c e), w.drew.alloc (.cells ((bv s).toArray ++ (bv r).toArray ++ Builtin.zeroCells (Value.int .u8 0).cells (grownCap w (s.size + r.size) c e - (s.size + r.size))) e), ?_, ?_, ?_, .inr rfl⟩
    · rcases hu with hu | hu <;> (simp [Builtin.append_, run_underlying ht, run_underlying hu, sizeOf, typeInfo, zeroValue, hi, hz, hs1, hb1, hlen, hn, h63', h48', Question.forced, hf, hfo, newRow, grownCap]; congr 2; apply Array.ext'; simp [List.append_assoc])
    · refine .inr ⟨w.heap.size, _, _, e, by rw [ByteArray.size_append], hbase, heap_alloc_new w.drew _, ?_, ?_, grownCap_le_maxLen w _ c e (by simp only [maxLen]; omega), ?_⟩
      · rw [ByteArray.size_append]; exact grownCap_ge w _ c e
      · have hz1 : (Value.int IntKind.u8 0).cells.size = 1 := rfl
        have hge := grownCap_ge w (s.size + r.size) c e
        simp only [Array.size_append, List.size_toArray, size_zeroCells, hz1, bv_length]
        omega
      · simp only [Array.toList_append, List.append_assoc]
        rw [← List.append_assoc, bv_append]
        have hl : (s ++ r).size = (bv s ++ bv r).length := by rw [List.length_append, bv_length, bv_length, ByteArray.size_append]
        rw [hl]
        exact List.take_left
    · exact ⟨rfl, rfl, rfl, by simp, fun k hk _ => Below.heap_alloc w.drew _ k hk⟩
  rcases hown with ⟨rfl, h0⟩ | ⟨g, cap, cur, q, rfl, hbg, hg, hnc, hcc, hcm, htake⟩
  · have es : bv s = [] := List.eq_nil_of_length_eq_zero (by rw [bv_length, h0])
    have ea : s ++ r = r := eq_of_bt (by rw [ByteArray.size_append]; omega) fun k hk => by
      rw [bt_app_right s r k (by omega)]
      congr 1
      omega
    by_cases hm : r.size = 0
    · have en : bv r = [] := List.eq_nil_of_length_eq_zero (by rw [bv_length, hm])
      refine ⟨.slice none 0 0, w, ?_, .inl ⟨rfl, by rw [ea, hm]⟩, ⟨rfl, rfl, rfl, Nat.le_refl _, fun _ _ _ => rfl⟩, .inl rfl⟩
      have hf := hfc w (fun _ => rfl)
      rw [hm] at hf
      rcases hu with hu | hu <;> simp [Builtin.append_, run_underlying ht, run_underlying hu, sizeOf, typeInfo, hi, hs1, hlen, hm, hf]
    · refine grow none 0 0 rfl h0.symm (by omega) ?_
      rw [es]
      simp [Builtin.firstCells]
  · by_cases hroom : s.size + r.size ≤ cap
    · have hf := hfc w (fun _ => rfl)
      have hst := run_storeCells_at P g s.size q (bv r) 0 cur w hg (by rw [bv_length]; omega) (bv_one r)
      simp only [Nat.add_zero, bv_length] at hst
      refine ⟨.slice (some ⟨g, 0, none⟩) (s.size + r.size) cap, w.setRow g (cur.toList.take s.size ++ bv r ++ cur.toList.drop (s.size + r.size)).toArray, ?_, ?_, ?_, .inl rfl⟩
      · rcases hu with hu | hu <;> simp [Builtin.append_, run_underlying ht, run_underlying hu, sizeOf, typeInfo, hi, hs1, hlen, hroom, hf, Addr.add_lit, hst]
      · refine .inr ⟨g, cap, _, q, by rw [ByteArray.size_append], hbg, setRow_heap w g cur _ q _ hg, by rw [ByteArray.size_append]; exact hroom, ?_, hcm, ?_⟩
        · simp only [List.size_toArray, List.length_append, List.length_take, List.length_drop, Array.length_toList, bv_length]
          omega
        · have hl : (s ++ r).size = (bv s ++ bv r).length := by rw [List.length_append, bv_length, bv_length, ByteArray.size_append]
          rw [htake, bv_append, hl]
          exact List.take_left
      · exact ⟨rfl, rfl, rfl, by simp, fun k _ hk => setRow_other w g k _ (fun e => hk (by simp [Value.ownBlock, e]))⟩
    · have hO : Own w base (.slice (some ⟨g, 0, none⟩) s.size cap) s := .inr ⟨g, cap, cur, q, rfl, hbg, hg, hnc, hcc, hcm, htake⟩
      refine grow (some ⟨g, 0, none⟩) s.size cap rfl rfl (by omega) ?_
      exact run_firstCells_some (P := P) w.drew 1 s.size ⟨g, 0, none⟩ s.size cap (bv s) (by rw [bv_length]; omega) (fun j u hu => hO.cells (g := g) rfl j u hu)

theorem wp_append_bytes {o : Oper} {a : Act} {K : Act → World → Prop} {Q : Exit → Act → World → Prop} (sl xo : Operand) (t xt : TypeId)
    (ho : o.op = .call { callee := .builtin .append, args := #[sl, xo], argTypes := #[t, xt] })
    (base : Nat) (e : TypeId) (i : TypeInfo) (ht : P.underlying t = some (.slice e)) (hu : P.underlying xt = some (.slice e) ∨ P.underlying xt = some .string) (hi : P.info? e = some i) (hz : i.zero = some (.int .u8 0)) (hs1 : i.size = 1) (hb1 : i.bytes = 1)
    (v x : Value) (s r : ByteArray) (hs : a.eval sl = v) (hx : a.eval xo = x) (hown : Own w base v s) (hlen : ∀ W, (Builtin.lenOf x).run P W = .ok r.size W) (hfc : ∀ W : World, (∀ a, W.cell? a = w.cell? a) → (Builtin.firstCells 1 r.size x).run P W = .ok (bv r).toArray W)
    (hsz : s.size + r.size ≤ 140737488355328) (hbase : base ≤ w.heap.size)
    (h : ∀ v' w', Own w' base v' (s ++ r) → w.grownBy w' v.ownBlock → (v'.ownBlock = v.ownBlock ∨ v'.ownBlock = some w.heap.size) → K (a.put o.dst v') w') : o.wp P a w K Q := by
  obtain ⟨v', w', hr, h2, h3, h4⟩ := run_append_bytes (P := P) w base t xt o.type e i ht hu hi hz hs1 hb1 v x s r hown hlen hfc hsz hbase
  unfold Oper.wp execOp
  simp only [ho, resolve, invoke, builtin, Sem.run_bind, Sem.run_pure, Result.andThen_ok, List.map_toArray, List.map_cons, List.map_nil, hs, hx, hr]
  exact h v' w' h2 h3 h4

theorem wpList_append_bytes {ops : Array Oper} {rest : List Oper} {o : Oper} {a : Act} {Q : Exit → Act → World → Prop} (hgd : o.guard = none) (sl xo : Operand) (t xt : TypeId)
    (ho : o.op = .call { callee := .builtin .append, args := #[sl, xo], argTypes := #[t, xt] })
    (base : Nat) (e : TypeId) (i : TypeInfo) (ht : P.underlying t = some (.slice e)) (hu : P.underlying xt = some (.slice e) ∨ P.underlying xt = some .string) (hi : P.info? e = some i) (hz : i.zero = some (.int .u8 0)) (hs1 : i.size = 1) (hb1 : i.bytes = 1)
    (v x : Value) (s r : ByteArray) (hs : a.eval sl = v) (hx : a.eval xo = x) (hown : Own w base v s) (hlen : ∀ W, (Builtin.lenOf x).run P W = .ok r.size W) (hfc : ∀ W : World, (∀ a, W.cell? a = w.cell? a) → (Builtin.firstCells 1 r.size x).run P W = .ok (bv r).toArray W)
    (hsz : s.size + r.size ≤ 140737488355328) (hbase : base ≤ w.heap.size)
    (h : ∀ v' w', Own w' base v' (s ++ r) → w.grownBy w' v.ownBlock → (v'.ownBlock = v.ownBlock ∨ v'.ownBlock = some w.heap.size) → wpList P ops Q rest (a.put o.dst v') w') : wpList P ops Q (o :: rest) a w :=
  wpList_plain hgd fun _ hK => wp_append_bytes w sl xo t xt ho base e i ht hu hi hz hs1 hb1 v x s r hs hx hown hlen hfc hsz hbase fun v' w' h2 h3 h4 => hK _ _ (h v' w' h2 h3 h4)

theorem step_append_bytes {ops : Array Oper} {o : Oper} {a : Act} {K : Act → World → Prop} {Q : Exit → Act → World → Prop} {E : Prop} (hgd : o.guard = none) (sl xo : Operand) (t xt : TypeId)
    (ho : o.op = .call { callee := .builtin .append, args := #[sl, xo], argTypes := #[t, xt] })
    (base : Nat) (e : TypeId) (i : TypeInfo) (ht : P.underlying t = some (.slice e)) (hu : P.underlying xt = some (.slice e) ∨ P.underlying xt = some .string) (hi : P.info? e = some i) (hz : i.zero = some (.int .u8 0)) (hs1 : i.size = 1) (hb1 : i.bytes = 1)
    (v x : Value) (s r : ByteArray) (hs : a.eval sl = v) (hx : a.eval xo = x) (hown : Own w base v s) (hlen : ∀ W, (Builtin.lenOf x).run P W = .ok r.size W) (hfc : ∀ W : World, (∀ a, W.cell? a = w.cell? a) → (Builtin.firstCells 1 r.size x).run P W = .ok (bv r).toArray W)
    (hsz : s.size + r.size ≤ 140737488355328) (hbase : base ≤ w.heap.size)
    (h : ∀ v' w', Own w' base v' (s ++ r) → w.grownBy w' v.ownBlock → (v'.ownBlock = v.ownBlock ∨ v'.ownBlock = some w.heap.size) → K (a.put o.dst v') w') :
    if Region.wanted o (yielded ops a.tmps) = true then Oper.wp P o a w K Q else E := by
  have hw : Region.wanted o (yielded ops a.tmps) = true := by simp [Region.wanted, hgd]
  rw [if_pos hw]
  exact wp_append_bytes w sl xo t xt ho base e i ht hu hi hz hs1 hb1 v x s r hs hx hown hlen hfc hsz hbase h
end

/-- A literal slice of bytes. -/
theorem rd_lit (w : World) (q : TypeId) (xs : List Int) (h : ∀ x ∈ xs, 0 ≤ x ∧ x ≤ 255) : Rd (w.alloc (.cells (xs.map (Value.int .u8)).toArray q)) (some ⟨w.heap.size, 0, none⟩) (strOfNums xs) := fun _ =>
  ⟨_, rfl, by simp, fun j hj => by
    have e1 : (⟨w.heap.size, 0, none⟩ : Addr).add j = ⟨w.heap.size, j, none⟩ := by unfold Addr.add; split <;> simp_all
    rw [strOfNums_size] at hj
    rw [e1, cell_of_row (w.alloc _) w.heap.size j _ q (0, 0) (heap_alloc_new w _)]
    rw [← getD_bt, strOfNums_data]
    have hx := h xs[j] (List.getElem_mem hj)
    simp [List.getD_eq_getElem?_getD, hj]
    omega⟩
theorem bt_nums (xs : List Int) (j : Nat) (hj : j < xs.length) (h : 0 ≤ xs[j] ∧ xs[j] ≤ 255) : bt (strOfNums xs) j = xs[j] := by
  rw [← getD_bt, strOfNums_data]
  simp [List.getD_eq_getElem?_getD, hj]
  omega
end Go.Proofs.Ytfcnjelhhhncoaa.L
