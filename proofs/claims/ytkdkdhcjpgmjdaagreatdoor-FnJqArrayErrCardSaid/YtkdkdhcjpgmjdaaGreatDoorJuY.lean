/- The walk of jsonparser's unescapeConfig. Printed by gen_juy.py. -/
import Derived.Test.YtkdkdhcjpgmjdaaGreatDoorJuX
import Derived.Deep.CutBlock
namespace Go.Proofs.YtkdkdhcjpgmjdaaGreatDoor.Jp
open Go.RowKit L
set_option linter.unusedVariables false
set_option linter.unusedSimpArgs false

/-- The cells of block h from o on are the numbers l. -/
def Ints (w : World) (h o : Nat) (l : List Int) : Prop := ∀ j, j < l.length → w.cell? ⟨h, o + j, none⟩ = some (.int .u8 (l.getD j 0))
theorem bytesOf_bl (s : ByteArray) : Lib.bytesOf (bl s) = s.data.toList := by
  apply List.ext_getElem?
  intro j
  unfold Lib.bytesOf bl
  rw [List.getElem?_map, List.getElem?_map]
  by_cases h : j < s.size
  · have h' : j < s.data.toList.length := by simpa using h
    rw [List.getElem?_range h, List.getElem?_eq_getElem h']
    simp only [Option.map_some, Option.some.injEq]
    rw [← getD_bt, List.getD_eq_getElem?_getD, List.getElem?_eq_getElem h']
    simp
  · have h' : ¬ j < s.data.toList.length := by simpa using h
    rw [List.getElem?_eq_none (by simp; omega), List.getElem?_eq_none (by simp; omega)]
    rfl
theorem rd_ints {w : World} {bi i : Nat} {s : ByteArray} (h : Rd w (some ⟨bi, i, none⟩) s) : Ints w bi i (bl s) := by
  intro j hj
  rw [bl_length] at hj
  obtain ⟨ad, e, -, hc⟩ := h (by omega)
  injection e with e
  subst e
  have := hc j hj
  have e1 : (⟨bi, i, none⟩ : Addr).add j = ⟨bi, i + j, none⟩ := by unfold Addr.add; split <;> simp_all
  rw [e1] at this
  rw [this, List.getD_eq_getElem?_getD, bl_get s hj]
  rfl
theorem idxByteW (bi i n c : Nat) (s : ByteArray) (x : Int) (w : World) (h : Rd w (some ⟨bi, i, none⟩) s) (hn : n = s.size) (hx : x = Lib.indexByte s.data.toList 92) :
    Calls Tryz.prog 99 #[.slice (some ⟨bi, i, none⟩) n c, .int .u8 92] w fun e w' => e = .returned (.int .i64 x) ∧ w = w' := by
  subst hn hx
  refine (Tryz.bytes_IndexByte bi i s.size c (bl s) 92 w (bl_length s) (fun j hj => rd_ints h j (by rw [bl_length]; exact hj))).mono ?_
  rintro e w' ⟨rfl, rfl⟩
  rw [bytesOf_bl]
  exact ⟨rfl, rfl⟩
/-- What unescapeConfig answers. -/
def UnP (s : ByteArray) (bi g0 len : Nat) (tt : TypeId) (B : Nat) (w0 w : World) (e : Ending) (w' : World) : Prop :=
  (∃ h o n' c', e = .returned (.tuple #[.slice (some ⟨h, o, none⟩) n' c', .nilIface]) ∧ n' = (unq s 0).length ∧ n' ≤ c' ∧ Ints w' h o (unq s 0) ∧ (h = bi ∨ h = g0 ∨ w.heap.size ≤ h)) ∧
  (∃ cur', w'.heap[g0]? = some (.cells (cur' : List Value).toArray tt (0, 0)) ∧ cur'.length = len) ∧ Below B w0 w' ∧ Kp (fun j => j ≠ g0) w w'
theorem take_splice {α : Type} (L : List α) (o : Nat) (cs : List α) (h : o + cs.length ≤ L.length) : (splice L o cs).take (o + cs.length) = L.take o ++ cs := by
  unfold splice
  rw [← List.append_assoc, List.take_append_of_le_length (by rw [List.length_append, List.length_take]; omega)]
  exact List.take_of_length_le (by rw [List.length_append, List.length_take]; omega)
abbrev vs (l : List Int) : List Value := l.map (Value.int .u8)
theorem vs_one (l : List Int) : ∀ v ∈ vs l, v.oneCell' = true := by
  intro v hv
  obtain ⟨x, -, rfl⟩ := List.mem_map.1 hv
  rfl
theorem vs_src {w : World} {bi i : Nat} {s : ByteArray} {k : Nat} (h : Rd w (some ⟨bi, i, none⟩) s) : ∀ j v, (vs (bl (s.extract 0 k)))[j]? = some v → w.cell? ((⟨bi, i, none⟩ : Addr).add j) = some v := by
  intro j v hv
  rw [List.getElem?_map] at hv
  have hj : j < (s.extract 0 k).size := by
    rcases Nat.lt_or_ge j (s.extract 0 k).size with h | h
    · exact h
    · rw [List.getElem?_eq_none (by rw [bl_length]; exact h)] at hv; cases hv
  rw [bl_get _ hj] at hv
  simp only [Option.map_some, Option.some.injEq] at hv
  subst hv
  rw [size_ext] at hj
  obtain ⟨ad, e, -, hc⟩ := h (by omega)
  injection e with e
  subst e
  rw [hc j (by omega), bt_ext _ _ _ _ (by omega) (by rw [size_ext]; omega)]
  congr 3
  omega
/-- How the unescaping stands: o bytes written in block h, t is left. -/
structure UnA (s : ByteArray) (h g0 len hlen : Nat) (tt th : TypeId) (B : Nat) (w0 wi : World) (bi : Nat) (t : ByteArray) (i o : Nat) (l : List Int) (cur : List Value) (wr : World) : Prop where
  rd : Rd wr (some ⟨bi, i, none⟩) t
  ok : EscOk t 0
  row : wr.heap[h]? = some (.cells cur.toArray th (0, 0))
  cl : cur.length = hlen
  tk : cur.take o = vs l
  un : l ++ unq t 0 = unq s 0
  lo : l.length = o
  ot : o + t.size ≤ s.size
  sb : ∃ cur', wr.heap[g0]? = some (.cells (cur' : List Value).toArray tt (0, 0)) ∧ cur'.length = len
  bel : Below B w0 wr
  kp : Kp (fun j => j ≠ g0) wi wr
  tb : Tb wr
theorem copyW {P : Program} {w : World} {ops : Array Oper} {rest : List Oper} {o : Oper} {a : Act} {Q : Exit → Act → World → Prop} (hgd : o.guard = none) (d s : Operand) (dT sT : TypeId)
    (ho : o.op = .call { callee := .builtin .copy, args := #[d, s], argTypes := #[dT, sT] }) (elem : TypeId) (hu : P.underlying dT = some (.slice elem)) (hsz : (P.info? elem).map (·.size) = some 1)
    (dp sp : Option Addr) (dLen dCap sLen sCap : Nat) (hd : a.eval d = .slice dp dLen dCap) (hs : a.eval s = .slice sp sLen sCap)
    (g off : Nat) (cur : List Value) (t : TypeId) (hg : w.heap[g]? = some (.cells cur.toArray t (0, 0))) (cs : List Value) (hn : cs.length = Nat.min sLen dLen)
    (hpos : 0 < cs.length → dp = some ⟨g, off, none⟩ ∧ ∃ ad, sp = some ad ∧ ∀ j v, cs[j]? = some v → w.cell? (ad.add j) = some v)
    (hfit : off + cs.length ≤ cur.length) (h1 : ∀ v ∈ cs, v.oneCell' = true) (B : Nat) (w0 : World) (hb : Below B w0 w) (hBg : B ≤ g)
    (h : ∀ w', Hid (w'.heap[g]? = some (.cells (splice cur off cs).toArray t (0, 0)) ∧ Below B w0 w' ∧ Kp (fun j => j ≠ g) w w') → wpList P ops Q rest (a.put o.dst (goInt cs.length)) w') :
    wpList P ops Q (o :: rest) a w := by
  by_cases h0 : cs.length = 0
  · obtain rfl : cs = [] := List.eq_nil_of_length_eq_zero h0
    refine wpList_copy_nothing hgd d s dT sT ho elem hu hsz dp sp dLen dCap sLen sCap hd hs (by simpa using hn.symm) ?_
    exact h w (Lib.hid ⟨by simpa [splice] using hg, hb, Kp.refl _ _⟩)
  · obtain ⟨rfl, ad, rfl, hsrc⟩ := hpos (by omega)
    refine wpList_copy_own hgd d s dT sT ho elem hu hsz g off dLen dCap ad sLen sCap hd hs cur.toArray t hg cs hn hsrc (by simpa using hfit) h1 ?_
    exact h _ (Lib.hid ⟨by simpa [splice] using setRow_heap w g _ _ t _ hg, below_setRow hb hBg _, ⟨rfl, rfl, rfl, by simp [World.setRow], fun k hk _ => setRow_other w g k _ hk⟩⟩)
theorem rdkp {w w' : World} {h : Nat} {ad : Addr} {s : ByteArray} (hr : Rd w (some ad) s) (hk : Kp (fun j => j ≠ h) w w') (hne : ad.block ≠ h) : Rd w' (some ad) s := by
  intro h0
  obtain ⟨ad', e, hl, hc⟩ := hr h0
  injection e with e
  subst e
  refine ⟨ad, rfl, Nat.lt_of_lt_of_le hl hk.size, fun j hj => ?_⟩
  rw [World.cell?_of_block (hk.block _ (show (ad.add j).block ≠ h by rw [add_block]; exact hne) (by rw [add_block]; exact hl))]
  exact hc j hj
theorem kp_step {g0 h : Nat} {wi wr w' : World} (hk : Kp (fun j => j ≠ g0) wi wr) (hk2 : Kp (fun j => j ≠ h) wr w') (hh : h = g0 ∨ wi.heap.size ≤ h) : Kp (fun j => j ≠ g0) wi w' :=
  ⟨hk2.os.trans hk.os, hk2.tape.trans hk.tape, hk2.output.trans hk.output, Nat.le_trans hk.size hk2.size, fun j hj hl => (hk2.block j (by rcases hh with rfl | hh <;> omega) (Nat.lt_of_lt_of_le hl hk.size)).trans (hk.block j hj hl)⟩
section
variable {s : ByteArray} {h g0 len hlen : Nat} {tt th : TypeId} {B : Nat} {w0 wi : World} {bi : Nat} {t : ByteArray} {i o : Nat} {l : List Int} {cur : List Value} {wr w' : World}
/-- One step more: k bytes read, l' written at o. -/
theorem UnA.step (hA : UnA s h g0 len hlen tt th B w0 wi bi t i o l cur wr) {k i2 : Nat} {l' : List Int} {t2 : ByteArray} (ht2 : t.extract k t.size = t2) (hk : k ≤ t.size) (hl : l'.length ≤ k) (hu : unq t 0 = l' ++ unq t2 0) (hok : EscOk t2 0)
    (hrow : w'.heap[h]? = some (.cells (splice cur o (vs l')).toArray th (0, 0))) (hkp : Kp (fun j => j ≠ h) wr w') (hb : Below B w0 w') (hbi : bi ≠ h) (hsl : s.size ≤ hlen) (hG : 14 ≠ h) (hh : (h = g0 ∧ len = hlen ∧ tt = th) ∨ (h ≠ g0 ∧ wi.heap.size ≤ h)) (hi2 : Rd wr (some ⟨bi, i2, none⟩) t2) :
    UnA s h g0 len hlen tt th B w0 wi bi t2 i2 (o + l'.length) (l ++ l') (splice cur o (vs l')) w' := by
  have ho := hA.ot
  have hc := hA.cl
  have hz : t2.size = t.size - k := by rw [← ht2, size_ext]; omega
  have hfit : o + (vs l').length ≤ cur.length := by rw [List.length_map]; omega
  refine ⟨rdkp hi2 hkp hbi, hok, hrow, by rw [length_splice _ _ _ hfit, hc], ?_, by rw [List.append_assoc, ← hu]; exact hA.un, by rw [List.length_append, hA.lo], by omega, ?_, hb, ?_, hA.tb.keep hkp hG⟩
  · have := take_splice cur o (vs l') hfit
    rw [List.length_map] at this
    rw [this, hA.tk]; exact (List.map_append).symm
  · rcases hh with ⟨rfl, rfl, rfl⟩ | ⟨hne, -⟩
    · exact ⟨_, hrow, by rw [length_splice _ _ _ hfit, hc]⟩
    · obtain ⟨cur', h1, h2⟩ := hA.sb
      have hgl := (Array.getElem?_eq_some_iff.1 h1).1
      exact ⟨cur', (hkp.block g0 (Ne.symm hne) hgl).trans h1, h2⟩
  · exact kp_step hA.kp hkp (hh.elim (fun h => .inl h.1) (fun h => .inr h.2))
/-- All is written. -/
theorem UnA.fin (hA : UnA s h g0 len hlen tt th B w0 wi bi t i o l cur wr) (ht : unq t 0 = []) : Ints wr h 0 (unq s 0) ∧ o = (unq s 0).length := by
  have hu := hA.un
  rw [ht, List.append_nil] at hu
  subst hu
  refine ⟨fun j hj => ?_, hA.lo.symm⟩
  have hr := hA.row
  have hlo := hA.lo
  have htk := hA.tk
  have h1 : cur[j]? = some (.int .u8 (unq s 0)[j]) := by
    have := congrArg (fun l => l[j]?) htk
    simp only [List.getElem?_take, List.getElem?_map] at this
    rw [if_pos (by omega), List.getElem?_eq_getElem hj] at this
    exact this
  rw [Nat.zero_add, cell_of_row wr h j _ _ _ hr]
  simp only [List.getElem?_toArray, h1, List.getD_eq_getElem?_getD, List.getElem?_eq_getElem hj, Option.getD_some]
end
theorem addr_ite (c k : Nat) (b i : Nat) : ∃ i2, (if c = k then (some ⟨b, i, none⟩ : Option Addr) else some ⟨b, i + k, none⟩) = some ⟨b, i2, none⟩ ∧ (¬ c = k → i2 = i + k) := by
  by_cases h : c = k
  · exact ⟨i, by rw [if_pos h], fun hn => absurd h hn⟩
  · exact ⟨i + k, by rw [if_neg h], fun _ => rfl⟩
theorem rd_ite {w : World} {b i c k i2 : Nat} {s : ByteArray} (h : Rd w (some ⟨b, i, none⟩) s) (hc : s.size ≤ c) (hi : (if c = k then (some ⟨b, i, none⟩ : Option Addr) else some ⟨b, i + k, none⟩) = some ⟨b, i2, none⟩) : Rd w (some ⟨b, i2, none⟩) (s.extract k s.size) := by
  rw [← hi]
  cases k with
  | zero =>
    have : s.extract 0 s.size = s := ext_all s
    rw [this]
    split <;> exact h
  | succ k => exact rdc1 h hc
theorem hbyteJ : (Tryz.prog.info? 5).map (fun i => (i.zero, i.size, i.bytes)) = some (some (.int .u8 0), 1, 1) := by kernel_rfl
set_option maxRecDepth 100000 in
set_option maxHeartbeats 16000000 in
theorem unescW (a b : Bool) (cn : Int) (bi i n c g0 m0 C0 : Nat) (s : ByteArray) (cur0 : List Value) (tt : TypeId) (B : Nat) (w0 w : World)
    (hR : Rd w (some ⟨bi, i, none⟩) s) (hn : n = s.size) (hc : s.size ≤ c) (hs : s.size ≤ 1000000) (ho : EscOk s 0)
    (hg : w.heap[g0]? = some (.cells cur0.toArray tt (0, 0))) (hC : C0 = cur0.length) (hBg : B ≤ g0) (hbw : Below B w0 w) (hBs : B ≤ w.heap.size) (hne : bi ≠ g0) (hbl : bi < w.heap.size) (hT : Tb w) (hG : 14 ≠ g0) :
    Calls Tryz.prog 86 #[.agg #[.bool a, .bool b, .int .i64 cn], .slice (some ⟨bi, i, none⟩) n c, .slice (some ⟨g0, 0, none⟩) m0 C0] w (UnP s bi g0 cur0.length tt B w0 w) := by
  subst hn
  subst hC
  obtain ⟨i0, hi, hz0, hz1, hz2⟩ := info_parts hbyteJ
  have hgl : g0 < w.heap.size := (Array.getElem?_eq_some_iff.1 hg).1
  obtain ⟨w1, hw1⟩ : ∃ w1, w.alloc (.cells #[.bool a, .bool b, .int .i64 cn] 97) = w1 := ⟨_, rfl⟩
  have hb1 : Below w.heap.size w w1 := by rw [← hw1]; exact below_alloc (Below.refl _ _) _
  have hz1' : w.heap.size < w1.heap.size := by rw [← hw1]; simp
  have hg1 : w1.heap[g0]? = some (.cells cur0.toArray tt (0, 0)) := (hb1.block g0 hgl).trans hg
  have hR1 := hR.below hb1
  have hT1 := hT.below hb1
  have hbw1 : Below B w0 w1 := hbw.trans (hb1.mono hBs)
  have hcf1 : CfgAt w1 w.heap.size a b cn := by rw [← hw1]; exact CfgAt.new _ _ _ _
  have HK1 := Lib.hid (Kp.of_below (B := fun j => j ≠ g0) hb1)
  have HCF := Lib.hid hcf1
  have HGT := Lib.hid (show 14 < w1.heap.size from hT1.lt)
  rcases first92 s with ⟨hno, hfree⟩ | ⟨p, hp, hplt, hpb, hpf⟩
  · have HID := Lib.hid (idxByteW bi i s.size c s (-1) w1 hR1 rfl hno.symm)
    have HF := Lib.hid (show unq s 0 = bl s by
      rw [unq_bl (n := s.size) (Nat.le_refl _) (fun j _ => hfree j), ext_all, unq_drop0 (Nat.le_refl _), unq_out (Nat.le_refl _), List.append_nil])
    have HR1 := Lib.hid hR1
    have HG1 := Lib.hid hg1
    have HB1 := Lib.hid hbw1
    clear hno hfree hR1 hg1 hbw1 hR hg hbw hT hT1 hcf1 hb1 ho
    go_enter Tryz.func86, Tryz.ntmps86
    go_wp2_with (first
      | (go_at_call 99; go_must (refine HID.out.mono ?_); rintro e w3 ⟨rfl, rfl⟩))
    go_ret2
    refine ⟨⟨bi, i, s.size, c, rfl, by rw [HF.out, bl_length], hc, by rw [HF.out]; exact rd_ints HR1.out, .inl rfl⟩, ⟨cur0, HG1.out, rfl⟩, HB1.out, HK1.out⟩
  have HID := Lib.hid (idxByteW bi i s.size c s (p : Int) w1 hR1 rfl hp.symm)
  have hu1 : unq s 0 = bl (s.extract 0 p) ++ unq (s.extract p s.size) 0 := unq_bl (by omega) hpf
  have hok1 : EscOk (s.extract p s.size) 0 := (EscOk.runs (d := p) (by omega) (by omega) (by omega) (fun j _ hj => hpf j hj) ho).drop0
  have hlp : (bl (s.extract 0 p)).length = p := by rw [bl_length, size_ext]; omega
  have hnc : ¬ c = p := by omega
  have hpn : ((p : Int) == -1) = false := by rw [beq_eq_false_iff_ne]; omega
  have d1 : (0 : Int) ≤ (p : Int) := by omega
  have d2 : (p : Int) ≤ (s.size : Int) := by omega
  have d3 : (p : Int) ≤ (c : Int) := by omega
  have hpd : bt (s.extract p s.size) ((0 : Nat) : Int) = 92 := by rw [bt_drop s (by omega)]; exact hpb
  obtain ⟨t1, ht1⟩ : ∃ t1, s.extract p s.size = t1 := ⟨_, rfl⟩
  have hzt : t1.size = s.size - p := by rw [← ht1, size_ext]; omega
  rw [ht1] at hu1 hok1 hpd
  have HU1 := Lib.hid hu1
  have HOK1 := Lib.hid hok1
  have HTT := Lib.hid ht1
  have HRD0 := Lib.hid hR1
  obtain ⟨n0, hn0⟩ : ∃ n0, s.size - p = n0 := ⟨_, rfl⟩
  obtain ⟨c0, hc0⟩ : ∃ c0, c - p = c0 := ⟨_, rfl⟩
  clear hu1 hok1 ht1 hp hpb hpf
  by_cases hroom : cur0.length < s.size
  · have e4 : decide ((cur0.length : Int) < (s.size : Int)) = true := by simp; omega
    skip
    go_enter Tryz.func86, Tryz.ntmps86
    go_upto_region 7 with (first
      | (go_at_call 99; go_must (refine HID.out.mono ?_); rintro e w3 ⟨rfl, rfl⟩)
      | (at_make; refine wpList_make_full _ rfl _ _ 59 rfl w1.heap.size 5 i0 (.int .u8 0) 1 Tryz.underlying59 hi hz0 hz1 _ _ _ _ s.size rfl rfl rfl rfl (by rw [hz2]; omega) (by unfold maxLen; omega) (Nat.le_refl _) ?_; intro wm hown hgr
         replace hown := Lib.hid hown
         replace hgr := Lib.hid hgr))
    obtain ⟨-, ⟨hbad, -⟩ | ⟨hx, cap, curA, hv, -, hhp, hnc2, hcm, hcs, -⟩⟩ := hown.out
    · cases hbad
    obtain ⟨rfl, rfl⟩ : w1.heap.size = hx ∧ s.size = cap := by
      injection hv with hv1 hv2 hv3
      injection hv1 with hv1
      injection hv1 with hv1
      exact ⟨hv1, hv3⟩
    obtain ⟨curm⟩ := curA
    have hgm : wm.heap[g0]? = some (.cells cur0.toArray tt (0, 0)) := (hgr.out.block g0 (by omega) (by simp)).trans hg1
    have hbm : Below w1.heap.size w1 wm := ⟨hgr.out.os, hgr.out.tape, hgr.out.output, hgr.out.size, fun j hj => hgr.out.block j hj (by simp)⟩
    have hA0 : UnA s w1.heap.size g0 cur0.length s.size tt 5 B w0 w1 bi s i 0 [] curm wm := ⟨HRD0.out.below hbm, ho, hhp, by simpa using hcs, rfl, rfl, rfl, by omega, ⟨cur0, hgm, rfl⟩, hbw1.trans (hbm.mono (by omega)), Kp.of_below hbm, hT1.below hbm⟩
    have HA0 := Lib.hid hA0
    have hrow0 := Lib.hid hA0.row
    have hbel0 := Lib.hid hA0.bel
    have hrd0 := Lib.hid hA0.rd
    have hcl0 := hA0.cl
    clear hA0
    have hnC : ¬ s.size = p := by omega
    go_upto_region 10 with (first
      | (with_reducible show wpList _ _ _ (⟨some 34, _, _, _, _, _⟩ :: _) _ _
         refine copyW rfl (.tmp 30) (.tmp 33) 59 59 rfl 5 Tryz.underlying59 (by kernel_rfl) _ _ _ _ _ _ rfl rfl w1.heap.size 0 curm 5 hrow0.out (vs (bl (s.extract 0 p))) ?_ ?_ ?_ (vs_one _) B w0 hbel0.out (show B ≤ w1.heap.size by omega) ?_
         · rw [List.length_map, hlp]; exact (Nat.min_eq_left (show p ≤ s.size by omega)).symm
         · intro hpos
           exact ⟨rfl, ⟨bi, i, none⟩, rfl, vs_src hrd0.out⟩
         · rw [List.length_map, hlp]; omega
         intro w4 hw4))
    have hA1 := HA0.out.step (k := p) (i2 := i + p) (l' := bl (s.extract 0 p)) HTT.out (by omega) (by omega) HU1.out HOK1.out hw4.out.1 hw4.out.2.2 hw4.out.2.1 (show bi ≠ w1.heap.size by omega) (by omega) (show 14 ≠ w1.heap.size by have := HGT.out; omega) (.inr ⟨by omega, Nat.le_refl _⟩) (by
      rw [← HTT.out]
      exact rd_ite hrd0.out (c := c) hc (by rw [if_neg hnc]))
    rw [hlp, Nat.zero_add, List.nil_append] at hA1
    have HA1 := Lib.hid hA1
    clear hA1 hw4 hrow0 hbel0 hrd0 HA0
    go_loopg [1, 9, 10, 11, 12] (s.size) (fun d v1 v9 v10 v11 v12 wr => ∃ (t : ByteArray) (i' c' o mm C' : Nat) (l : List Int) (cur : List Value), v1 = .slice (some ⟨bi, i', none⟩) t.size c' ∧ t.size ≤ c' ∧ 0 < t.size ∧ bt t ((0 : Nat) : Int) = 92 ∧ t.size ≤ d ∧ v9 = .slice (some ⟨w1.heap.size, o, none⟩) mm C' ∧ o + mm = s.size ∧ mm ≤ C' ∧ UnA s w1.heap.size g0 cur0.length s.size tt 5 B w0 w1 bi t i' o l cur wr)
    case atStart => exact ⟨t1, i + p, c0, p, n0, _, bl (s.extract 0 p), splice curm 0 (vs (bl (s.extract 0 p))), by rw [show t1.size = n0 by omega], by omega, by omega, hpd, by omega, rfl, by omega, by omega, HA1.out⟩
    case round =>
      obtain ⟨t, i', c', o, mm, C', l, cur, rfl, hc', ht0, ht92, hd, rfl, hom, hmC, hA⟩ := hrel
      have HD := Lib.hid hd
      have HA := Lib.hid hA
      have hot := hA.ot
      have hcl := hA.cl
      have hcf := (show CfgAt wr w.heap.size a b cn from (HA.out.kp.block _ (show w.heap.size ≠ g0 by omega) HCF.out.lt).trans HCF.out)
      have j0 := hcf.c0
      have j1 := hcf.c1
      have j2 := hcf.c2
      have HUE := Lib.hid (uescW a b cn bi i' t.size c' w1.heap.size o mm C' t cur 5 B w0 wr hA.rd rfl hc' (by omega) ht0 ht92 hA.ok hA.row (by omega) (by omega) (show B ≤ w1.heap.size by omega) hA.bel (Nat.le_trans (show B ≤ w1.heap.size by omega) hA.kp.size) hA.tb)
      clear hd hA hcf
      go_upto_region 11 with (first
        | (go_at_call 100; go_must (refine HUE.out.mono ?_); rintro e w2 ⟨k, l', rfl, hst, hrow, hb2, hk2⟩
           replace hst := Lib.hid hst
           replace hrow := Lib.hid hrow
           replace hb2 := Lib.hid hb2
           replace hk2 := Lib.hid hk2))
      have hk0 := hst.out.k0
      have hkt := hst.out.kt
      have hlk := hst.out.lk
      obtain ⟨t2, ht2⟩ : ∃ t2, t.extract k t.size = t2 := ⟨_, rfl⟩
      have hz2 : t2.size = t.size - k := by rw [← ht2, size_ext]; omega
      have hun2 : unq t 0 = l' ++ unq t2 0 := by rw [← ht2]; exact hst.out.un
      have hok2 : EscOk t2 0 := by rw [← ht2]; exact hst.out.ok
      obtain ⟨i2, hi2, hi2e⟩ := addr_ite c' k bi i'
      have hrd2 : Rd wr (some ⟨bi, i2, none⟩) t2 := by rw [← ht2]; exact rd_ite HA.out.rd hc' hi2
      have hA2 := HA.out.step ht2 hkt hlk hun2 hok2 hrow.out hk2.out hb2.out (show bi ≠ w1.heap.size by omega) (by omega) (show 14 ≠ w1.heap.size by have := HGT.out; omega) (.inr ⟨by omega, Nat.le_refl _⟩) hrd2
      have HA2 := Lib.hid hA2
      have hot2 := hA2.ot
      have hcl2 := hA2.cl
      have hrd3 := hA2.rd
      obtain ⟨q, hq⟩ : ∃ q, l'.length = q := ⟨_, rfl⟩
      rw [hq] at HA2 hot2 hlk
      have HQ := Lib.hid hq
      obtain ⟨n1, hn1⟩ : ∃ n1, t.size - k = n1 := ⟨_, rfl⟩
      obtain ⟨m2, hm2⟩ : ∃ m2, mm - q = m2 := ⟨_, rfl⟩
      obtain ⟨C2, hC2⟩ : ∃ C2, C' - q = C2 := ⟨_, rfl⟩
      obtain ⟨c2, hc2⟩ : ∃ c2, c' - k = c2 := ⟨_, rfl⟩
      obtain ⟨ob, hob, hobe⟩ := addr_ite C' q w1.heap.size o
      have f1 : (0 : Int) ≤ (k : Int) := by omega
      have f2 : (k : Int) ≤ (t.size : Int) := by omega
      have f3 : (0 : Int) ≤ (q : Int) := by omega
      have f4 : (q : Int) ≤ (mm : Int) := by omega
      have hkn : ((k : Int) == -1) = false := by rw [beq_eq_false_iff_ne]; omega
      have HT2 := Lib.hid ht2
      clear hst hrow hb2 hk2 hA2 hun2 hok2 hrd2 ht2 j0 j1 j2
      rcases first92 t2 with ⟨hno, hfree⟩ | ⟨p2, hp2, hplt, hpb, hpf⟩
      · have HID := Lib.hid (idxByteW bi i2 n1 c2 t2 (-1) w2 hrd3 (by omega) hno.symm)
        have HF := Lib.hid (show unq t2 0 = bl t2 by
          rw [unq_bl (n := t2.size) (Nat.le_refl _) (fun j _ => hfree j), ext_all, unq_drop0 (Nat.le_refl _), unq_out (Nat.le_refl _), List.append_nil])
        have HRD := Lib.hid hrd3
        obtain ⟨oc, hoc, -⟩ := addr_ite C2 n1 w1.heap.size ob
        obtain ⟨m3, hm3⟩ : ∃ m3, m2 - n1 = m3 := ⟨_, rfl⟩
        obtain ⟨C3, hC3⟩ : ∃ C3, C2 - n1 = C3 := ⟨_, rfl⟩
        obtain ⟨oF, hoF⟩ : ∃ oF, o + q + n1 = oF := ⟨_, rfl⟩
        have f5 : (0 : Int) ≤ (n1 : Int) := by omega
        have f6 : (n1 : Int) ≤ (m2 : Int) := by omega
        have f7 : IntKind.i64.wrap ((s.size : Int) - (m3 : Int)) = (oF : Int) := by rw [IntWalk.i64_in _ (by omega)]; omega
        have f8 : (0 : Int) ≤ (oF : Int) := by omega
        have f9 : (oF : Int) ≤ (s.size : Int) := by omega
        clear hno hfree hrd3
        go_wp2_with (first
          | (go_at_call 99; go_must (refine HID.out.mono ?_); rintro e w3 ⟨rfl, rfl⟩)
          | (with_reducible show wpList _ _ _ (⟨some 63, _, _, _, _, _⟩ :: _) _ _
             refine copyW rfl (.tmp 61) (.tmp 62) 59 59 rfl 5 Tryz.underlying59 (by kernel_rfl) _ _ _ _ _ _ rfl rfl w1.heap.size (o + q) (splice cur o (vs l')) 5 HA2.out.row (vs (bl t2)) ?_ ?_ ?_ (vs_one _) B w0 HA2.out.bel (show B ≤ w1.heap.size by omega) ?_
             · rw [List.length_map, bl_length, show t2.size = n1 by omega]; exact (Nat.min_eq_left (show n1 ≤ m2 by omega)).symm
             · intro hpos
               rw [List.length_map, bl_length] at hpos
               have hcq : ¬ C' = q := by omega
               refine ⟨by rw [hobe hcq], ⟨bi, i2, none⟩, rfl, ?_⟩
               have := vs_src (k := t2.size) HRD.out
               rw [ext_all] at this
               exact this
             · rw [List.length_map, bl_length]; omega
             intro w4 hw4))
        go_ret2
        have hA3 := HA2.out.step (k := t2.size) (i2 := i2) (l' := bl t2) (t2 := t2.extract t2.size t2.size) rfl (Nat.le_refl _) (by rw [bl_length]; exact Nat.le_refl _) (by rw [HF.out, unq_drop0 (Nat.le_refl _), unq_out (Nat.le_refl _), List.append_nil]) (by
          have : (t2.extract t2.size t2.size).size = 0 := by rw [size_ext]; omega
          rw [← this]; exact EscOk.done) hw4.out.1 hw4.out.2.2 hw4.out.2.1 (show bi ≠ w1.heap.size by omega) (by omega) (show 14 ≠ w1.heap.size by have := HGT.out; omega) (.inr ⟨by omega, Nat.le_refl _⟩) (fun h0 => by rw [size_ext] at h0; omega)
        rw [bl_length] at hA3
        obtain ⟨r1, r2⟩ := hA3.fin (by rw [unq_drop0 (Nat.le_refl _), unq_out (Nat.le_refl _)])
        refine ⟨⟨w1.heap.size, 0, oF, _, rfl, by omega, by omega, r1, (.inr (.inr (by omega)))⟩, hA3.sb, hA3.bel, Kp.trans HK1.out hA3.kp⟩
      · obtain rfl : i2 = i' + k := hi2e (by omega)
        have HID := Lib.hid (idxByteW bi (i' + k) n1 c2 t2 (p2 : Int) w2 hrd3 (by omega) hp2.symm)
        have HRD := Lib.hid hrd3
        have hlp : (bl (t2.extract 0 p2)).length = p2 := by rw [bl_length, size_ext]; omega
        obtain ⟨t3, ht3⟩ : ∃ t3, t2.extract p2 t2.size = t3 := ⟨_, rfl⟩
        have hz3 : t3.size = t2.size - p2 := by rw [← ht3, size_ext]; omega
        have h392 : bt t3 ((0 : Nat) : Int) = 92 := by rw [← ht3, bt_drop t2 (by omega)]; exact hpb
        have HU3 := Lib.hid (show unq t2 0 = bl (t2.extract 0 p2) ++ unq t3 0 by rw [← ht3]; exact unq_bl (by omega) hpf)
        have hok2 := HA2.out.ok
        have HOK3 := Lib.hid (show EscOk t3 0 by rw [← ht3]; exact (EscOk.runs (d := p2) (by omega) (by omega) (by omega) (fun j _ hj => hpf j hj) hok2).drop0)
        have hcq : ¬ C' = q := by omega
        obtain rfl : ob = o + q := hobe hcq
        have hnc : ¬ c2 = p2 := by omega
        have hnC : ¬ C2 = p2 := by omega
        have hpn : ((p2 : Int) == -1) = false := by rw [beq_eq_false_iff_ne]; omega
        obtain ⟨n3, hn3⟩ : ∃ n3, n1 - p2 = n3 := ⟨_, rfl⟩
        obtain ⟨m3, hm3⟩ : ∃ m3, m2 - p2 = m3 := ⟨_, rfl⟩
        obtain ⟨C3, hC3⟩ : ∃ C3, C2 - p2 = C3 := ⟨_, rfl⟩
        obtain ⟨c3, hc3⟩ : ∃ c3, c2 - p2 = c3 := ⟨_, rfl⟩
        have f5 : (0 : Int) ≤ (p2 : Int) := by omega
        have f6 : (p2 : Int) ≤ (n1 : Int) := by omega
        have f7 : (p2 : Int) ≤ (m2 : Int) := by omega
        have f8 : (p2 : Int) ≤ (c2 : Int) := by omega
        have HT3 := Lib.hid ht3
        clear hp2 hpb hpf hrd3 hok2 ht3
        go_wp2_with (first
          | (go_at_call 99; go_must (refine HID.out.mono ?_); rintro e w3 ⟨rfl, rfl⟩)
          | (with_reducible show wpList _ _ _ (⟨some 72, _, _, _, _, _⟩ :: _) _ _
             refine copyW rfl (.tmp 68) (.tmp 71) 59 59 rfl 5 Tryz.underlying59 (by kernel_rfl) _ _ _ _ _ _ rfl rfl w1.heap.size (o + q) (splice cur o (vs l')) 5 HA2.out.row (vs (bl (t2.extract 0 p2))) ?_ ?_ ?_ (vs_one _) B w0 HA2.out.bel (show B ≤ w1.heap.size by omega) ?_
             · rw [List.length_map, hlp]; exact (Nat.min_eq_left (show p2 ≤ m2 by omega)).symm
             · intro hpos
               exact ⟨rfl, ⟨bi, i' + k, none⟩, rfl, vs_src HRD.out⟩
             · rw [List.length_map, hlp]; omega
             intro w4 hw4))
        have hA3 := HA2.out.step (k := p2) (i2 := i' + k + p2) (l' := bl (t2.extract 0 p2)) HT3.out (by omega) (by omega) HU3.out HOK3.out hw4.out.1 hw4.out.2.2 hw4.out.2.1 (show bi ≠ w1.heap.size by omega) (by omega) (show 14 ≠ w1.heap.size by have := HGT.out; omega) (.inr ⟨by omega, Nat.le_refl _⟩) (by
          rw [← HT3.out]
          exact rd_ite HRD.out (c := c2) (by omega) (by rw [if_neg hnc]))
        rw [hlp] at hA3
        have HA3 := Lib.hid hA3
        clear hA3 hlp
        go_roundg (gk - 1)
        case measure => have := HD.out; omega
        case rel => exact ⟨t3, i' + k + p2, c3, o + q + p2, m3, C3, _, _, by rw [show t3.size = n3 by omega], by omega, by omega, h392, by have := HD.out; omega, rfl, by omega, by omega, HA3.out⟩
  have e4 : decide ((cur0.length : Int) < (s.size : Int)) = false := by simp; omega
  have d4 : (0 : Int) ≤ (s.size : Int) := by omega
  have d5 : (s.size : Int) ≤ (cur0.length : Int) := by omega
  go_enter Tryz.func86, Tryz.ntmps86
  go_upto_region 7 with (first
    | (go_at_call 99; go_must (refine HID.out.mono ?_); rintro e w3 ⟨rfl, rfl⟩)
    | (at_make; refine wpList_make_full _ rfl _ _ 59 rfl w1.heap.size 5 i0 (.int .u8 0) 1 Tryz.underlying59 hi hz0 hz1 _ _ _ _ s.size rfl rfl rfl rfl (by rw [hz2]; omega) (by unfold maxLen; omega) (Nat.le_refl _) ?_; intro wm hown hgr
       replace hown := Lib.hid hown
       replace hgr := Lib.hid hgr))
  have hA0 : UnA s g0 g0 cur0.length cur0.length tt tt B w0 w1 bi s i 0 [] cur0 w1 := ⟨HRD0.out, ho, hg1, rfl, rfl, rfl, rfl, by omega, ⟨cur0, hg1, rfl⟩, hbw1, Kp.refl _ _, hT1⟩
  have HA0 := Lib.hid hA0
  have hrow0 := Lib.hid hA0.row
  have hbel0 := Lib.hid hA0.bel
  have hrd0 := Lib.hid hA0.rd
  have hcl0 := hA0.cl
  clear hA0
  have hnC : ¬ cur0.length = p := by omega
  go_upto_region 10 with (first
    | (with_reducible show wpList _ _ _ (⟨some 34, _, _, _, _, _⟩ :: _) _ _
       refine copyW rfl (.tmp 30) (.tmp 33) 59 59 rfl 5 Tryz.underlying59 (by kernel_rfl) _ _ _ _ _ _ rfl rfl g0 0 cur0 tt hrow0.out (vs (bl (s.extract 0 p))) ?_ ?_ ?_ (vs_one _) B w0 hbel0.out hBg ?_
       · rw [List.length_map, hlp]; exact (Nat.min_eq_left (show p ≤ s.size by omega)).symm
       · intro hpos
         exact ⟨rfl, ⟨bi, i, none⟩, rfl, vs_src hrd0.out⟩
       · rw [List.length_map, hlp]; omega
       intro w4 hw4))
  have hA1 := HA0.out.step (k := p) (i2 := i + p) (l' := bl (s.extract 0 p)) HTT.out (by omega) (by omega) HU1.out HOK1.out hw4.out.1 hw4.out.2.2 hw4.out.2.1 hne (by omega) hG (.inl ⟨rfl, rfl, rfl⟩) (by
    rw [← HTT.out]
    exact rd_ite hrd0.out (c := c) hc (by rw [if_neg hnc]))
  rw [hlp, Nat.zero_add, List.nil_append] at hA1
  have HA1 := Lib.hid hA1
  clear hA1 hw4 hrow0 hbel0 hrd0 HA0
  go_loopg [1, 9, 10, 11, 12] (s.size) (fun d v1 v9 v10 v11 v12 wr => ∃ (t : ByteArray) (i' c' o mm C' : Nat) (l : List Int) (cur : List Value), v1 = .slice (some ⟨bi, i', none⟩) t.size c' ∧ t.size ≤ c' ∧ 0 < t.size ∧ bt t ((0 : Nat) : Int) = 92 ∧ t.size ≤ d ∧ v9 = .slice (some ⟨g0, o, none⟩) mm C' ∧ o + mm = s.size ∧ mm ≤ C' ∧ UnA s g0 g0 cur0.length cur0.length tt tt B w0 w1 bi t i' o l cur wr)
  case atStart => exact ⟨t1, i + p, c0, p, n0, _, bl (s.extract 0 p), splice cur0 0 (vs (bl (s.extract 0 p))), by rw [show t1.size = n0 by omega], by omega, by omega, hpd, by omega, rfl, by omega, by omega, HA1.out⟩
  case round =>
    obtain ⟨t, i', c', o, mm, C', l, cur, rfl, hc', ht0, ht92, hd, rfl, hom, hmC, hA⟩ := hrel
    have HD := Lib.hid hd
    have HA := Lib.hid hA
    have hot := hA.ot
    have hcl := hA.cl
    have hcf := (show CfgAt wr w.heap.size a b cn from (HA.out.kp.block _ (show w.heap.size ≠ g0 by omega) HCF.out.lt).trans HCF.out)
    have j0 := hcf.c0
    have j1 := hcf.c1
    have j2 := hcf.c2
    have HUE := Lib.hid (uescW a b cn bi i' t.size c' g0 o mm C' t cur tt B w0 wr hA.rd rfl hc' (by omega) ht0 ht92 hA.ok hA.row (by omega) (by omega) hBg hA.bel (Nat.le_trans (show B ≤ w1.heap.size by omega) hA.kp.size) hA.tb)
    clear hd hA hcf
    go_upto_region 11 with (first
      | (go_at_call 100; go_must (refine HUE.out.mono ?_); rintro e w2 ⟨k, l', rfl, hst, hrow, hb2, hk2⟩
         replace hst := Lib.hid hst
         replace hrow := Lib.hid hrow
         replace hb2 := Lib.hid hb2
         replace hk2 := Lib.hid hk2))
    have hk0 := hst.out.k0
    have hkt := hst.out.kt
    have hlk := hst.out.lk
    obtain ⟨t2, ht2⟩ : ∃ t2, t.extract k t.size = t2 := ⟨_, rfl⟩
    have hz2 : t2.size = t.size - k := by rw [← ht2, size_ext]; omega
    have hun2 : unq t 0 = l' ++ unq t2 0 := by rw [← ht2]; exact hst.out.un
    have hok2 : EscOk t2 0 := by rw [← ht2]; exact hst.out.ok
    obtain ⟨i2, hi2, hi2e⟩ := addr_ite c' k bi i'
    have hrd2 : Rd wr (some ⟨bi, i2, none⟩) t2 := by rw [← ht2]; exact rd_ite HA.out.rd hc' hi2
    have hA2 := HA.out.step ht2 hkt hlk hun2 hok2 hrow.out hk2.out hb2.out hne (by omega) hG (.inl ⟨rfl, rfl, rfl⟩) hrd2
    have HA2 := Lib.hid hA2
    have hot2 := hA2.ot
    have hcl2 := hA2.cl
    have hrd3 := hA2.rd
    obtain ⟨q, hq⟩ : ∃ q, l'.length = q := ⟨_, rfl⟩
    rw [hq] at HA2 hot2 hlk
    have HQ := Lib.hid hq
    obtain ⟨n1, hn1⟩ : ∃ n1, t.size - k = n1 := ⟨_, rfl⟩
    obtain ⟨m2, hm2⟩ : ∃ m2, mm - q = m2 := ⟨_, rfl⟩
    obtain ⟨C2, hC2⟩ : ∃ C2, C' - q = C2 := ⟨_, rfl⟩
    obtain ⟨c2, hc2⟩ : ∃ c2, c' - k = c2 := ⟨_, rfl⟩
    obtain ⟨ob, hob, hobe⟩ := addr_ite C' q g0 o
    have f1 : (0 : Int) ≤ (k : Int) := by omega
    have f2 : (k : Int) ≤ (t.size : Int) := by omega
    have f3 : (0 : Int) ≤ (q : Int) := by omega
    have f4 : (q : Int) ≤ (mm : Int) := by omega
    have hkn : ((k : Int) == -1) = false := by rw [beq_eq_false_iff_ne]; omega
    have HT2 := Lib.hid ht2
    clear hst hrow hb2 hk2 hA2 hun2 hok2 hrd2 ht2 j0 j1 j2
    rcases first92 t2 with ⟨hno, hfree⟩ | ⟨p2, hp2, hplt, hpb, hpf⟩
    · have HID := Lib.hid (idxByteW bi i2 n1 c2 t2 (-1) w2 hrd3 (by omega) hno.symm)
      have HF := Lib.hid (show unq t2 0 = bl t2 by
        rw [unq_bl (n := t2.size) (Nat.le_refl _) (fun j _ => hfree j), ext_all, unq_drop0 (Nat.le_refl _), unq_out (Nat.le_refl _), List.append_nil])
      have HRD := Lib.hid hrd3
      obtain ⟨oc, hoc, -⟩ := addr_ite C2 n1 g0 ob
      obtain ⟨m3, hm3⟩ : ∃ m3, m2 - n1 = m3 := ⟨_, rfl⟩
      obtain ⟨C3, hC3⟩ : ∃ C3, C2 - n1 = C3 := ⟨_, rfl⟩
      obtain ⟨oF, hoF⟩ : ∃ oF, o + q + n1 = oF := ⟨_, rfl⟩
      have f5 : (0 : Int) ≤ (n1 : Int) := by omega
      have f6 : (n1 : Int) ≤ (m2 : Int) := by omega
      have f7 : IntKind.i64.wrap ((s.size : Int) - (m3 : Int)) = (oF : Int) := by rw [IntWalk.i64_in _ (by omega)]; omega
      have f8 : (0 : Int) ≤ (oF : Int) := by omega
      have f9 : (oF : Int) ≤ (cur0.length : Int) := by omega
      clear hno hfree hrd3
      go_wp2_with (first
        | (go_at_call 99; go_must (refine HID.out.mono ?_); rintro e w3 ⟨rfl, rfl⟩)
        | (with_reducible show wpList _ _ _ (⟨some 63, _, _, _, _, _⟩ :: _) _ _
           refine copyW rfl (.tmp 61) (.tmp 62) 59 59 rfl 5 Tryz.underlying59 (by kernel_rfl) _ _ _ _ _ _ rfl rfl g0 (o + q) (splice cur o (vs l')) tt HA2.out.row (vs (bl t2)) ?_ ?_ ?_ (vs_one _) B w0 HA2.out.bel hBg ?_
           · rw [List.length_map, bl_length, show t2.size = n1 by omega]; exact (Nat.min_eq_left (show n1 ≤ m2 by omega)).symm
           · intro hpos
             rw [List.length_map, bl_length] at hpos
             have hcq : ¬ C' = q := by omega
             refine ⟨by rw [hobe hcq], ⟨bi, i2, none⟩, rfl, ?_⟩
             have := vs_src (k := t2.size) HRD.out
             rw [ext_all] at this
             exact this
           · rw [List.length_map, bl_length]; omega
           intro w4 hw4))
      go_ret2
      have hA3 := HA2.out.step (k := t2.size) (i2 := i2) (l' := bl t2) (t2 := t2.extract t2.size t2.size) rfl (Nat.le_refl _) (by rw [bl_length]; exact Nat.le_refl _) (by rw [HF.out, unq_drop0 (Nat.le_refl _), unq_out (Nat.le_refl _), List.append_nil]) (by
        have : (t2.extract t2.size t2.size).size = 0 := by rw [size_ext]; omega
        rw [← this]; exact EscOk.done) hw4.out.1 hw4.out.2.2 hw4.out.2.1 hne (by omega) hG (.inl ⟨rfl, rfl, rfl⟩) (fun h0 => by rw [size_ext] at h0; omega)
      rw [bl_length] at hA3
      obtain ⟨r1, r2⟩ := hA3.fin (by rw [unq_drop0 (Nat.le_refl _), unq_out (Nat.le_refl _)])
      refine ⟨⟨g0, 0, oF, _, rfl, by omega, by omega, r1, (.inr (.inl rfl))⟩, hA3.sb, hA3.bel, Kp.trans HK1.out hA3.kp⟩
    · obtain rfl : i2 = i' + k := hi2e (by omega)
      have HID := Lib.hid (idxByteW bi (i' + k) n1 c2 t2 (p2 : Int) w2 hrd3 (by omega) hp2.symm)
      have HRD := Lib.hid hrd3
      have hlp : (bl (t2.extract 0 p2)).length = p2 := by rw [bl_length, size_ext]; omega
      obtain ⟨t3, ht3⟩ : ∃ t3, t2.extract p2 t2.size = t3 := ⟨_, rfl⟩
      have hz3 : t3.size = t2.size - p2 := by rw [← ht3, size_ext]; omega
      have h392 : bt t3 ((0 : Nat) : Int) = 92 := by rw [← ht3, bt_drop t2 (by omega)]; exact hpb
      have HU3 := Lib.hid (show unq t2 0 = bl (t2.extract 0 p2) ++ unq t3 0 by rw [← ht3]; exact unq_bl (by omega) hpf)
      have hok2 := HA2.out.ok
      have HOK3 := Lib.hid (show EscOk t3 0 by rw [← ht3]; exact (EscOk.runs (d := p2) (by omega) (by omega) (by omega) (fun j _ hj => hpf j hj) hok2).drop0)
      have hcq : ¬ C' = q := by omega
      obtain rfl : ob = o + q := hobe hcq
      have hnc : ¬ c2 = p2 := by omega
      have hnC : ¬ C2 = p2 := by omega
      have hpn : ((p2 : Int) == -1) = false := by rw [beq_eq_false_iff_ne]; omega
      obtain ⟨n3, hn3⟩ : ∃ n3, n1 - p2 = n3 := ⟨_, rfl⟩
      obtain ⟨m3, hm3⟩ : ∃ m3, m2 - p2 = m3 := ⟨_, rfl⟩
      obtain ⟨C3, hC3⟩ : ∃ C3, C2 - p2 = C3 := ⟨_, rfl⟩
      obtain ⟨c3, hc3⟩ : ∃ c3, c2 - p2 = c3 := ⟨_, rfl⟩
      have f5 : (0 : Int) ≤ (p2 : Int) := by omega
      have f6 : (p2 : Int) ≤ (n1 : Int) := by omega
      have f7 : (p2 : Int) ≤ (m2 : Int) := by omega
      have f8 : (p2 : Int) ≤ (c2 : Int) := by omega
      have HT3 := Lib.hid ht3
      clear hp2 hpb hpf hrd3 hok2 ht3
      go_wp2_with (first
        | (go_at_call 99; go_must (refine HID.out.mono ?_); rintro e w3 ⟨rfl, rfl⟩)
        | (with_reducible show wpList _ _ _ (⟨some 72, _, _, _, _, _⟩ :: _) _ _
           refine copyW rfl (.tmp 68) (.tmp 71) 59 59 rfl 5 Tryz.underlying59 (by kernel_rfl) _ _ _ _ _ _ rfl rfl g0 (o + q) (splice cur o (vs l')) tt HA2.out.row (vs (bl (t2.extract 0 p2))) ?_ ?_ ?_ (vs_one _) B w0 HA2.out.bel hBg ?_
           · rw [List.length_map, hlp]; exact (Nat.min_eq_left (show p2 ≤ m2 by omega)).symm
           · intro hpos
             exact ⟨rfl, ⟨bi, i' + k, none⟩, rfl, vs_src HRD.out⟩
           · rw [List.length_map, hlp]; omega
           intro w4 hw4))
      have hA3 := HA2.out.step (k := p2) (i2 := i' + k + p2) (l' := bl (t2.extract 0 p2)) HT3.out (by omega) (by omega) HU3.out HOK3.out hw4.out.1 hw4.out.2.2 hw4.out.2.1 hne (by omega) hG (.inl ⟨rfl, rfl, rfl⟩) (by
        rw [← HT3.out]
        exact rd_ite HRD.out (c := c2) (by omega) (by rw [if_neg hnc]))
      rw [hlp] at hA3
      have HA3 := Lib.hid hA3
      clear hA3 hlp
      go_roundg (gk - 1)
      case measure => have := HD.out; omega
      case rel => exact ⟨t3, i' + k + p2, c3, o + q + p2, m3, C3, _, _, by rw [show t3.size = n3 by omega], by omega, by omega, h392, by have := HD.out; omega, rfl, by omega, by omega, HA3.out⟩
end Go.Proofs.YtkdkdhcjpgmjdaaGreatDoor.Jp
