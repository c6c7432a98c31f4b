/- Get with keys that lead to a value: the package's. setConfig with keys that lead to a value: the value's text is replaced. Set and its door, with keys that lead to a value. A text with another in a value's place: the keys lead to that. In plain Lean: no program in sight. (put_leads: to be proved.) FnJpSetBack: the walk of the law, given that the keys lead to the new value (PutL). FnJpSetBack: the keys lead to the new value. -/
import Derived.Test.YtbgcjnhebfgicaaDoorJsZ
import Derived.Test.YtbgcjnhebfgicaaDoorJpMv
namespace Go.Proofs.YtbgcjnhebfgicaaDoor.Jp
section
open Go.RowKit L
set_option linter.unusedVariables false
set_option linter.unusedSimpArgs false

set_option maxRecDepth 100000 in
set_option maxHeartbeats 4000000 in
theorem igetP (T : Nat → TypeId) (V : Nat → Value) (s : ByteArray) (kd : List ByteArray) (p r : Pl) (bi i0 m c : Nat) (A : Option Addr) (nk ck : Nat) (Bk : Nat → Prop) (w : World) (h : Rd w (some ⟨bi, i0, none⟩) s) (hW : Wd T V w) (hT : Tb w) (hm : m = s.size) (hs : s.size ≤ 1000000) (hc : s.size ≤ c)
    (hK : Row w Bk 1 A nk ck (keysV kd)) (hkn : kd.length ≤ 2147483647) (hp : places s = some p) (hl : Leads s p kd r) :
    Calls Tryd.prog 49 #[.slice (some ⟨bi, i0, none⟩) m c, .slice A nk ck] w (IkPost s r w) := by
  have d0 := hW.d0
  have d1 := hW.d1
  have d2 := hW.d2
  have HIG := Lib.hid (igetA T V s kd p r false false 0 bi i0 m c A nk ck Bk w h hW.errs hT hm hs hc hK hkn hp hl)
  clear h hW hT hm hK hp hl
  go_enter Tryd.func49, Tryd.ntmps49
  go_wp2_with (first
    | (go_at_call 50; (with_reducible refine HIG.out.mono ?_); rintro e w2 ⟨⟨A2, n2, c2, rfl, h1, h2, h3, h4⟩, hb2⟩; replace h1 := Lib.hid h1; replace h3 := Lib.hid h3; replace h4 := Lib.hid h4; replace hb2 := Lib.hid hb2))
  (try simp only [Exit.inBlock, Exit.then])
  refine bodyPost_ret (results_tmp5 rfl _ _ _) rfl ?_
  exact ⟨⟨A2, n2, c2, rfl, h1.out, h2, h3.out, h4.out⟩, hb2.out⟩
set_option maxRecDepth 100000 in
set_option maxHeartbeats 4000000 in
theorem getP (T : Nat → TypeId) (V : Nat → Value) (s : ByteArray) (kd : List ByteArray) (p r : Pl) (bi i0 m c : Nat) (A : Option Addr) (nk ck : Nat) (Bk : Nat → Prop) (w : World) (h : Rd w (some ⟨bi, i0, none⟩) s) (hW : Wd T V w) (hT : Tb w) (hm : m = s.size) (hs : s.size ≤ 1000000) (hc : s.size ≤ c)
    (hK : Row w Bk 1 A nk ck (keysV kd)) (hkn : kd.length ≤ 2147483647) (hp : places s = some p) (hl : Leads s p kd r) :
    Calls Tryd.prog 29 #[.slice (some ⟨bi, i0, none⟩) m c, .slice A nk ck] w (CkPost s r w) := by
  have HIG := Lib.hid (igetP T V s kd p r bi i0 m c A nk ck Bk w h hW hT hm hs hc hK hkn hp hl)
  clear h hW hT hm hK hp hl
  go_enter Tryd.func29, Tryd.ntmps29
  go_wp2_with (first
    | (go_at_call 49; (with_reducible refine HIG.out.mono ?_); rintro e w2 ⟨⟨A2, n2, c2, rfl, h1, h2, h3, h4⟩, hb2⟩; replace h1 := Lib.hid h1; replace h3 := Lib.hid h3; replace h4 := Lib.hid h4; replace hb2 := Lib.hid hb2))
  (try simp only [Exit.inBlock, Exit.then])
  refine bodyPost_ret (results_tmp4 rfl _ _ _) rfl ?_
  exact ⟨⟨A2, n2, c2, rfl, h1.out, h2, h3.out, h4.out⟩, hb2.out⟩
set_option maxRecDepth 100000 in
set_option maxHeartbeats 4000000 in
/-- JpGet's answer. -/
theorem jpGetP (T : Nat → TypeId) (V : Nat → Value) (s : ByteArray) (kd : List ByteArray) (p r : Pl) (A : Option Addr) (nk ck : Nat) (Bk : Nat → Prop) (w : World) (hW : Wd T V w) (hT : Tb w) (hs : s.size ≤ 1000000) (hK : Row w Bk 1 A nk ck (keysV kd)) (hkn : kd.length ≤ 2147483647) (hp : places s = some p) (hl : Leads s p kd r) :
    Calls Tryd.prog 12 #[.string s, .slice A nk ck] w fun e w' => e = .returned (.tuple #[.agg #[.string ⟨#[]⟩, .string (rawAt s r.kind r.b r.e), .int .i64 (jk r.kind : Int), .int .i64 (r.e : Int)], .bool true]) ∧ Below w.heap.size w w' := by
  obtain ⟨w1, hw1⟩ : ∃ w1, w.alloc (.cells #[.string ⟨#[]⟩, .string ⟨#[]⟩, .int .i64 0, .int .i64 0] 38) = w1 := ⟨_, rfl⟩
  have HB1 := Lib.hid (show Below w.heap.size w w1 by rw [← hw1]; exact below_alloc (Below.refl _ _) _)
  have HF1 := Lib.hid (show F4 w1 w.heap.size (.string ⟨#[]⟩) (.string ⟨#[]⟩) (.int .i64 0) (.int .i64 0) by rw [← hw1]; exact F4.new _ _ _ _ _)
  have hcv : (convert 9 65 (.string s)).run Tryd.prog w1 = .ok (.slice (some ⟨w1.heap.size, 0, none⟩) s.size (grownCap w1 s.size 0 5)) (Lib.bytesWorld w1 5 s) := Lib.run_convert_string_bytes w1 9 65 5 s Tryd.underlying9 Tryd.underlying65 Tryd.underlying5
  have hb3 := below_of HB1.out (bytesWorld_below w1 5 s)
  have HG := Lib.hid (getP T V s kd p r w1.heap.size 0 s.size (grownCap w1 s.size 0 5) A nk ck Bk _ (bytesWorld_rd w1 5 s) (hW.below hb3) (hT.below hb3) rfl hs (bytesCap w1 5 s) (hK.keep (.of_below hb3)) hkn hp hl)
  have HB3 := Lib.hid (bytesWorld_below w1 5 s)
  obtain ⟨w3, hw3⟩ : ∃ w3, Lib.bytesWorld w1 5 s = w3 := ⟨_, rfl⟩
  rw [hw3] at hcv HG HB3
  clear hW hT hK hp hl hb3
  go_enter Tryd.func12, Tryd.ntmps12
  go_wp2_with (first
    | (go_at_call 29; (with_reducible refine HG.out.mono ?_); rintro e w4 ⟨⟨A2, n2, c2, rfl, h1, h2, h3, -⟩, hb4⟩
       have hF2 := (HF1.out.below HB3.out).below hb4
       have q0 := hF2.c0
       have q1 := hF2.c1
       have q2 := hF2.c2
       have q3 := hF2.c3
       have e0 := hF2.f 0
       have e1 := hF2.f 1
       have e2 := hF2.f 2
       have e3 := hF2.f 3
       clear hF2
       obtain ⟨rr, hrr⟩ : ∃ rr, rawAt s r.kind r.b r.e = rr := ⟨_, rfl⟩
       rw [hrr] at h1 h3
       subst h1
       have hcv2 : (convert 65 9 (.slice A2 rr.size c2)).run Tryd.prog w4 = .ok (.string rr) w4 := h3.string Tryd.underlying65 Tryd.underlying5 Tryd.underlying9
       replace hrr := Lib.hid hrr
       replace hb4 := Lib.hid hb4
       replace h3 := Lib.hid h3))
  refine bodyPost_ret (v := .tuple #[.agg #[.string ⟨#[]⟩, .string rr, .int .i64 (jk r.kind : Int), .int .i64 (r.e : Int)], .bool true]) (by simp [results, Tryd.results12, go_sem, q0, q1, q2, q3]) rfl ?_
  refine ⟨by rw [hrr.out], ?_⟩
  iterate 4 with_reducible refine below_set ?_ (Nat.le_refl _) _
  exact below_of (below_of HB1.out HB3.out) hb4.out
end
end Go.Proofs.YtbgcjnhebfgicaaDoor.Jp
namespace Go.Proofs.YtbgcjnhebfgicaaDoor.Jp
section
open Go.RowKit L
set_option linter.unusedVariables false
set_option linter.unusedSimpArgs false

/-- A text with another in the place of bytes b to e. -/
def put3 (s v : ByteArray) (b e : Nat) : ByteArray := s.extract 0 b ++ v ++ s.extract e s.size
theorem put3_size {s v : ByteArray} {b e : Nat} (hb : b ≤ s.size) : (put3 s v b e).size = b + v.size + (s.size - e) := by
  unfold put3
  rw [ByteArray.size_append, ByteArray.size_append, size_ext, size_ext]
  omega
theorem bl_app (a b : ByteArray) : bl (a ++ b) = bl a ++ bl b := by
  apply List.ext_getElem?
  intro j
  rcases Nat.lt_or_ge j (a ++ b).size with h | h
  · rw [bl_get _ h]
    rw [ByteArray.size_append] at h
    rcases Nat.lt_or_ge j a.size with h1 | h1
    · rw [List.getElem?_append_left (by rw [bl_length]; exact h1), bl_get _ h1, bt_app_left a b j (by omega) (by omega)]
    · rw [List.getElem?_append_right (by rw [bl_length]; exact h1), bl_length, bl_get _ (by omega), bt_app_right a b j (by omega)]
      congr 2
      omega
  · rw [List.getElem?_eq_none (by rw [bl_length]; exact h), List.getElem?_eq_none (by rw [List.length_append, bl_length, bl_length, ← ByteArray.size_append]; exact h)]
theorem rd_row {w : World} {g : Nat} {t : ByteArray} {ty : TypeId} {fr : Nat × Nat} (h : w.heap[g]? = some (.cells (vs (bl t)).toArray ty fr)) : Rd w (some ⟨g, 0, none⟩) t := by
  intro h0
  refine ⟨_, rfl, (Array.getElem?_eq_some_iff.1 h).1, fun j hj => ?_⟩
  have e1 : (⟨g, 0, none⟩ : Addr).add j = ⟨g, j, none⟩ := by unfold Addr.add; split <;> simp_all
  rw [e1, cell_of_row w g j _ _ _ h]
  simp [vs, bl_get _ hj]
theorem splice3 (L : List Value) (a b c : List Value) (h : L.length = a.length + b.length + c.length) : splice (splice (splice L 0 a) a.length b) (a.length + b.length) c = a ++ b ++ c := by
  have h1 := length_splice L 0 a (by omega)
  have h2 := length_splice (splice L 0 a) a.length b (by omega)
  have h3 := length_splice (splice (splice L 0 a) a.length b) (a.length + b.length) c (by omega)
  have t1 := take_splice L 0 a (by omega)
  rw [Nat.zero_add, List.take_zero, List.nil_append] at t1
  have t2 := take_splice (splice L 0 a) a.length b (by omega)
  rw [t1] at t2
  have t3 := take_splice (splice (splice L 0 a) a.length b) (a.length + b.length) c (by omega)
  rw [t2, List.take_of_length_le (by omega)] at t3
  exact t3
set_option maxRecDepth 100000 in
set_option maxHeartbeats 8000000 in
theorem setW (T : Nat → TypeId) (V : Nat → Value) (s v : ByteArray) (kd : List ByteArray) (p r : Pl) (a b : Bool) (cn : Int) (bi i0 m c vb vi vn vc : Nat) (A : Option Addr) (nk ck : Nat) (Bk : Nat → Prop) (w : World) (h : Rd w (some ⟨bi, i0, none⟩) s) (hv : Rd w (some ⟨vb, vi, none⟩) v) (hE : Errs T V w) (hT : Tb w) (hm : m = s.size) (hs : s.size ≤ 1000000) (hc : s.size ≤ c)
    (hvn : vn = v.size) (hvs : v.size ≤ 1000000) (hvc : v.size ≤ vc) (hv0 : 0 < v.size) (hK : Row w Bk 1 A nk ck (keysV kd)) (hkn : kd.length ≤ 2147483647) (hk0 : kd ≠ []) (hp : places s = some p) (hl : Leads s p kd r) :
    Calls Tryd.prog 58 #[.agg #[.bool a, .bool b, .int .i64 cn], .slice (some ⟨bi, i0, none⟩) m c, .slice (some ⟨vb, vi, none⟩) vn vc, .slice A nk ck] w fun e w' => (∃ (g c' : Nat), e = .returned (.tuple #[.slice (some ⟨g, 0, none⟩) (put3 s v r.b r.e).size c', .nilIface]) ∧ (put3 s v r.b r.e).size ≤ c' ∧ Rd w' (some ⟨g, 0, none⟩) (put3 s v r.b r.e)) ∧ Below w.heap.size w w' := by
  subst hm hvn
  obtain ⟨-, g2, g3, g4, g5, -, -⟩ := gty_lead a (places_val hp).2 hl hk0
  have hpe : p.e ≤ s.size := (places_val hp).2.2.2.2.2.1
  have hnk := (keys_len hK).1
  have hl0 : 0 < kd.length := List.length_pos_iff.2 hk0
  have hnz : ((nk : Int) == 0) = false := by rw [beq_eq_false_iff_ne]; omega
  have hbi : bi < w.heap.size := by
    obtain ⟨ad, e, hl, -⟩ := h (by omega)
    injection e with e
    subst e
    exact hl
  have hvb : vb < w.heap.size := by
    obtain ⟨ad, e, hl, -⟩ := hv hv0
    injection e with e
    subst e
    exact hl
  obtain ⟨w1, hw1⟩ : ∃ w1, w.alloc (.cells #[.bool a, .bool b, .int .i64 cn] 74) = w1 := ⟨_, rfl⟩
  have hb1 : Below w.heap.size w w1 := by rw [← hw1]; exact below_alloc (Below.refl _ _) _
  have hcf : CfgAt w1 w.heap.size a b cn := by rw [← hw1]; exact CfgAt.new _ _ _ _
  have j0 := hcf.c0
  have j1 := hcf.c1
  have j2 := hcf.c2
  have HIG := Lib.hid (igetA T V s kd p r a b cn bi i0 s.size c A nk ck Bk w1 (h.below hb1) (hE.below hb1) (hT.below hb1) rfl hs hc (hK.keep (.of_below hb1)) hkn hp hl)
  have HR := Lib.hid (h.below hb1)
  have HV := Lib.hid (hv.below hb1)
  have HB1 := Lib.hid hb1
  obtain ⟨le, hle⟩ : ∃ le, s.size - r.e = le := ⟨_, rfl⟩
  obtain ⟨x1, hx1⟩ : ∃ x, r.b + le = x := ⟨_, rfl⟩
  obtain ⟨tot, htot⟩ : ∃ x, x1 + v.size = x := ⟨_, rfl⟩
  obtain ⟨q, hq⟩ : ∃ x, r.b + v.size = x := ⟨_, rfl⟩
  have f1 : IntKind.i64.wrap ((r.b : Int) + (le : Int)) = (x1 : Int) := by rw [IntWalk.i64_in _ (by omega)]; omega
  have f2 : IntKind.i64.wrap ((x1 : Int) + (v.size : Int)) = (tot : Int) := by rw [IntWalk.i64_in _ (by omega)]; omega
  have f3 : IntKind.i64.wrap ((r.b : Int) + (v.size : Int)) = (q : Int) := by rw [IntWalk.i64_in _ (by omega)]; omega
  have htm : tot ≤ 2000000 := by omega
  have b0 : (0 : Int) ≤ (r.b : Int) := by omega
  have b1 : (r.b : Int) ≤ (c : Int) := by omega
  have b2 : (0 : Int) ≤ (r.e : Int) := by omega
  have b3 : (r.e : Int) ≤ (s.size : Int) := by omega
  have b4 : (r.b : Int) ≤ (tot : Int) := by omega
  have b5 : (r.b : Int) ≤ (q : Int) := by omega
  have b6 : (q : Int) ≤ (tot : Int) := by omega
  have b7 : (0 : Int) ≤ (q : Int) := by omega
  have n1 : ¬ c = r.e := by omega
  have n2 : ¬ tot = r.b := by omega
  have n3 : ¬ tot = q := by omega
  have HSZ := Lib.hid (show (put3 s v r.b r.e).size = tot by rw [put3_size (by omega)]; omega)
  have HBL := Lib.hid (show vs (bl (put3 s v r.b r.e)) = vs (bl (s.extract 0 r.b)) ++ vs (bl v) ++ vs (bl (s.extract r.e s.size)) by
    unfold put3
    rw [bl_app, bl_app]
    simp [vs])
  have HLA := Lib.hid (show (vs (bl (s.extract 0 r.b))).length = r.b by rw [List.length_map, bl_length, size_ext]; omega)
  have HLV := Lib.hid (show (vs (bl v)).length = v.size by rw [List.length_map, bl_length])
  have HLE := Lib.hid (show (vs (bl (s.extract r.e s.size))).length = le by rw [List.length_map, bl_length, size_ext]; omega)
  obtain ⟨i1, hi, hz0, hz1, hz2⟩ := info_parts hbyteJ
  have HX1 := Lib.hid hx1
  have HTOT := Lib.hid htot
  have HQ := Lib.hid hq
  clear h hv hE hT hK hp hl hb1 hcf hnk hx1 htot hq
  go_enter Tryd.func58, Tryd.ntmps58
  go_upto_region 97 with (first
    | (go_at_call 50; (with_reducible refine HIG.out.mono ?_); rintro e w2 ⟨⟨A2, n2', c2, rfl, -, -, -, -⟩, hb2⟩; replace hb2 := Lib.hid hb2)
    | (at_make; refine wpList_make_full _ rfl _ _ 65 rfl w2.heap.size 5 i1 (.int .u8 0) 1 Tryd.underlying65 hi hz0 hz1 _ _ _ _ tot rfl rfl rfl rfl (by rw [hz2]; omega) (by unfold maxLen; omega) (Nat.le_refl _) ?_; intro wm hown hgr
       replace hown := Lib.hid hown
       replace hgr := Lib.hid hgr))
  obtain ⟨-, ⟨hbad, -⟩ | ⟨hx, cap, curA, hvv, -, hhp, hnc2, hcm, hcs, -⟩⟩ := hown.out
  · cases hbad
  obtain ⟨rfl, rfl⟩ : w2.heap.size = hx ∧ tot = cap := by
    injection hvv with hv1 hv2 hv3
    injection hv1 with hv1
    injection hv1 with hv1
    exact ⟨hv1, hv3⟩
  obtain ⟨curm⟩ := curA
  have hbm : Below w2.heap.size w2 wm := ⟨hgr.out.os, hgr.out.tape, hgr.out.output, hgr.out.size, fun j hj => hgr.out.block j hj (by simp)⟩
  have hz12 : w1.heap.size ≤ w2.heap.size := hb2.out.size
  have hz01 : w.heap.size ≤ w1.heap.size := HB1.out.size
  have HROW0 := Lib.hid hhp
  have HBEL0 := Lib.hid (below_of (below_of HB1.out hb2.out) hbm)
  have HRS0 := Lib.hid ((HR.out.below hb2.out).below hbm)
  have HRV0 := Lib.hid ((HV.out.below hb2.out).below hbm)
  have hcl : curm.length = tot := by simpa using hcs
  have HCL := Lib.hid hcl
  clear hown hgr hvv hhp hnc2 hcm hcs hbm hcl hi hz0 hz1 hz2
  have HBV := Lib.hid hvb
  have HBI := Lib.hid hbi
  have hqv : q - r.b = v.size := by have := HQ.out; omega
  have htq : tot - q = le := by have := HQ.out; have := HTOT.out; have := HX1.out; omega
  have HQV := Lib.hid hqv
  have HTQ := Lib.hid htq
  clear hqv htq
  go_upto_region 98 with (first
    | (with_reducible show wpList _ _ _ (⟨some 379, _, _, _, _, _⟩ :: _) _ _
       refine copyW rfl (.tmp 377) (.tmp 378) 65 65 rfl 5 Tryd.underlying65 (by kernel_rfl) _ _ _ _ _ _ rfl rfl w2.heap.size 0 curm 5 HROW0.out (vs (bl (s.extract 0 r.b))) ?_ ?_ ?_ (vs_one _) w.heap.size w HBEL0.out (show w.heap.size ≤ w2.heap.size by omega) ?_
       · rw [HLA.out]; exact (Nat.min_self _).symm
       · intro hpos
         exact ⟨rfl, ⟨bi, i0, none⟩, rfl, vs_src HRS0.out⟩
       · rw [HLA.out, HCL.out]; omega
       intro w4 hw4))
  have HROW1 := Lib.hid hw4.out.1
  have HBEL1 := Lib.hid hw4.out.2.1
  have HRS1 := Lib.hid (rdkp HRS0.out hw4.out.2.2 (show bi ≠ w2.heap.size by have := HBI.out; omega))
  have HRV1 := Lib.hid (rdkp HRV0.out hw4.out.2.2 (show vb ≠ w2.heap.size by have := HBV.out; omega))
  have HCL1 := Lib.hid (show (splice curm 0 (vs (bl (s.extract 0 r.b)))).length = tot by rw [length_splice _ _ _ (by rw [HLA.out, HCL.out]; omega)]; exact HCL.out)
  clear hw4
  go_upto_region 99 with (first
    | (with_reducible show wpList _ _ _ (⟨some 385, _, _, _, _, _⟩ :: _) _ _
       refine copyW rfl (.tmp 383) (.tmp 384) 65 65 rfl 5 Tryd.underlying65 (by kernel_rfl) _ _ _ _ _ _ rfl rfl w2.heap.size r.b _ 5 HROW1.out (vs (bl v)) ?_ ?_ ?_ (vs_one _) w.heap.size w HBEL1.out (show w.heap.size ≤ w2.heap.size by omega) ?_
       · rw [HLV.out, HQV.out]; exact (Nat.min_self _).symm
       · intro hpos
         exact ⟨rfl, ⟨vb, vi, none⟩, rfl, by have h := vs_src (k := v.size) HRV1.out; rwa [ext_all] at h⟩
       · rw [HLV.out, HCL1.out]; have := HTOT.out; have := HX1.out; omega
       intro w5 hw5))
  have HROW2 := Lib.hid hw5.out.1
  have HBEL2 := Lib.hid hw5.out.2.1
  have HRS2 := Lib.hid (rdkp HRS1.out hw5.out.2.2 (show bi ≠ w2.heap.size by have := HBI.out; omega))
  have HCL2 := Lib.hid (show (splice (splice curm 0 (vs (bl (s.extract 0 r.b)))) r.b (vs (bl v))).length = tot by rw [length_splice _ _ _ (by rw [HLV.out, HCL1.out]; have := HTOT.out; have := HX1.out; omega)]; exact HCL1.out)
  clear hw5
  have HRE := Lib.hid (show Rd w5 (some ⟨bi, i0 + r.e, none⟩) (s.extract r.e s.size) from rd_ite (c := c) (k := r.e) HRS2.out hc (by rw [if_neg n1]))
  go_upto_region 100 with (first
    | (with_reducible show wpList _ _ _ (⟨some 390, _, _, _, _, _⟩ :: _) _ _
       refine copyW rfl (.tmp 388) (.tmp 389) 65 65 rfl 5 Tryd.underlying65 (by kernel_rfl) _ _ _ _ _ _ rfl rfl w2.heap.size q _ 5 HROW2.out (vs (bl (s.extract r.e s.size))) ?_ ?_ ?_ (vs_one _) w.heap.size w HBEL2.out (show w.heap.size ≤ w2.heap.size by omega) ?_
       · rw [HLE.out, HTQ.out]; exact (Nat.min_self _).symm
       · intro hpos
         exact ⟨rfl, ⟨bi, i0 + r.e, none⟩, rfl, by have h := vs_src (k := (s.extract r.e s.size).size) HRE.out; rwa [ext_all] at h⟩
       · rw [HLE.out, HCL2.out]; have := HTQ.out; omega
       intro w6 hw6))
  have HB6 := Lib.hid hw6.out.2.1
  have hfin : w6.heap[w2.heap.size]? = some (.cells (vs (bl (put3 s v r.b r.e))).toArray 5 (0, 0)) := by
    rw [hw6.out.1, HBL.out]
    have h3 := splice3 curm (vs (bl (s.extract 0 r.b))) (vs (bl v)) (vs (bl (s.extract r.e s.size))) (by rw [HLA.out, HLV.out, HLE.out, HCL.out]; have := HTOT.out; have := HX1.out; omega)
    rw [HLA.out, HLV.out, HQ.out] at h3
    rw [h3]
  have HF := Lib.hid (rd_row hfin)
  clear hfin hw6
  go_wp2
  (try simp only [Exit.inBlock, Exit.then])
  refine bodyPost_ret (results_tmp2 rfl _ _ _) rfl ?_
  exact ⟨⟨w2.heap.size, tot, by rw [HSZ.out]; rfl, by rw [HSZ.out]; exact Nat.le_refl _, HF.out⟩, HB6.out⟩
end
end Go.Proofs.YtbgcjnhebfgicaaDoor.Jp
namespace Go.Proofs.YtbgcjnhebfgicaaDoor.Jp
section
open Go.RowKit L
set_option linter.unusedVariables false
set_option linter.unusedSimpArgs false

set_option maxRecDepth 100000 in
set_option maxHeartbeats 4000000 in
theorem setP (T : Nat → TypeId) (V : Nat → Value) (s v : ByteArray) (kd : List ByteArray) (p r : Pl) (bi i0 m c vb vi vn vc : Nat) (A : Option Addr) (nk ck : Nat) (Bk : Nat → Prop) (w : World) (h : Rd w (some ⟨bi, i0, none⟩) s) (hv : Rd w (some ⟨vb, vi, none⟩) v) (hW : Wd T V w) (hT : Tb w) (hm : m = s.size) (hs : s.size ≤ 1000000) (hc : s.size ≤ c)
    (hvn : vn = v.size) (hvs : v.size ≤ 1000000) (hvc : v.size ≤ vc) (hv0 : 0 < v.size) (hK : Row w Bk 1 A nk ck (keysV kd)) (hkn : kd.length ≤ 2147483647) (hk0 : kd ≠ []) (hp : places s = some p) (hl : Leads s p kd r) :
    Calls Tryd.prog 44 #[.slice (some ⟨bi, i0, none⟩) m c, .slice (some ⟨vb, vi, none⟩) vn vc, .slice A nk ck] w fun e w' => (∃ (g c' : Nat), e = .returned (.tuple #[.slice (some ⟨g, 0, none⟩) (put3 s v r.b r.e).size c', .nilIface]) ∧ (put3 s v r.b r.e).size ≤ c' ∧ Rd w' (some ⟨g, 0, none⟩) (put3 s v r.b r.e)) ∧ Below w.heap.size w w' := by
  have d0 := hW.d0
  have d1 := hW.d1
  have d2 := hW.d2
  have HS := Lib.hid (setW T V s v kd p r false false 0 bi i0 m c vb vi vn vc A nk ck Bk w h hv hW.errs hT hm hs hc hvn hvs hvc hv0 hK hkn hk0 hp hl)
  clear h hv hW hT hm hvn hK hp hl
  go_enter Tryd.func44, Tryd.ntmps44
  go_wp2_with (first
    | (go_at_call 58; (with_reducible refine HS.out.mono ?_); rintro e w2 ⟨⟨g, c', rfl, h1, h2⟩, hb2⟩; replace h2 := Lib.hid h2; replace hb2 := Lib.hid hb2))
  (try simp only [Exit.inBlock, Exit.then])
  refine bodyPost_ret (results_tmp2 rfl _ _ _) rfl ?_
  exact ⟨⟨g, c', rfl, h1, h2.out⟩, hb2.out⟩
set_option maxRecDepth 100000 in
set_option maxHeartbeats 4000000 in
theorem jpSetP (T : Nat → TypeId) (V : Nat → Value) (s v : ByteArray) (kd : List ByteArray) (p r : Pl) (A : Option Addr) (nk ck : Nat) (Bk : Nat → Prop) (w : World) (hW : Wd T V w) (hT : Tb w) (hs : s.size ≤ 1000000) (hvs : v.size ≤ 1000000) (hv0 : 0 < v.size) (hK : Row w Bk 1 A nk ck (keysV kd)) (hkn : kd.length ≤ 2147483647) (hk0 : kd ≠ []) (hp : places s = some p) (hl : Leads s p kd r) :
    Calls Tryd.prog 23 #[.string s, .string v, .slice A nk ck] w fun e w' => e = .returned (.tuple #[.string (put3 s v r.b r.e), .bool true]) ∧ Below w.heap.size w w' := by
  have hcv : (convert 9 65 (.string s)).run Tryd.prog w = .ok (.slice (some ⟨w.heap.size, 0, none⟩) s.size (grownCap w s.size 0 5)) (Lib.bytesWorld w 5 s) := Lib.run_convert_string_bytes w 9 65 5 s Tryd.underlying9 Tryd.underlying65 Tryd.underlying5
  have hb1 := bytesWorld_below w 5 s
  have hr1 := bytesWorld_rd w 5 s
  have hc1 := bytesCap w 5 s
  obtain ⟨w1, hw1⟩ : ∃ w1, Lib.bytesWorld w 5 s = w1 := ⟨_, rfl⟩
  obtain ⟨cc, hcc⟩ : ∃ cc, grownCap w s.size 0 5 = cc := ⟨_, rfl⟩
  rw [hw1] at hcv hb1 hr1
  rw [hcc] at hcv hc1
  have hcv2 : (convert 9 65 (.string v)).run Tryd.prog w1 = .ok (.slice (some ⟨w1.heap.size, 0, none⟩) v.size (grownCap w1 v.size 0 5)) (Lib.bytesWorld w1 5 v) := Lib.run_convert_string_bytes w1 9 65 5 v Tryd.underlying9 Tryd.underlying65 Tryd.underlying5
  have hb2 := bytesWorld_below w1 5 v
  have hr2 := bytesWorld_rd w1 5 v
  have hc2 := bytesCap w1 5 v
  obtain ⟨w2, hw2⟩ : ∃ w2, Lib.bytesWorld w1 5 v = w2 := ⟨_, rfl⟩
  obtain ⟨cd, hcd⟩ : ∃ cc, grownCap w1 v.size 0 5 = cc := ⟨_, rfl⟩
  rw [hw2] at hcv2 hb2 hr2
  rw [hcd] at hcv2 hc2
  have hb12 := below_of hb1 hb2
  have HS := Lib.hid (setP T V s v kd p r w.heap.size 0 s.size cc w1.heap.size 0 v.size cd A nk ck Bk w2 (hr1.below hb2) hr2 (hW.below hb12) (hT.below hb12) rfl hs hc1 rfl hvs hc2 hv0 (hK.keep (.of_below hb12)) hkn hk0 hp hl)
  have HB := Lib.hid hb12
  clear hb1 hb2 hr1 hr2 hc1 hc2 hb12 hW hT hK hp hl hw1 hw2 hcc hcd
  go_enter Tryd.func23, Tryd.ntmps23
  go_wp2_with (first
    | (go_at_call 44; (with_reducible refine HS.out.mono ?_); rintro e w3 ⟨⟨g, c', rfl, h1, h2⟩, hb3⟩
       obtain ⟨rr, hrr⟩ : ∃ rr, put3 s v r.b r.e = rr := ⟨_, rfl⟩
       rw [hrr] at h1 h2
       rw [hrr]
       have hcv3 : (convert 65 9 (.slice (some ⟨g, 0, none⟩) rr.size c')).run Tryd.prog w3 = .ok (.string rr) w3 := h2.string Tryd.underlying65 Tryd.underlying5 Tryd.underlying9
       replace hrr := Lib.hid hrr
       replace h2 := Lib.hid h2
       replace hb3 := Lib.hid hb3))
  (try simp only [Exit.inBlock, Exit.then])
  refine bodyPost_ret (results_tmp2 rfl _ _ _) rfl ?_
  exact ⟨by rw [hrr.out]; rfl, below_of HB.out hb3.out⟩
end
end Go.Proofs.YtbgcjnhebfgicaaDoor.Jp
namespace Go.Proofs.YtbgcjnhebfgicaaDoor.Jp
section
open L
set_option linter.unusedVariables false
set_option linter.unusedSimpArgs false

theorem bt_eq_of {a b : ByteArray} (hz : a.size = b.size) (h : ∀ k : Nat, k < a.size → bt a (k : Nat) = bt b (k : Nat)) : a = b := eq_of_bt hz h
/-- What the text reads, with another in the place of bytes b to e. -/
theorem put3_bt {s v : ByteArray} {b e : Nat} (hb : b ≤ e) (he : e ≤ s.size) (k : Nat) :
    (k < b → bt (put3 s v b e) (k : Nat) = bt s (k : Nat)) ∧ (b ≤ k → k < b + v.size → bt (put3 s v b e) (k : Nat) = bt v ((k - b : Nat) : Int)) ∧ (b + v.size ≤ k → bt (put3 s v b e) (k : Nat) = bt s ((k - (b + v.size) + e : Nat) : Int)) := by
  have z1 : (s.extract 0 b).size = b := by rw [size_ext]; omega
  have z2 : (s.extract 0 b ++ v).size = b + v.size := by rw [ByteArray.size_append, z1]
  unfold put3
  refine ⟨fun h => ?_, fun h1 h2 => ?_, fun h => ?_⟩
  · rw [bt_app_left _ _ _ (by omega) (by rw [z2]; omega), bt_app_left _ _ _ (by omega) (by rw [z1]; omega), bt_ext _ _ _ _ (by omega) (by rw [size_ext]; omega)]
    congr 1
    omega
  · rw [bt_app_left _ _ _ (by omega) (by rw [z2]; omega), bt_app_right _ _ _ (by rw [z1]; omega), z1]
    congr 1
    omega
  · rw [bt_app_right _ _ _ (by rw [z2]; omega), z2]
    by_cases hk : k - (b + v.size) + e < s.size
    · rw [show (k : Int) - ((b + v.size : Nat) : Int) = ((k - (b + v.size) : Nat) : Int) by omega, bt_ext _ _ _ _ (by omega) (by rw [size_ext]; omega)]
      congr 1
      omega
    · rw [bt_out _ _ (by rw [size_ext]; omega), bt_out _ _ (by omega)]
/-- Put back. -/
theorem put_back {s v : ByteArray} {b e : Nat} (hb : b ≤ e) (he : e ≤ s.size) : put3 (put3 s v b e) (s.extract b e) b (b + v.size) = s := by
  have z0 : (put3 s v b e).size = b + v.size + (s.size - e) := put3_size (by omega)
  have z1 : (s.extract b e).size = e - b := by rw [size_ext]; omega
  have z2 : (put3 (put3 s v b e) (s.extract b e) b (b + v.size)).size = s.size := by rw [put3_size (by omega), z1, z0]; omega
  refine eq_of_bt z2 fun k hk => ?_
  rw [z2] at hk
  obtain ⟨h1, h2, h3⟩ := put3_bt (s := put3 s v b e) (v := s.extract b e) (b := b) (e := b + v.size) (by omega) (by omega) k
  rw [z1] at h2 h3
  rcases Nat.lt_or_ge k b with hkb | hkb
  · rw [h1 hkb, (put3_bt hb he k).1 hkb]
  · rcases Nat.lt_or_ge k (b + (e - b)) with hke | hke
    · rw [h2 hkb hke, bt_ext _ _ _ _ (by omega) (by rw [size_ext]; omega)]
      congr 1
      omega
    · rw [h3 hke, (put3_bt hb he _).2.2 (by omega)]
      congr 1
      omega
end
end Go.Proofs.YtbgcjnhebfgicaaDoor.Jp
namespace Go.Proofs.YtbgcjnhebfgicaaDoor.Jp
section
open Go.RowKit L
set_option linter.unusedVariables false
set_option linter.unusedSimpArgs false

/-- The keys lead to the text that has been put in the value's place. -/
def PutL : Prop := ∀ (s v : ByteArray) (p r pv : Pl) (ks : List ByteArray), s.size ≤ 65536 → v.size ≤ 65536 → places v = some pv → pv.b = 0 → pv.e = v.size → places s = some p → Leads s p ks r → ks ≠ [] →
  ∃ p' r', places (put3 s v r.b r.e) = some p' ∧ Leads (put3 s v r.b r.e) p' ks r' ∧ r'.b = r.b ∧ r'.e = r.b + v.size
set_option maxRecDepth 100000 in
set_option maxHeartbeats 8000000 in
theorem lawSB (hPL : PutL) (T : Nat → TypeId) (V : Nat → Value) (s v : ByteArray) (A : Option Addr) (n c : Nat) (ks : List ByteArray) (w : World) (hs0 : s.size ≤ 140737488351232) (hv0 : v.size ≤ 140737488351232) (hR : Row w (fun _ => True) 1 A n c (keysV ks)) (hks : ∀ k ∈ ks, k.size ≤ 9223372036854775807) (hW : Wd T V w) (hT : Tb w) :
    Calls Tryd.prog 6 #[.string s, .string v, .slice A n c] w fun e w' => e = .returned (.bool true) ∧ Below w.heap.size w w' := by
  have HW := Lib.hid hW
  have HT := Lib.hid hT
  have HR := Lib.hid hR
  have HKS := Lib.hid hks
  have HKL := Lib.hid (keys_len hR).1
  have HPL := Lib.hid hPL
  clear hW hT hR hks hPL
  by_cases hbig : 2147483647 < s.size
  · go_enter Tryd.func6, Tryd.ntmps6
    go_wp2
    go_ret
    exact ⟨rfl, Below.refl _ _⟩
  by_cases hbigv : 2147483647 < v.size
  · go_enter Tryd.func6, Tryd.ntmps6
    go_wp2
    go_ret
    exact ⟨rfl, Below.refl _ _⟩
  have hd1 : decide (2147483647 < (s.size : Int)) = false := by simp; omega
  have hd2 : decide (2147483647 < (v.size : Int)) = false := by simp; omega
  go_enter Tryd.func6, Tryd.ntmps6
  go_upto_region 3 with (first
    | (go_at_call 14; refine (fits1W A n c ks (fun _ => True) _ HR.out HKS.out).mono ?_; rintro e w1 ⟨rfl, b, rfl, hb⟩; replace hb := Lib.hid hb; cases b))
  · go_ret
    exact ⟨rfl, Below.refl _ _⟩
  · go_upto_region 4 with (first
      | (go_at_call 11; go_must (refine (jpFoundW s ks (fun _ => True) A n c _ HR.out (hb.out (by trivial)).2 (by omega)).mono ?_); rintro e w1 ⟨hb1, ⟨root, r, An, cn, Ak, ck, hsz, hpl, hld, hval, rfl, hpm⟩ | rfl⟩ <;> replace hb1 := Lib.hid hb1))
    · obtain ⟨w2, hw2⟩ : ∃ w2, w1.alloc (.cells #[.int .i64 (r.kind : Int), .int .i64 (r.b : Int), .int .i64 (r.e : Int), .slice An r.names.length cn, .slice Ak r.kids.length ck] 25) = w2 := ⟨_, rfl⟩
      rw [hw2]
      have hb2 : Below w1.heap.size w1 w2 := by rw [← hw2]; exact below_alloc (Below.refl _ _) _
      have hp2 : B5 w2 w1.heap.size (.int .i64 (r.kind : Int)) (.int .i64 (r.b : Int)) (.int .i64 (r.e : Int)) (.slice An r.names.length cn) (.slice Ak r.kids.length ck) := by rw [← hw2]; exact B5.new _ _ _ _ _ _
      have HP2 := Lib.hid hp2
      have HB2 := Lib.hid (below_of hb1.out hb2)
      obtain ⟨nv, off, hrd⟩ := hval
      have hrb : r.b < r.e := hrd.2.2.2.2.2.1
      have hre : r.e ≤ s.size := hrd.2.2.2.2.1
      have HPLc := Lib.hid hpl
      have HLD := Lib.hid hld
      have hkn : ks.length ≤ 2147483647 := by have := (hb.out (by trivial)).1; have := HKL.out; omega
      clear hb2 hp2 hw2 hpl hld hpm hrd
      go_upto_region 5 with (first
        | (go_at_call 7; refine (jpPlacesW v _ (by omega)).mono ?_; rintro e w3 ⟨hb3, ⟨pv, hvz, hpv, k, b', e', An2, nn2, cn2, Ak2, nk2, ck2, rfl, hPl⟩ | rfl⟩ <;> replace hb3 := Lib.hid (show Below w2.heap.size w2 w3 from hb3)))
      · obtain ⟨rfl, rfl, rfl⟩ := plc_vals hPl
        obtain ⟨w4, hw4⟩ : ∃ w4, w3.alloc (.cells #[.int .i64 (pv.kind : Int), .int .i64 (pv.b : Int), .int .i64 (pv.e : Int), .slice An2 nn2 cn2, .slice Ak2 nk2 ck2] 25) = w4 := ⟨_, rfl⟩
        rw [hw4]
        have hb4 : Below w3.heap.size w3 w4 := by rw [← hw4]; exact below_alloc (Below.refl _ _) _
        have hv4 : B5 w4 w3.heap.size (.int .i64 (pv.kind : Int)) (.int .i64 (pv.b : Int)) (.int .i64 (pv.e : Int)) (.slice An2 nn2 cn2) (.slice Ak2 nk2 ck2) := by rw [← hw4]; exact B5.new _ _ _ _ _ _
        have hp4 := B5.below (B5.below HP2.out hb3.out) hb4
        have HB4 := Lib.hid (below_of (below_of HB2.out hb3.out) hb4)
        have HP4 := Lib.hid hp4
        have q1 := hv4.c1
        have q2 := hv4.c2
        have c1 := hp4.c1
        have c2 := hp4.c2
        have HPV := Lib.hid hpv
        have hpvs := places_ok hpv
        have HNK := Lib.hid HKL.out
        clear hPl hb4 hv4 hp4 hw4 hpv
        by_cases hk0 : ks = []
        · have hz : ((n : Int) == 0) = true := by rw [beq_iff_eq]; have h := HKL.out; rw [hk0] at h; simp only [List.length_nil] at h; omega
          clear hk0
          go_wp2
          go_ret
          exact ⟨rfl, HB4.out⟩
        have hz : ((n : Int) == 0) = false := by
          rw [beq_eq_false_iff_ne]
          have h := HKL.out
          have := List.length_pos_iff.2 hk0
          omega
        by_cases hvb : 0 < pv.b
        · have hx : decide (0 < (pv.b : Int)) = true := by simp; omega
          go_wp2
          go_ret
          exact ⟨rfl, HB4.out⟩
        have hx : decide (0 < (pv.b : Int)) = false := by simp; omega
        by_cases hve : pv.e < v.size
        · have hy : decide ((pv.e : Int) < (v.size : Int)) = true := by simp; omega
          go_wp2
          go_ret
          exact ⟨rfl, HB4.out⟩
        have hy : decide ((pv.e : Int) < (v.size : Int)) = false := by simp; omega
        have hee : pv.e = v.size := by have := hpvs.2.2; omega
        have hb0 : pv.b = 0 := by omega
        have hv0 : 0 < v.size := by have := hpvs.2.1; omega
        obtain ⟨p', r', h1, h2, h3, h4⟩ := HPL.out s v root r pv ks hsz hvz HPV.out hb0 hee HPLc.out HLD.out hk0
        obtain ⟨out, hout⟩ : ∃ out, put3 s v r.b r.e = out := ⟨_, rfl⟩
        have HBK := Lib.hid (show put3 out (s.extract r.b r.e) r'.b r'.e = s by rw [h3, h4, ← hout]; exact put_back (by omega) hre)
        have hos : out.size ≤ 1000000 := by rw [← hout, put3_size (by omega)]; omega
        have HS1 := Lib.hid (show ∀ W, Below w.heap.size w W → Calls Tryd.prog 23 #[.string s, .string v, .slice A n c] W fun e w' => e = .returned (.tuple #[.string out, .bool true]) ∧ Below W.heap.size W w' from fun W hB => by
          have := jpSetP T V s v ks root r A n c _ W (HW.out.below hB) (HT.out.below hB) (by omega) (by omega) hv0 (HR.out.keep (.of_below hB)) hkn hk0 HPLc.out HLD.out
          rwa [hout] at this)
        rw [hout] at h1 h2
        have HS2 := Lib.hid (show ∀ W, Below w.heap.size w W → Calls Tryd.prog 23 #[.string out, .string (s.extract r.b r.e), .slice A n c] W fun e w' => e = .returned (.tuple #[.string s, .bool true]) ∧ Below W.heap.size W w' from fun W hB => by
          have := jpSetP T V out (s.extract r.b r.e) ks p' r' A n c _ W (HW.out.below hB) (HT.out.below hB) hos (by rw [size_ext]; omega) (by rw [size_ext]; omega) (HR.out.keep (.of_below hB)) hkn hk0 h1 h2
          rwa [HBK.out] at this)
        have hss : (s.toList == s.toList) = true := beq_self_eq_true _
        have hi0 : (0 : Int) ≤ (r.b : Int) := by omega
        have hi1 : (r.b : Int) ≤ (r.e : Int) := by omega
        have hi2 : (r.e : Int) ≤ (s.size : Int) := by omega
        clear h1 h2 h3 h4 hout hee hb0 hk0
        go_upto_region 8 with (first
          | (go_at_call 23; (with_reducible refine (HS1.out w4 HB4.out).mono ?_); rintro e w5 ⟨rfl, hb5⟩
             have hp5 := B5.below HP4.out hb5
             have c1 := hp5.c1
             have c2 := hp5.c2
             have HB5 := Lib.hid (below_of HB4.out hb5)
             clear hp5 hb5))
        go_wp2_with (first
          | (go_at_call 23; (with_reducible refine (HS2.out w5 HB5.out).mono ?_); rintro e w6 ⟨rfl, hb6⟩; replace hb6 := Lib.hid (below_of HB5.out hb6)))
        go_ret
        exact ⟨rfl, hb6.out⟩
      · have HB3 := Lib.hid (below_of HB2.out hb3.out)
        go_wp2
        go_ret
        exact ⟨rfl, below_alloc HB3.out _⟩
    · go_wp2_with (first
        | (go_at_call 7; refine (jpPlacesW v _ (by omega)).mono ?_; rintro e w3 ⟨hb3, ⟨pv, hvz, hpv, k, b', e', An2, nn2, cn2, Ak2, nk2, ck2, rfl, hPl⟩ | rfl⟩ <;> replace hb3 := Lib.hid hb3))
      all_goals
        go_ret
        exact ⟨rfl, below_alloc (below_of (below_alloc hb1.out _) hb3.out) _⟩
end
end Go.Proofs.YtbgcjnhebfgicaaDoor.Jp
namespace Go.Proofs.YtbgcjnhebfgicaaDoor.Jp
section
open L
set_option linter.unusedVariables false

theorem putL : PutL := by
  intro s v p r pv ks hs hv hpv h0 hve hp hl hk
  have hok := places_ok hp
  have hle : r.b < r.e ∧ r.e ≤ s.size := by
    unfold places valAt at hp
    split at hp
    · cases hp
    · rename_i j q hq
      split at hp
      · simp only [Option.some.injEq] at hp
        subst hp
        obtain ⟨hr, rfl⟩ := rdv_of (Nat.zero_le _) (skip_top isBlank s (Nat.zero_le _)) hq
        obtain ⟨n, o, hrr, -⟩ := leads_at hl hr
        exact ⟨hrr.2.2.2.2.2.1, hrr.2.2.2.2.1⟩
      · cases hp
  obtain ⟨h1, h2⟩ := hle
  have hz : (put3 s v r.b r.e).size = r.b + v.size + (s.size - r.e) := put3_size (by omega)
  have P : Put s (put3 s v r.b r.e) r.b r.e v.size := by
    refine ⟨⟨by omega, by omega, fun k hk => ?_⟩, ⟨by omega, by omega, fun k hk => ?_⟩, h1, h2, hz⟩
    · rw [Nat.zero_add]
      exact (put3_bt (Nat.le_of_lt h1) h2 k).1 hk
    · rw [(put3_bt (Nat.le_of_lt h1) h2 (r.b + v.size + k)).2.2 (by omega)]
      congr 1
      omega
  refine put_places hp hpv h0 hve hl hk P fun k hk' => ?_
  rw [(put3_bt (Nat.le_of_lt h1) h2 (r.b + k)).2.1 (by omega) (by omega)]
  congr 1
  omega
end
end Go.Proofs.YtbgcjnhebfgicaaDoor.Jp
