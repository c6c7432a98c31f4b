/- The walk of getTypeConfig. -/
import Derived.Test.YtkdkdhcjpgmjdaaGreatDoorJpTok
namespace Go.Proofs.YtkdkdhcjpgmjdaaGreatDoor.Jp
open Go.RowKit L
set_option linter.unusedVariables false
set_option linter.unusedSimpArgs false

/-- A variable's cell. -/
def Gl (w : World) (g : Nat) (t : TypeId) (v : Value) : Prop := g < w.heap.size ∧ w.cell? ⟨g, 0, none⟩ = some (.iface t v)
theorem Gl.below {w w' : World} {g : Nat} {t : TypeId} {v : Value} (h : Gl w g t v) (hb : Below w.heap.size w w') : Gl w' g t v := ⟨Nat.lt_of_lt_of_le h.1 hb.size, (hb.cell h.1).trans h.2⟩
theorem Gl.drew {w : World} {g : Nat} {t : TypeId} {v : Value} (h : Gl w g t v) : Gl w.drew g t v := h
/-- jsonparser's errors, by their numbers. -/
structure Errs (T : Nat → TypeId) (V : Nat → Value) (w : World) : Prop where
  e1 : Gl w 6 (T 1) (V 1)
  e2 : Gl w 11 (T 2) (V 2)
  e3 : Gl w 4 (T 3) (V 3)
  e4 : Gl w 10 (T 4) (V 4)
  e5 : Gl w 5 (T 5) (V 5)
  e6 : Gl w 3 (T 6) (V 6)
theorem Errs.below {T : Nat → TypeId} {V : Nat → Value} {w w' : World} (h : Errs T V w) (hb : Below w.heap.size w w') : Errs T V w' := ⟨h.e1.below hb, h.e2.below hb, h.e3.below hb, h.e4.below hb, h.e5.below hb, h.e6.below hb⟩
/-- What getTypeConfig answers of the value at i: g is what its text is. -/
def TypePost (T : Nat → TypeId) (V : Nat → Value) (s : ByteArray) (i : Nat) (g : Gt) (w : World) (e : Ending) (w' : World) : Prop :=
  (match g with
  | .ok dt k => ∃ (A' : Option Addr) (c' : Nat), e = .returned (.tuple #[.slice A' k c', .int .i64 (dt : Int), .int .i64 ((i + k : Nat) : Int), .nilIface]) ∧ i + k ≤ s.size ∧ k ≤ c' ∧ Rd w' A' (s.extract i (i + k))
  | .no dt err => e = .returned (.tuple #[.slice none 0 0, .int .i64 (dt : Int), .int .i64 (i : Int), .iface (T err) (V err)])) ∧ Below w.heap.size w w'
theorem TypePost.ok {T : Nat → TypeId} {V : Nat → Value} {s : ByteArray} {i : Nat} {g : Gt} {w w' : World} {e : Ending} {dt k : Nat} {A' : Option Addr} {c' n' : Nat} {x y : Int} (hg : g = .ok dt k) (he : e = .returned (.tuple #[.slice A' n' c', .int .i64 x, .int .i64 y, .nilIface])) (hn : n' = k) (hx : x = (dt : Int)) (hy : y = ((i + k : Nat) : Int)) (hk : i + k ≤ s.size) (hc : k ≤ c') (hr : Rd w' A' (s.extract i (i + k))) (hw : Below w.heap.size w w') : TypePost T V s i g w e w' := by
  subst hg hn hx hy
  exact ⟨⟨A', c', he, hk, hc, hr⟩, hw⟩
theorem TypePost.no {T : Nat → TypeId} {V : Nat → Value} {s : ByteArray} {i : Nat} {g : Gt} {w w' : World} {e : Ending} {dt err : Nat} {x : Int} (hg : g = .no dt err) (he : e = .returned (.tuple #[.slice none 0 0, .int .i64 x, .int .i64 (i : Int), .iface (T err) (V err)])) (hx : x = (dt : Int)) (hw : Below w.heap.size w w') : TypePost T V s i g w e w' := by
  subst hg hx
  exact ⟨he, hw⟩
theorem below_of {w w1 w2 : World} (h : Below w.heap.size w w1) (k : Below w1.heap.size w1 w2) : Below w.heap.size w w2 := below_step h k
theorem results_tmp4 {fn : Func} {t u v x : Tmp} (h : fn.results = #[.tmp t, .tmp u, .tmp v, .tmp x]) (tmps : Array Value) (P : Program) (w : World) :
    (results fn tmps).run P w = .ok (.tuple #[tmps.getD t undef, tmps.getD u undef, tmps.getD v undef, tmps.getD x undef]) w := by
  simp [results, h]
theorem results_tmp5 {fn : Func} {t u v x y : Tmp} (h : fn.results = #[.tmp t, .tmp u, .tmp v, .tmp x, .tmp y]) (tmps : Array Value) (P : Program) (w : World) :
    (results fn tmps).run P w = .ok (.tuple #[tmps.getD t undef, tmps.getD u undef, tmps.getD v undef, tmps.getD x undef, tmps.getD y undef]) w := by
  simp [results, h]
/-- A quotation mark to this configuration. -/
def IsQ (a : Bool) (k : UInt8) : Prop := k = 34 ∨ (k = 39 ∧ a = true)
theorem IsQ.str {a : Bool} {k : UInt8} {t : Tx} (h : IsQ a k) {n : Nat} (hn : cls k t = some n) : gty a (k :: t) = .ok 1 (n + 1) := gty_str h hn
theorem IsQ.no {a : Bool} {k : UInt8} {t : Tx} (h : IsQ a k) (hn : cls k t = none) : gty a (k :: t) = .no 1 4 := gty_strno h hn
theorem rdcut {w : World} {ad : Addr} {s : ByteArray} (h : Rd w (some ad) s) {i j : Nat} (hj : j ≤ s.size) (hi : i < s.size) : Rd w (some (ad.add i)) (s.extract i j) := by
  have := h.cut (i := i) (j := j) (c := s.size) hj (Nat.le_refl _)
  rw [if_neg (by omega)] at this
  simpa using this
set_option maxRecDepth 100000 in
set_option maxHeartbeats 4000000 in
theorem typeStr (q : UInt8) (x : Int) (a b : Bool) (hq : (q = 34 ∧ x = 34) ∨ (q = 39 ∧ x = 39 ∧ a = true)) (T : Nat → TypeId) (V : Nat → Value) (A : Option Addr) (s : ByteArray) (c i : Nat) (n : Int) (w : World) (h : Rd w A s) (hE : Errs T V w) (hs : s.size ≤ 1000000) (hc : s.size ≤ c) (hi : i < s.size) (hx : bt s i = x) :
    Calls Tryz.prog 85 #[.agg #[.bool a, .bool b, .int .i64 n], .slice A s.size c, .int .i64 (i : Int)] w (TypePost T V s i (gty a ((tx s).drop i)) w) := by
  have HB := Lib.hid (below_alloc (Below.refl w.heap.size w) (.cells #[.bool a, .bool b, .int .i64 n] 97))
  have HR := Lib.hid (h.below HB.out)
  have HE := Lib.hid (hE.below HB.out)
  have hcf := CfgAt.new w a b n
  have HCF := Lib.hid hcf
  obtain ⟨ad, rfl, hcell⟩ := HR.out.at_ hi
  obtain ⟨k, hk1, hk2, hk3⟩ := tx_at s i hi
  rw [hx] at hcell hk2
  have HK1 := Lib.hid hk1
  have HK2 := Lib.hid hk2
  have hg0 := hcf.c0
  have hg1 := hcf.c1
  have hg2 := hcf.c2
  obtain ⟨A2, hA2⟩ : ∃ A2, (if c = i + 1 then some ad else some (⟨ad.block, ad.off + (i + 1), none⟩ : Addr)) = A2 := ⟨_, rfl⟩
  have HT := Lib.hid (show Rd _ A2 (s.extract (i + 1) s.size) by rw [← hA2]; exact rdc1 HR.out (i := i) hc)
  clear h hE hx hk1 hk2 hk3 hcf
  have hkq : k = q := by
    rcases hq with ⟨rfl, rfl⟩ | ⟨rfl, rfl, _⟩
    · exact (u8 HK2.out 34).2 rfl
    · exact (u8 HK2.out 39).2 rfl
  subst hkq
  have HQ := Lib.hid (show IsQ a k from hq.imp And.left fun h => ⟨h.1, h.2.2⟩)
  have HQX := Lib.hid (show (k = 34 ∧ x = 34) ∨ (k = 39 ∧ x = 39) from hq.imp id fun h => ⟨h.1, h.2.1⟩)
  have H92 := Lib.hid (q_ne HQ.out)
  have hlen : (tx s).length = s.size := tx_len s
  have HLEN := Lib.hid hlen
  clear hlen
  have HEC := Lib.hid (end_cases k ((tx s).drop (i + 1)) H92.out)
  rcases hq with ⟨hq1, rfl⟩ | ⟨hq1, rfl, rfl⟩
  all_goals
    clear hq1
    go_enter Tryz.func85, Tryz.ntmps85
    go_upto_region 5 with (fail)
    have e2 : (0 : Int) ≤ (i : Int) + 1 := by omega
    have e3 : (i : Int) + 1 ≤ (s.size : Int) := by omega
    have e4 : ((i : Int) + 1).toNat = i + 1 := by omega
    have e1 : IntKind.i64.wrap ((i : Int) + 1) = (i : Int) + 1 := IntWalk.i64_in _ (by omega)
    go_region_with (first
      | (go_at_call 89; refine (strEndW k _ HQX.out _ (s.extract (i + 1) s.size) _ _ _ b n _ (HT.out.drew) cut_size (by rw [size_ext]; omega) (by rw [size_ext]; omega)).mono ?_; rintro e w1 ⟨rfl, hb1⟩; replace hb1 := Lib.hid (below_drew_one hb1)))
    all_goals
      clear e1 e2 e3 e4 hA2
      rw [tx_ext]
      rcases HEC.out with ⟨m, hm1, hm2, hm3, hm4⟩ | ⟨hm1, hm2⟩
      · have HN := Lib.hid (HQ.out.str hm1)
        rw [List.length_drop, tx_len] at hm4
        rw [hm2]
        have hm0 : ((m : Int) != -1) = true := bne_iff_ne.2 (by omega)
        clear hm1 hm2
        have HF := Lib.hid (rdcut (HR.out.below hb1.out) (i := i) (j := i + (m + 1)) (by omega) hi)
        go_wp2
        (try simp only [Exit.inBlock, Exit.then])
        refine bodyPost_ret (results_tmp4 rfl _ _ _) rfl ?_
        exact TypePost.ok (k := m + 1) (by rw [HK1.out]; exact HN.out) rfl (by omega) rfl (by omega) (by omega) (by omega) HF.out (below_of HB.out hb1.out)
      · have HN := Lib.hid (HQ.out.no hm1)
        have hg := ((HE.out.below hb1.out).e4).2
        rw [hm2]
        clear hm1 hm2
        go_wp2
        go_quiet (fail)
        go_wp2
        (try simp only [Exit.inBlock, Exit.then])
        refine bodyPost_ret (results_tmp4 rfl _ _ _) rfl ?_
        exact TypePost.no (by rw [HK1.out]; exact HN.out) rfl rfl (below_drewN (below_of HB.out hb1.out) _)
end Go.Proofs.YtkdkdhcjpgmjdaaGreatDoor.Jp
