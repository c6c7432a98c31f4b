/- jsonparser's errors as the program's text makes them: which of them an error is. -/
import Derived.Test.YtcjgneomcnholaaDoorJpLaid
import Derived.LaidEql
import Derived.Deep.QuietTactic
namespace Go.Proofs.YtcjgneomcnholaaDoor.Jp
open Go.RowKit L Go.Lib Go.ChangeShapes Go.WideShapes Go.ChangeAt Go.WideMaps Go.WideElems
set_option linter.unusedVariables false
set_option linter.unusedSimpArgs false

/-- The errors' texts. -/
def etx : Nat → List UInt8
  | 1 => [75, 101, 121, 32, 112, 97, 116, 104, 32, 110, 111, 116, 32, 102, 111, 117, 110, 100]
  | 2 => [85, 110, 107, 110, 111, 119, 110, 32, 118, 97, 108, 117, 101, 32, 116, 121, 112, 101]
  | 3 => [77, 97, 108, 102, 111, 114, 109, 101, 100, 32, 74, 83, 79, 78, 32, 101, 114, 114, 111, 114]
  | 4 => [86, 97, 108, 117, 101, 32, 105, 115, 32, 115, 116, 114, 105, 110, 103, 44, 32, 98, 117, 116, 32, 99, 97, 110, 39, 116, 32, 102, 105, 110, 100, 32, 99, 108, 111, 115, 105, 110, 103, 32, 39, 34, 39, 32, 115, 121, 109, 98, 111, 108]
  | 5 => [86, 97, 108, 117, 101, 32, 105, 115, 32, 97, 114, 114, 97, 121, 44, 32, 98, 117, 116, 32, 99, 97, 110, 39, 116, 32, 102, 105, 110, 100, 32, 99, 108, 111, 115, 105, 110, 103, 32, 39, 93, 39, 32, 115, 121, 109, 98, 111, 108]
  | 6 => [86, 97, 108, 117, 101, 32, 108, 111, 111, 107, 115, 32, 108, 105, 107, 101, 32, 111, 98, 106, 101, 99, 116, 44, 32, 98, 117, 116, 32, 99, 97, 110, 39, 116, 32, 102, 105, 110, 100, 32, 99, 108, 111, 115, 105, 110, 103, 32, 39, 125, 39, 32, 115, 121, 109, 98, 111, 108]
  | _ => []
theorem etx_ne {i j : Nat} (hi : 1 ≤ i ∧ i ≤ 6) (hj : 1 ≤ j ∧ j ≤ 6) (h : i ≠ j) : etx i ≠ etx j := by
  have : ∀ i ∈ [1, 2, 3, 4, 5, 6], ∀ j ∈ [1, 2, 3, 4, 5, 6], i ≠ j → etx i ≠ etx j := by decide
  refine this i ?_ j ?_ h
  · simp only [List.mem_cons, List.not_mem_nil, or_false]; omega
  · simp only [List.mem_cons, List.not_mem_nil, or_false]; omega
/-- A variable's error: a pointer to its text. -/
def ErrP (w : World) (g : Nat) (a : Addr) (k : Nat) : Prop :=
  g < w.heap.size ∧ w.cell? ⟨g, 0, none⟩ = some (.iface 132 (.pointer (some a))) ∧ a.block < w.heap.size ∧ (∃ c t, w.heap[a.block]? = some (.cells c t (0, 0))) ∧ ∃ s : ByteArray, w.cell? a = some (.string s) ∧ s.data.toList = etx k
theorem ErrP.below {w w' : World} {g : Nat} {a : Addr} {k : Nat} (h : ErrP w g a k) (hb : Below w.heap.size w w') : ErrP w' g a k := by
  obtain ⟨h1, h2, h3, ⟨c, t, h4⟩, s, h5, h6⟩ := h
  exact ⟨Nat.lt_of_lt_of_le h1 hb.size, (hb.cell h1).trans h2, Nat.lt_of_lt_of_le h3 hb.size, ⟨c, t, (hb.block _ h3).trans h4⟩, s, (hb.cell h3).trans h5, h6⟩
theorem laidIn {P : Program} {w : World} : ∀ {l : List (String × DataW Unit)} {ps : List MemPlace}, DataW.LaidVars P w l ps → ∀ n d, (n, d) ∈ l →
    ∃ g t cs fuel p, P.globalNamed n = some g ∧ (P.globals[g]?).map (·.type) = some t ∧ w.var? P n = some cs ∧ DataW.trod (fun _ => ()) P w 0 (fun _ => true) false fuel t cs.toList = some (d, p) ∧ (∀ x ∈ MemPlace.row ⟨g, 0, none⟩ cs.size, x ∈ ps) ∧ ∀ x ∈ p, x ∈ ps
  | [], _, _, _, _, hm => by cases hm
  | (n', d') :: r, ps, h, n, d, hm => by
    obtain ⟨g, t, cs, fuel, p, q, h1, h2, h3, h4, h5, rfl⟩ := h
    rcases List.mem_cons.1 hm with e | e
    · cases e
      exact ⟨g, t, cs, fuel, p, h1, h2, h3, h4, fun x hx => by simp [hx], fun x hx => by simp [hx]⟩
    · obtain ⟨g', t', cs', fuel', p', k1, k2, k3, k4, k5, k6⟩ := laidIn h5 n d e
      exact ⟨g', t', cs', fuel', p', k1, k2, k3, k4, fun x hx => List.mem_append_right _ (k5 x hx), fun x hx => List.mem_append_right _ (k6 x hx)⟩
theorem star : "*" ++ "errors.errorString" = "*errors.errorString" := by decide
theorem rowE (u : TypeId) (h : Tryd.prog.typeName? 3 u = some "*errors.errorString") : u = 132 :=
  typeName_ptr_named (nm := "errors.errorString") (by rw [star]; kernel_rfl) (by kernel_rfl) (by decide) u (by rw [star]; exact h)
set_option maxRecDepth 100000 in
theorem errp_of {L : List (String × DataW Unit)} {W : World} (h : laidMet Tryd.prog L W) {nm : String} {bs : List UInt8} {g : Nat} (k : Nat) (hk : bs = etx k) (m : (nm, .iface "*errors.errorString" (.ptr (.agg [.lit (.string bs)]))) ∈ L)
    (hg0 : Tryd.prog.globalNamed nm = some g) (ht0 : (Tryd.prog.globals[g]?).map (·.type) = some 74) : ∃ a, ErrP W g a k := by
  obtain ⟨ps, hv, _, hall⟩ := h
  obtain ⟨g', t, cs, fuel, p, hg, ht, hvv, hd, hin0, hin⟩ := laidIn hv _ _ m
  obtain rfl : g = g' := Option.some.inj (hg0.symm.trans hg)
  obtain rfl : 74 = t := Option.some.inj (ht0.symm.trans ht)
  obtain ⟨f1, u, v, hcs, hname, hd2⟩ := iface_of_trod Tryd.underlying74 hd
  obtain ⟨l⟩ := cs
  have hcs' : l = [.iface u v] := hcs
  subst hcs'
  have hc : W.cell? ⟨g, 0, none⟩ = some (.iface u v) := by simpa using World.var?_cell hg hvv 0
  obtain rfl := rowE u hname
  have hok := (hall g 0 (hin0 _ (by simp [MemPlace.row]))).2 _ _ hc
  have hC : Tryd.prog.cellsOf 134 = 1 := by kernel_rfl
  rcases open_ptr Tryd.underlying132 (by rw [hC]; omega) hok ⟨f1, hd2⟩ with ⟨_, hdn, _⟩ | ⟨b, off, ds, y, f2, rfl, hdp, hps, hlen, hcell, hy⟩
  · cases hdn
  · rw [hC] at hlen hcell hps
    injection hdp with hdp
    obtain ⟨y0, n, hx, hcl, hf⟩ := trod_struct1 Tryd.underlying134 hy
    subst hx
    injection hdp with hdp
    injection hdp with hdp _
    match ds, hlen with
    | [d0], _ =>
      have c9 : Tryd.prog.cellsOf 9 = 1 := by kernel_rfl
      obtain ⟨s, e1, e2, _⟩ := DataW.trod_string Tryd.underlying9 hf
      simp [c9] at e1
      subst e1
      subst e2
      injection hdp with hdp
      injection hdp with hdp
      have hc0 := hcell 0 (by omega)
      simp only [Nat.add_zero] at hc0
      have hmem := hall b off (hin _ (by rw [hps]; simp [MemPlace.row]))
      obtain ⟨c, t, hrow⟩ := hmem.1
      exact ⟨⟨b, off, none⟩, World.block_lt_of_cell? W _ hc, hc, World.block_lt_of_cell? W _ hc0, ⟨c, t, hrow⟩, s, hc0, by rw [← hk, hdp]⟩
theorem isComp : (Tryd.prog.info? 132).map (·.comparable) = some true := by kernel_rfl
theorem isSize : (Tryd.prog.info? 134).map (·.size) = some 1 := by kernel_rfl
theorem eql_same (W : World) (a : Addr) : (binOp .eql 74 (.iface 132 (.pointer (some a))) (.iface 132 (.pointer (some a)))).run Tryd.prog W = .ok (.bool true) W := by
  obtain ⟨i, hi, hcmp⟩ := Option.map_eq_some_iff.1 isComp
  obtain ⟨j, hj, hjs⟩ := Option.map_eq_some_iff.1 isSize
  exact run_eql_iface_ptr_same (P := Tryd.prog) W a Tryd.underlying74 Tryd.underlying132 hi hcmp hj
theorem eql_other {W : World} {g1 g2 : Nat} {a b : Addr} {i j : Nat} (ha : ErrP W g1 a i) (hb : ErrP W g2 b j) (hi : 1 ≤ i ∧ i ≤ 6) (hj : 1 ≤ j ∧ j ≤ 6) (h : i ≠ j) :
    (binOp .eql 74 (.iface 132 (.pointer (some a))) (.iface 132 (.pointer (some b)))).run Tryd.prog W = .ok (.bool false) W := by
  obtain ⟨q, hq, hcmp⟩ := Option.map_eq_some_iff.1 isComp
  obtain ⟨r, hr, hrs⟩ := Option.map_eq_some_iff.1 isSize
  obtain ⟨-, -, -, ⟨c1, t1, k1⟩, s1, k2, k3⟩ := ha
  obtain ⟨-, -, -, ⟨c2, t2, l1⟩, s2, l2, l3⟩ := hb
  refine run_eql_iface_ptr_other (P := Tryd.prog) W Tryd.underlying74 Tryd.underlying132 hq hcmp hr (by rw [hrs]; decide) (fun e => ?_) k1 l1
  subst e
  rw [k2] at l2
  injection l2 with l2
  injection l2 with l2
  exact etx_ne hi hj h (by rw [← k3, ← l3, l2])
/-- The six errors. -/
structure ErrsP (a : Nat → Addr) (w : World) : Prop where
  e1 : ErrP w 1 (a 1) 1
  e2 : ErrP w 2 (a 2) 2
  e3 : ErrP w 3 (a 3) 3
  e4 : ErrP w 4 (a 4) 4
  e5 : ErrP w 5 (a 5) 5
  e6 : ErrP w 6 (a 6) 6
theorem ErrsP.below {a : Nat → Addr} {w w' : World} (h : ErrsP a w) (hb : Below w.heap.size w w') : ErrsP a w' := ⟨h.e1.below hb, h.e2.below hb, h.e3.below hb, h.e4.below hb, h.e5.below hb, h.e6.below hb⟩
theorem ErrP.gl {w : World} {g : Nat} {a : Addr} {k : Nat} (h : ErrP w g a k) : Gl w g 132 (.pointer (some a)) := ⟨h.1, h.2.1⟩
theorem ErrsP.errs {a : Nat → Addr} {w : World} (h : ErrsP a w) : Errs (fun _ => 132) (fun k => .pointer (some (a k))) w := ⟨h.e1.gl, h.e2.gl, h.e3.gl, h.e4.gl, h.e5.gl, h.e6.gl⟩
theorem jrNil (w : World) : Calls Tryd.prog 48 #[.nilIface] w fun e w' => e = .returned (.int .i64 0) ∧ w = w' := by
  go_enter Tryd.func48, Tryd.ntmps48
  go_wp2
  go_ret
  exact ⟨rfl, rfl⟩
set_option maxRecDepth 100000 in
set_option maxHeartbeats 4000000 in
theorem jrErr (a : Nat → Addr) (k : Nat) (x : Int) (hk : 2 ≤ k ∧ k ≤ 6) (hx : x = (k : Int)) (w : World) (h : ErrsP a w) :
    Calls Tryd.prog 48 #[.iface 132 (.pointer (some (a k)))] w fun e w' => e = .returned (.int .i64 x) ∧ w = w' := by
  have c1 := h.e1.2.1
  have c2 := h.e2.2.1
  have c3 := h.e3.2.1
  have c4 := h.e4.2.1
  have c5 := h.e5.2.1
  have c6 := h.e6.2.1
  rcases (by omega : k = 2 ∨ k = 3 ∨ k = 4 ∨ k = 5 ∨ k = 6) with rfl | rfl | rfl | rfl | rfl
  · obtain rfl : x = 2 := hx
    have h1 := eql_other h.e2 h.e1 (by omega) (by omega) (by omega)
    have h2 := eql_same w (a 2)
    go_enter Tryd.func48, Tryd.ntmps48
    go_wp2
    go_ret
    exact ⟨rfl, rfl⟩
  · obtain rfl : x = 3 := hx
    have h1 := eql_other h.e3 h.e1 (by omega) (by omega) (by omega)
    have h2 := eql_other h.e3 h.e2 (by omega) (by omega) (by omega)
    have h3 := eql_same w (a 3)
    go_enter Tryd.func48, Tryd.ntmps48
    go_wp2
    go_ret
    exact ⟨rfl, rfl⟩
  · obtain rfl : x = 4 := hx
    have h1 := eql_other h.e4 h.e1 (by omega) (by omega) (by omega)
    have h2 := eql_other h.e4 h.e2 (by omega) (by omega) (by omega)
    have h3 := eql_other h.e4 h.e3 (by omega) (by omega) (by omega)
    have h4 := eql_same w (a 4)
    go_enter Tryd.func48, Tryd.ntmps48
    go_wp2
    go_ret
    exact ⟨rfl, rfl⟩
  · obtain rfl : x = 5 := hx
    have h1 := eql_other h.e5 h.e1 (by omega) (by omega) (by omega)
    have h2 := eql_other h.e5 h.e2 (by omega) (by omega) (by omega)
    have h3 := eql_other h.e5 h.e3 (by omega) (by omega) (by omega)
    have h4 := eql_other h.e5 h.e4 (by omega) (by omega) (by omega)
    have h5 := eql_same w (a 5)
    go_enter Tryd.func48, Tryd.ntmps48
    go_wp2
    go_ret
    exact ⟨rfl, rfl⟩
  · obtain rfl : x = 6 := hx
    have h1 := eql_other h.e6 h.e1 (by omega) (by omega) (by omega)
    have h2 := eql_other h.e6 h.e2 (by omega) (by omega) (by omega)
    have h3 := eql_other h.e6 h.e3 (by omega) (by omega) (by omega)
    have h4 := eql_other h.e6 h.e4 (by omega) (by omega) (by omega)
    have h5 := eql_other h.e6 h.e5 (by omega) (by omega) (by omega)
    have h6 := eql_same w (a 6)
    go_enter Tryd.func48, Tryd.ntmps48
    go_wp2
    go_ret
    exact ⟨rfl, rfl⟩
end Go.Proofs.YtcjgneomcnholaaDoor.Jp
