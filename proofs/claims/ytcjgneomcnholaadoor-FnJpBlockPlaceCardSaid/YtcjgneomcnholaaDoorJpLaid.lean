/- jsonparser's variables, as a row lists them. -/
import Derived.Test.YtcjgneomcnholaaDoorJpGet2
import Derived.Lib.LaidU8
import Derived.LaidLaws
import Derived.LaidMore
import Derived.Lay
import Derived.ChangeOld
import Derived.ChangeAt
namespace Go.Proofs.YtcjgneomcnholaaDoor.Jp
open Go.RowKit L Go.Lib Go.ChangeShapes Go.WideShapes Go.ChangeAt Go.WideMaps Go.WideElems
set_option linter.unusedVariables false

theorem gl_of {W : World} {nm tn : String} {g : Nat} {y : DataW Unit} (hr : VarReads Tryd.prog W nm (.iface tn y)) (hg0 : Tryd.prog.globalNamed nm = some g) (ht0 : (Tryd.prog.globals[g]?).map (·.type) = some 74) : ∃ t v, Gl W g t v := by
  obtain ⟨g', t, cs, fuel, p, hg, ht, hv, hd⟩ := hr
  obtain rfl : g = g' := Option.some.inj (hg0.symm.trans hg)
  obtain rfl : 74 = t := Option.some.inj (ht0.symm.trans ht)
  obtain ⟨f1, u, v, hcs, -, -⟩ := iface_of_trod Tryd.underlying74 hd
  obtain ⟨l⟩ := cs
  have hcs' : l = [.iface u v] := hcs
  subst hcs'
  have hc : W.cell? ⟨g, 0, none⟩ = some (.iface u v) := by simpa using World.var?_cell hg hv 0
  exact ⟨u, v, World.block_lt_of_cell? W _ hc, hc⟩
set_option maxRecDepth 100000 in
theorem cfg_of {W : World} (hr : VarReads Tryd.prog W "pub-tetrapla/pub/jsonparser.DefaultConfig" (.agg [.lit (.bool false), .lit (.bool false), .lit (.int .i64 0)])) :
    0 < W.heap.size ∧ W.cell? ⟨0, 0, none⟩ = some (.bool false) ∧ W.cell? ⟨0, 1, none⟩ = some (.bool false) ∧ W.cell? ⟨0, 2, none⟩ = some (.int .i64 0) := by
  obtain ⟨g', t, cs, fuel, p, hg, ht, hv, hd⟩ := hr
  obtain rfl : 0 = g' := Option.some.inj ((show Tryd.prog.globalNamed "pub-tetrapla/pub/jsonparser.DefaultConfig" = some 0 by kernel_rfl).symm.trans hg)
  obtain rfl : 91 = t := Option.some.inj ((show (Tryd.prog.globals[0]?).map (·.type) = some 91 by kernel_rfl).symm.trans ht)
  obtain ⟨xs, n, _, hx, hcl, hlen, hf⟩ := DataW.trod_struct Tryd.underlying91 hd
  have hC : Tryd.prog.cellsOf 91 = 3 := by kernel_rfl
  have cB : Tryd.prog.cellsOf 4 = 1 := by kernel_rfl
  have cI : Tryd.prog.cellsOf 3 = 1 := by kernel_rfl
  match xs, hlen with
  | [y0, y1, y2], _ =>
    have h0 := hf 0 _ rfl
    have h1 := hf 1 _ rfl
    have h2 := hf 2 _ rfl
    obtain ⟨b0, e0, rfl⟩ := DataW.trod_bool Tryd.underlying4 h0
    obtain ⟨b1, e1, rfl⟩ := DataW.trod_bool Tryd.underlying4 h1
    obtain ⟨n2, e2, rfl, _⟩ := DataW.trod_int Tryd.underlying3 h2
    simp only [Prod.mk.injEq, List.map_cons, List.map_nil] at hx
    have hx1 := hx.1
    injection hx1 with hx1
    injection hx1 with a0 hx1
    injection hx1 with a1 hx1
    injection hx1 with a2 _
    injection a0 with a0
    injection a0 with a0
    injection a1 with a1
    injection a1 with a1
    injection a2 with a2
    injection a2 with _ a2
    subst a0 a1 a2
    obtain ⟨l⟩ := cs
    rw [hC] at hcl
    match l, hcl with
    | [c0, c1, c2], _ =>
      simp [cB, cI] at e0 e1 e2
      subst e0 e1 e2
      have hc := World.var?_cell hg hv
      have hc0 := hc 0
      exact ⟨World.block_lt_of_cell? W _ (hc 0), hc 0, hc 1, hc 2⟩
/-- The seven variables. -/
theorem wd_of {L : List (String × DataW Unit)} {W : World} (h : laidMet Tryd.prog L W)
    (m0 : ("pub-tetrapla/pub/jsonparser.DefaultConfig", .agg [.lit (.bool false), .lit (.bool false), .lit (.int .i64 0)]) ∈ L) {n1 n2 n3 n4 n5 n6 : String} {d1 d2 d3 d4 d5 d6 : DataW Unit}
    (m1 : ("pub-tetrapla/pub/jsonparser.KeyPathNotFoundError", .iface n1 d1) ∈ L) (m2 : ("pub-tetrapla/pub/jsonparser.UnknownValueTypeError", .iface n2 d2) ∈ L) (m3 : ("pub-tetrapla/pub/jsonparser.MalformedJsonError", .iface n3 d3) ∈ L)
    (m4 : ("pub-tetrapla/pub/jsonparser.MalformedStringError", .iface n4 d4) ∈ L) (m5 : ("pub-tetrapla/pub/jsonparser.MalformedArrayError", .iface n5 d5) ∈ L) (m6 : ("pub-tetrapla/pub/jsonparser.MalformedObjectError", .iface n6 d6) ∈ L) : ∃ T V, Wd T V W := by
  obtain ⟨c1, c2, c3, c4⟩ := cfg_of (laidMet.reads h m0)
  obtain ⟨t1, v1, g1⟩ := gl_of (laidMet.reads h m1) (g := 1) (by kernel_rfl) (by kernel_rfl)
  obtain ⟨t2, v2, g2⟩ := gl_of (laidMet.reads h m2) (g := 2) (by kernel_rfl) (by kernel_rfl)
  obtain ⟨t3, v3, g3⟩ := gl_of (laidMet.reads h m3) (g := 3) (by kernel_rfl) (by kernel_rfl)
  obtain ⟨t4, v4, g4⟩ := gl_of (laidMet.reads h m4) (g := 4) (by kernel_rfl) (by kernel_rfl)
  obtain ⟨t5, v5, g5⟩ := gl_of (laidMet.reads h m5) (g := 5) (by kernel_rfl) (by kernel_rfl)
  obtain ⟨t6, v6, g6⟩ := gl_of (laidMet.reads h m6) (g := 6) (by kernel_rfl) (by kernel_rfl)
  exact ⟨fun k => [0, t1, t2, t3, t4, t5, t6].getD k 0, fun k => [.nilIface, v1, v2, v3, v4, v5, v6].getD k .nilIface, ⟨g1, g2, g3, g4, g5, g6⟩, c1, c2, c3, c4⟩
end Go.Proofs.YtcjgneomcnholaaDoor.Jp
