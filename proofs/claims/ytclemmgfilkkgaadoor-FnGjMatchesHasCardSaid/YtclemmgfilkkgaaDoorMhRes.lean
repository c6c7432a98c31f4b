/- A Result as a parameter. -/
import Derived.Test.YtclemmgfilkkgaaDoorMhOp
import Derived.Laws.Cover2
import Derived.Lib.SmallJoins
import Derived.Deep.Fields
import Derived.WalkKit
import Derived.ProofKit
import Derived.OpenShut
import Derived.ShutString
import Derived.ChangeOld
import Derived.Below
import Derived.SizedLaws
namespace Go.Proofs.YtclemmgfilkkgaaDoor.Mh
open Go.ChangeShapes Go.WideShapes Go.ChangeAt Go.RowKit Go.Joins Go.Deep
open Go.ChangeMaps (open_string shut_string)
set_option linter.unusedVariables false
section
variable {H : Type} {enc : TypeId × Value → H} {P : Program} {w : World} {base : Nat} {spare : Nat → Bool} {held : Bool}
theorem trod_float {k : FloatKind} {fuel : Nat} {t : TypeId} {cs : List Value} {x : DataW H × List MemPlace} (ht : P.underlying t = some (.float k)) (h : DataW.trod enc P w base spare held fuel t cs = some x) : ∃ n, cs = [.float k n] ∧ x = (.lit (.float k n), []) ∧ (Lit.float k n).wf = true := by
  cases fuel with
  | zero => simp [DataW.trod] at h
  | succ n =>
    unfold DataW.trod at h
    rw [ht] at h
    split at h <;> simp_all
/-- A struct of five fields of one cell each, by value. -/
theorem opened5 {r : Reach} {b0 : Nat} {t : TypeId} {f0 f1 f2 f3 f4 : Field} {v : Value} {d : DataW H} {p : List MemPlace} (hs : P.underlying t = some (.struct #[f0, f1, f2, f3, f4])) (hone : oneCellFields P #[f0, f1, f2, f3, f4] = true) (hC : P.cellsOf t = 5)
    (hv : Value.okWide P w r b0 t v) (h : DataW.Trod enc P w base spare held t v d p) :
    ∃ (v0 v1 v2 v3 v4 : Value) (y0 y1 y2 y3 y4 : DataW H × List MemPlace) (n : Nat), v = .agg #[v0, v1, v2, v3, v4] ∧ d = .agg [y0.1, y1.1, y2.1, y3.1, y4.1] ∧ p = y0.2 ++ (y1.2 ++ (y2.2 ++ (y3.2 ++ y4.2))) ∧
      DataW.trod enc P w base spare held n f0.type [v0] = some y0 ∧ DataW.trod enc P w base spare held n f1.type [v1] = some y1 ∧ DataW.trod enc P w base spare held n f2.type [v2] = some y2 ∧ DataW.trod enc P w base spare held n f3.type [v3] = some y3 ∧ DataW.trod enc P w base spare held n f4.type [v4] = some y4 := by
  obtain ⟨cs, rfl, hsz⟩ := okWide_struct hs hv
  obtain ⟨l⟩ := cs
  match l, hsz.trans hC with
  | [c0, c1, c2, c3, c4], _ =>
    obtain ⟨fuel, hf⟩ := h
    obtain ⟨xs, n, _, hx, _, hlen, hg⟩ := DataW.trod_struct hs hf
    obtain ⟨o0, k0⟩ := hone_of hone 0 f0 rfl
    obtain ⟨o1, k1⟩ := hone_of hone 1 f1 rfl
    obtain ⟨o2, k2⟩ := hone_of hone 2 f2 rfl
    obtain ⟨o3, k3⟩ := hone_of hone 3 f3 rfl
    obtain ⟨o4, k4⟩ := hone_of hone 4 f4 rfl
    match xs, hlen with
    | [y0, y1, y2, y3, y4], _ =>
      simp only [Prod.mk.injEq] at hx
      exact ⟨c0, c1, c2, c3, c4, y0, y1, y2, y3, y4, n, rfl, by simpa using hx.1, by simpa using hx.2, by simpa [Value.cells, o0, k0] using hg 0 f0 rfl, by simpa [Value.cells, o1, k1] using hg 1 f1 rfl, by simpa [Value.cells, o2, k2] using hg 2 f2 rfl, by simpa [Value.cells, o3, k3] using hg 3 f3 rfl, by simpa [Value.cells, o4, k4] using hg 4 f4 rfl⟩
end
theorem cellsR : Tryd.prog.cellsOf 28 = 5 := by kernel_rfl
set_option maxRecDepth 100000 in
theorem rowR {H : Type} {enc : TypeId × Value → H} {w : World} {base : Nat} {spare : Nat → Bool} {held : Bool} {r : Reach} {b0 : Nat} {v : Value} {d : DataW H} {p : List MemPlace}
    (hv : Value.okWide Tryd.prog w r b0 28 v) (h : DataW.Trod enc Tryd.prog w base spare held 28 v d p) :
    ∃ (k : Int) (raw str : ByteArray) (n : Nat) (e : Bool), v = .agg #[.int .i64 k, .string raw, .string str, .float .f64 n, .bool e] ∧ raw.size ≤ 9223372036854775807 ∧ str.size ≤ 9223372036854775807 ∧ (Lit.int .i64 k).wf = true ∧ (Lit.float .f64 n).wf = true ∧ p = [] ∧
      (∀ (W2 : World) (base2 : Nat) (spare2 : Nat → Bool) (held2 : Bool), DataW.Trod enc Tryd.prog W2 base2 spare2 held2 28 v d []) := by
  obtain ⟨v0, v1, v2, v3, v4, y0, y1, y2, y3, y4, n, rfl, rfl, rfl, h0, h1, h2, h3, h4⟩ := opened5 Tryd.underlying28 (by kernel_rfl) cellsR hv h
  obtain ⟨k, e0, rfl, wk⟩ := DataW.trod_int Tryd.underlying3 h0
  obtain ⟨s1, e1, rfl, z1⟩ := DataW.trod_string Tryd.underlying9 h1
  obtain ⟨s2, e2, rfl, z2⟩ := DataW.trod_string Tryd.underlying9 h2
  obtain ⟨nf, e3, rfl, wf⟩ := trod_float Tryd.underlying26 h3
  obtain ⟨b, e4, rfl⟩ := DataW.trod_bool Tryd.underlying4 h4
  simp only [List.cons.injEq, and_true] at e0 e1 e2 e3 e4
  subst e0 e1 e2 e3 e4
  refine ⟨k, s1, s2, nf, b, rfl, z1, z2, wk, wf, rfl, fun W2 base2 spare2 held2 => ⟨2, ?_⟩⟩
  have c3 : Tryd.prog.cellsOf 3 = 1 := by kernel_rfl
  have c9 : Tryd.prog.cellsOf 9 = 1 := by kernel_rfl
  have c22 : Tryd.prog.cellsOf 26 = 1 := by kernel_rfl
  have c4 : Tryd.prog.cellsOf 4 = 1 := by kernel_rfl
  simp [DataW.trod, Value.cells, Tryd.underlying28, cellsR, c3, c9, c22, c4, Tryd.underlying3, Tryd.underlying9, Tryd.underlying26, Tryd.underlying4, wk, z1, z2, wf]

/-- The law, its premises in the row's order. -/
theorem law (k : Int) (raw str : ByteArray) (n : Nat) (e : Bool) (right : ByteArray) (op : Int) (w : World) (h1 : raw.size ≤ 9223372036854775807) (h2 : str.size ≤ 9223372036854775807) (_ : (Lit.int .i64 k).wf = true) (_ : (Lit.float .f64 n).wf = true) (h3 : right.size ≤ 140737488351232) (ho : (Lit.int .i64 op).wf = true) :
    Calls Tryd.prog 4 #[.agg #[.int .i64 k, .string raw, .string str, .float .f64 n, .bool e], .string right, .int .i64 op] w fun e w' => e = .returned (.bool true) ∧ Below w.heap.size w w' := lawM k raw str n e right op w h1 h2 h3 ho
end Go.Proofs.YtclemmgfilkkgaaDoor.Mh
