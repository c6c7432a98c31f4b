/- The walk of jpPlaces. -/
import Derived.Test.YtkdkdhcjpgmjdaaGreatDoorJpGet2
import Derived.Test.YtkdkdhcjpgmjdaaGreatDoorPlaces
import Derived.Laws.DeepStrings4
namespace Go.Proofs.YtkdkdhcjpgmjdaaGreatDoor.Jp
open Go.RowKit L
set_option linter.unusedVariables false
set_option linter.unusedSimpArgs false

theorem B5.below {w w' : World} {g : Nat} {v0 v1 v2 v3 v4 : Value} (h : B5 w g v0 v1 v2 v3 v4) (hb : Below w.heap.size w w') : B5 w' g v0 v1 v2 v3 v4 := (hb.block g h.lt).trans h
/-- What jpPlaces answers. -/
def JpPlPost (s : ByteArray) (w : World) (e : Ending) (w' : World) : Prop :=
  Below w.heap.size w w' ∧
  ((∃ p, s.size ≤ 65536 ∧ places s = some p ∧ ∃ (k b' e' : Int) (An : Option Addr) (nn cn : Nat) (Ak : Option Addr) (nk ck : Nat), e = .returned (.tuple #[.agg #[.int .i64 k, .int .i64 b', .int .i64 e', .slice An nn cn, .slice Ak nk ck], .bool true]) ∧
      PlC w' (From w.heap.size) p [.int .i64 k, .int .i64 b', .int .i64 e', .slice An nn cn, .slice Ak nk ck]) ∨
   (e = .returned (.tuple #[.agg #[.int .i64 0, .int .i64 0, .int .i64 0, .slice none 0 0, .slice none 0 0], .bool false])))
theorem plc_vals {w : World} {B : Nat → Prop} {p : Pl} {k b e : Int} {s1 s2 : Value} (h : PlC w B p [.int .i64 k, .int .i64 b, .int .i64 e, s1, s2]) : k = (p.kind : Int) ∧ b = (p.b : Int) ∧ e = (p.e : Int) := by
  cases p with
  | mk kd b0 e0 ns ks =>
    simp only [PlC] at h
    obtain ⟨An, cn, Ak, ck, xs, h, -⟩ := h
    simp only [List.cons.injEq, Value.int.injEq, true_and] at h
    exact ⟨h.1, h.2.1, h.2.2.1⟩
theorem places_ok {s : ByteArray} {p : Pl} (h : places s = some p) : p.kind ≤ 6 ∧ p.b < p.e ∧ p.e ≤ s.size := by
  unfold places valAt at h
  split at h
  · cases h
  · rename_i j q hv
    split at h
    · injection h with h
      subst h
      have hk := vok _ _ _ _ (skip_top isBlank s (i := 0) (by omega)) hv
      obtain ⟨k1, k2, -, k4, k5, -, -, -, -, k6⟩ := hk
      exact ⟨k6, by omega, by omega⟩
    · cases h
end Go.Proofs.YtkdkdhcjpgmjdaaGreatDoor.Jp
