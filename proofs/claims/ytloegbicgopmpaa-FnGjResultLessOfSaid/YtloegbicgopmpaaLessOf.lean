/- FnGjResultLessOf: the walks. -/
import Derived.Test.YtloegbicgopmpaaIsOfLaw
import Derived.Laws.Cover2
namespace Go.Proofs.Ytloegbicgopmpaa.IsOf
open Go.RowKit Go.Proofs.YtloegbicgopmpaaW.PrintWords
set_option linter.unusedVariables false
attribute [local go_sem] store_float

def lessB (k k' : Int) (raw str raw' str' : ByteArray) (n n' : Nat) : Bool :=
  if k < k' then true else if k' < k then false else if k = 3 then Op.bytesLess str.toList str'.toList else if k = 2 then (FloatKind.f64.format.order n n' == some .lt) else Op.bytesLess raw.toList raw'.toList

theorem less (k k' : Int) (raw str raw' str' : ByteArray) (n n' : Nat) (w : World) :
    Calls Try.prog 40 #[.agg #[.int .i64 k, .string raw, .string str, .float .f64 n, .int .i64 0, .slice none 0 0], .agg #[.int .i64 k', .string raw', .string str', .float .f64 n', .int .i64 0, .slice none 0 0], .bool true] w fun en w' => en = .returned (.bool (lessB k k' raw str raw' str' n n')) ∧ Below w.heap.size w w' := by
  have hb : ∀ o o' : Obj, Below w.heap.size w ((w.alloc o).alloc o') := fun o o' => below_alloc (below_alloc (Below.refl _ _) _) _
  by_cases c1 : k < k'
  · have e : lessB k k' raw str raw' str' n n' = true := by simp [lessB, c1]
    rw [e]
    clear e
    go_enter Try.func40, Try.ntmps40
    go_wp2
    go_ret
    exact ⟨by simp, hb _ _⟩
  · by_cases c2 : k' < k
    · have e : lessB k k' raw str raw' str' n n' = false := by simp [lessB, c1, c2]
      rw [e]
      clear e
      go_enter Try.func40, Try.ntmps40
      go_wp2
      go_ret
      exact ⟨by simp, hb _ _⟩
    · obtain rfl : k = k' := by omega
      by_cases c3 : k = 3
      · subst c3
        go_enter Try.func40, Try.ntmps40
        go_wp2
        go_ret
        exact ⟨by simp [lessB], hb _ _⟩
      · by_cases c4 : k = 2
        · subst c4
          go_enter Try.func40, Try.ntmps40
          go_wp2
          go_ret
          exact ⟨by simp [lessB], hb _ _⟩
        · go_enter Try.func40, Try.ntmps40
          go_wp2
          go_ret
          exact ⟨by simp [lessB, c3, c4], hb _ _⟩

theorem keep10 {g g' : Nat} {v0 v1 v2 v3 v4 u0 u1 u2 u3 u4 : Value} {w w1 w2 : World}
    (h : w1.cell? ⟨g, 0, none⟩ = some v0 ∧ w1.cell? ⟨g, 1, none⟩ = some v1 ∧ w1.cell? ⟨g, 2, none⟩ = some v2 ∧ w1.cell? ⟨g, 3, none⟩ = some v3 ∧ w1.cell? ⟨g, 4, none⟩ = some v4 ∧
      w1.cell? ⟨g', 0, none⟩ = some u0 ∧ w1.cell? ⟨g', 1, none⟩ = some u1 ∧ w1.cell? ⟨g', 2, none⟩ = some u2 ∧ w1.cell? ⟨g', 3, none⟩ = some u3 ∧ w1.cell? ⟨g', 4, none⟩ = some u4 ∧ g < w1.heap.size ∧ g' < w1.heap.size ∧ Below w.heap.size w w1) (hb : Below w1.heap.size w1 w2) :
    w2.cell? ⟨g, 0, none⟩ = some v0 ∧ w2.cell? ⟨g, 1, none⟩ = some v1 ∧ w2.cell? ⟨g, 2, none⟩ = some v2 ∧ w2.cell? ⟨g, 3, none⟩ = some v3 ∧ w2.cell? ⟨g, 4, none⟩ = some v4 ∧
      w2.cell? ⟨g', 0, none⟩ = some u0 ∧ w2.cell? ⟨g', 1, none⟩ = some u1 ∧ w2.cell? ⟨g', 2, none⟩ = some u2 ∧ w2.cell? ⟨g', 3, none⟩ = some u3 ∧ w2.cell? ⟨g', 4, none⟩ = some u4 ∧ g < w2.heap.size ∧ g' < w2.heap.size ∧ Below w.heap.size w w2 := by
  obtain ⟨h0, h1, h2, h3, h4, j0, j1, j2, j3, j4, hg, hg', hB⟩ := h
  have hc := (bcell hb).1
  refine ⟨?_, ?_, ?_, ?_, ?_, ?_, ?_, ?_, ?_, ?_, Nat.lt_of_lt_of_le hg hb.size, Nat.lt_of_lt_of_le hg' hb.size, below_then hB hB.size hb⟩
  all_goals first | (rw [hc _ _ hg]; assumption) | (rw [hc _ _ hg']; assumption)

set_option maxHeartbeats 1000000 in
theorem lessR (k k' : Int) (raw str raw' str' : ByteArray) (n n' : Nat) (e e' : Bool) (w : World) :
    Calls Try.prog 20 #[.agg #[.int .i64 k, .string raw, .string str, .float .f64 n, .bool e], .agg #[.int .i64 k', .string raw', .string str', .float .f64 n', .bool e'], .bool true] w fun en w' => en = .returned (.bool (lessB k k' raw str raw' str' n n')) ∧ Below w.heap.size w w' := by
  go_enter Try.func20, Try.ntmps20
  go_wp2
  have hB : Below w.heap.size w ((w.alloc (Obj.cells #[Value.int IntKind.i64 k, Value.string raw, Value.string str, Value.float FloatKind.f64 n, Value.bool e] 24)).alloc (Obj.cells #[Value.int IntKind.i64 k', Value.string raw', Value.string str', Value.float FloatKind.f64 n', Value.bool e'] 24)) := below_alloc (below_alloc (Below.refl _ _) _) _
  go_region_held3 (fun w2 => w2.cell? ⟨w.heap.size, 0, none⟩ = some (.int .i64 k) ∧ w2.cell? ⟨w.heap.size, 1, none⟩ = some (.string raw) ∧ w2.cell? ⟨w.heap.size, 2, none⟩ = some (.string str) ∧ w2.cell? ⟨w.heap.size, 3, none⟩ = some (.float .f64 n) ∧ w2.cell? ⟨w.heap.size, 4, none⟩ = some (.bool e) ∧
      w2.cell? ⟨w.heap.size + 1, 0, none⟩ = some (.int .i64 k') ∧ w2.cell? ⟨w.heap.size + 1, 1, none⟩ = some (.string raw') ∧ w2.cell? ⟨w.heap.size + 1, 2, none⟩ = some (.string str') ∧ w2.cell? ⟨w.heap.size + 1, 3, none⟩ = some (.float .f64 n') ∧ w2.cell? ⟨w.heap.size + 1, 4, none⟩ = some (.bool e') ∧ w.heap.size < w2.heap.size ∧ w.heap.size + 1 < w2.heap.size ∧ Below w.heap.size w w2)
    (first | exact ⟨by simp, by simp, by simp, by simp, by simp, by simp, by simp, by simp, by simp, by simp, by simp; omega, by simp, below_drew hB⟩ | exact keep10 ‹_› ‹_›)
    (first | (go_at_call 28; refine (gjOf _ _ _ _ _ _).mono ?_; rintro en w3 ⟨rfl, hb3⟩) | (go_at_call 40; refine (less k k' raw str raw' str' n n' _).mono ?_; rintro en w3 ⟨rfl, hb3⟩))
  go_wp2
  go_ret
  exact ⟨rfl, by simp_all⟩

end Go.Proofs.Ytloegbicgopmpaa.IsOf
