/- strconv.ParseUint(xs, 16, 16), the public one. -/
import Derived.Test.YtgemkbpilmmajaaDoorP16
namespace Go.Proofs.YtgemkbpilmmajaaDoor.L
open Go.RowKit
set_option linter.unusedVariables false
set_option linter.unusedSimpArgs false
set_option maxRecDepth 100000 in
theorem run_eql_err (w : World) (k : Int) : (binOp .eql 55 (.iface 120 (.int .i64 k)) (.iface 120 (.int .i64 k))).run Tryd.prog w = .ok (.bool true) w := by
  have hi := Tryd.underlying55
  have hp := Tryd.underlying120
  have hinfo : ∃ i, Tryd.prog.info? 120 = some i ∧ i.comparable = true := ⟨_, rfl, rfl⟩
  obtain ⟨i, hinfo, hcomp⟩ := hinfo
  have h : ∀ d : Nat, (Op.equalIn (d + 2) 55 (.iface 120 (.int .i64 k)) (.iface 120 (.int .i64 k))).run Tryd.prog w = .ok true w := fun d => by
    simp [Op.equalIn, run_underlying hi, run_underlying hp, typeInfo, hinfo, hcomp]
  simp only [binOp]
  simp [Op.equal, Op.maxDepth, h 9998]
/-- The library's ErrSyntax, as the row lays it. -/
def SynAt (w : World) : Prop := ∃ t v, 2 < w.heap.size ∧ w.cell? ⟨2, 0, none⟩ = some (.iface t v)
theorem SynAt.below {w w' : World} (h : SynAt w) (hb : Below w.heap.size w w') : SynAt w' := by
  obtain ⟨t, v, h1, h2⟩ := h
  exact ⟨t, v, Nat.lt_of_lt_of_le h1 hb.size, by rw [hb.cell h1]; exact h2⟩
set_option maxRecDepth 100000 in
set_option maxHeartbeats 4000000 in
theorem syntaxW (fn s : ByteArray) (w : World) (hs : s.size ≤ 1000) (hw : SynAt w) :
    Calls Tryd.prog 82 #[.string fn, .string s] w fun e w' => (∃ a, e = .returned (.pointer (some a))) ∧ Below w.heap.size w w' := by
  obtain ⟨t, v, hlt, hcell⟩ := hw
  go_enter Tryd.func82, Tryd.ntmps82
  go_wp2
  go_region_with (first
    | (go_at_call 98; go_must (refine (Tryd.stringslite_Clone s _ (by omega)).mono ?_); rintro e w' ⟨rfl, hb⟩; have hcell' := (hb.cell (p := ⟨2, 0, none⟩) hlt).trans hcell))
  all_goals go_wp2
  all_goals go_ret
  all_goals refine ⟨⟨_, rfl⟩, ?_⟩
  all_goals
    have hb' : Below w.heap.size w w' := ⟨hb.os, hb.tape, hb.output, hb.size, hb.block⟩
    exact hb'.alloc hb'.size _
set_option maxRecDepth 100000 in
set_option maxHeartbeats 4000000 in
theorem toErrorW (fn s : ByteArray) (w : World) (hs : s.size ≤ 1000) (hw : SynAt w) :
    Calls Tryd.prog 62 #[.string fn, .string s, .int .i64 16, .int .i64 16, .iface 120 (.int .i64 2)] w fun e w' => (∃ t v, e = .returned (.iface t v)) ∧ Below w.heap.size w w' := by
  have heq := run_eql_err w 2
  have HW := Lib.hid hw
  clear hw
  go_enter Tryd.func62, Tryd.ntmps62
  go_wp2_with (first
    | (go_at_call 82; go_must (refine (syntaxW fn s _ hs HW.out).mono ?_); rintro e w' ⟨⟨a, rfl⟩, hb⟩))
  go_ret
  exact ⟨⟨_, _, rfl⟩, hb⟩
/-- What the public ParseUint answers. -/
def Out16 (s : ByteArray) (e : Ending) : Prop := (hexAll s = true ∧ e = .returned (.tuple #[.int .u64 (hexN s 4), .nilIface])) ∨ (hexAll s = false ∧ ∃ t v, e = .returned (.tuple #[.int .u64 0, .iface t v]))
set_option maxRecDepth 100000 in
set_option maxHeartbeats 4000000 in
theorem parse16 (s : ByteArray) (w : World) (hs : s.size = 4) (hw : hexAll s = false → SynAt w) :
    Calls Tryd.prog 47 #[.string s, .int .i64 16, .int .i64 16] w fun e w' => Out16 s e ∧ Below w.heap.size w w' := by
  have HW := Lib.hid hw
  have HS := Lib.hid hs
  clear hw hs
  cases hx : hexAll s with
  | true =>
    have HX := Lib.hid hx
    clear hx
    go_enter Tryd.func47, Tryd.ntmps47
    go_wp2_with (first
      | (go_at_call 61; go_must (refine (inner16 s _ HS.out).mono ?_); rintro e w' ⟨hin, hb⟩; obtain ⟨-, rfl⟩ | ⟨hno, rfl⟩ := hin; case inr => exact absurd HX.out (by rw [hno]; simp)))
    go_ret2
    exact ⟨.inl ⟨HX.out, rfl⟩, hb⟩
  | false =>
    have HX := Lib.hid hx
    clear hx
    go_enter Tryd.func47, Tryd.ntmps47
    go_wp2_with (first
      | (go_at_call 61; go_must (refine (inner16 s _ HS.out).mono ?_); rintro e w' ⟨hin, hb⟩; obtain ⟨hno, rfl⟩ | ⟨-, rfl⟩ := hin; case inl => exact absurd hno (by rw [HX.out]; simp))
      | (go_at_call 62; go_must (refine (toErrorW _ s _ (by rw [HS.out]; omega) ((HW.out HX.out).below hb)).mono ?_); rintro e w'' ⟨⟨t, v, rfl⟩, hb2⟩))
    go_ret2
    exact ⟨.inr ⟨HX.out, _, _, rfl⟩, hb.trans (hb2.mono hb.size)⟩
end Go.Proofs.YtgemkbpilmmajaaDoor.L
