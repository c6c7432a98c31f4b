/- FnGjResultLessOf: Less of Results is an order: by the kind where the kinds differ, else of strings by the characters, of numbers by Num, of others by the raw text (Num no NaN; case counting). Every two Results. -/
import Derived.Test.YtloegbicgopmpaaRows
import Derived.Test.YtloegbicgopmpaaLessOfLaw
import Derived.Test.YtloegbicgopmpaaIsOfRow
import Derived.WalkKit
import Derived.ProofKit
import Derived.OpenShut
import Derived.ShutString
import Derived.ChangeOld
import Derived.Below
import Derived.SizedLaws
namespace Go.Proofs.Ytloegbicgopmpaa.IsOf
open Go.ChangeShapes Go.WideShapes Go.ChangeAt Go.RowKit 
open Go.ChangeMaps (open_string shut_string)
set_option linter.unusedVariables false
theorem own_fnGjResultLessOf : ownKnob Try.prog.godebug = none := by kernel_rfl
set_option maxRecDepth 100000 in
theorem lifted_fnGjResultLessOf (os : Os) (started : os.Started) (H : Type) (enc : TypeId × Value → H) :
    ReturnsInHanded {} Try.checked os 8 .any (Rows.fnGjResultLessOfSpec.pre6 enc Try.prog Try.f8 Rows.fnGjResultLessOfRow.domain false) (Rows.fnGjResultLessOfSpec.post enc Try.prog Try.f8 false true false false) := by
  refine returnsInHanded_of_change_sized (C := Try.checked) own_fnGjResultLessOf started (by kernel_rfl) Try.func8
    (ChangeSpec.witness6 (enc := enc) (C := Try.checked) false ⟨#[], #[.agg #[.int .i64 0, .string ByteArray.empty, .string ByteArray.empty, .float .f64 0, .bool false], .agg #[.int .i64 0, .string ByteArray.empty, .string ByteArray.empty, .float .f64 0, .bool false]], []⟩ 8 (by kernel_rfl) (by kernel_rfl) (by kernel_rfl) (by kernel_rfl)) ?_
  intro W base args ds gs before hval0 hW hcnd hsz0 _
  have hsz : (DataW.weightsEach Try.prog (Try.f8.params.toList ++ Rows.fnGjResultLessOfSpec.plain.varTypes Try.prog) (ds ++ gs)).all (· ≤ reachBytes) = true := hsz0
  have hval : ∀ (j : Nat) t v, Try.f8.params[j]? = some t → args[j]? = some v → Value.okWide Try.prog W .any base t v := hval0
  have hW' := hW
  obtain ⟨p, q, hA0, hV, rfl, hfz, hnd⟩ := hW
  have hA : DataW.TrodAll enc Try.prog W 0 (fun _ => true) true Try.f8.params.toList args.toList ds p := hA0
  rw [Try.params8] at hA hval hsz
  obtain ⟨v0, vs0, d0, ds0, p0, q0, hargs, rfl, rfl, h0, r0⟩ := trodAll_cons hA
  obtain ⟨v1, vs1, d1, ds1, p1, q1, rfl, rfl, rfl, h1, r1⟩ := trodAll_cons r0
  obtain ⟨rfl, rfl, rfl⟩ := trodAll_nil r1
  obtain rfl : args = #[v0, v1] := by cases args; simp_all
  obtain ⟨rfl, rfl⟩ := trodVars_none hV
  obtain ⟨k0, raw0, str0, n0, e0, rfl, za0, zb0, wk0, wn0, rfl, shut0⟩ := row24 (hval 0 24 v0 rfl rfl) h0
  obtain ⟨k1, raw1, str1, n1, e1, rfl, za1, zb1, wk1, wn1, rfl, shut1⟩ := row24 (hval 1 24 v1 rfl rfl) h1
  clear hA0 hval0 hsz0 hsz
  refine (law2r k0 raw0 str0 n0 e0 k1 raw1 str1 n1 e1 W za0 zb0 wk0 wn0 za1 zb1 wk1 wn1).mono fun e W' ⟨he, bel⟩ => ?_
  subst he
  exact ⟨_, rfl, _, _, _, [], _, [], hW', trodAll_mk1 (shut_bool Try.underlying4 _), (trodAll_cons_mk (shut0 W' _ _ _) (trodAll_cons_mk (shut1 W' _ _ _) trodAll_mk0)), rfl, bel.frame _, fun h => by cases h⟩
theorem over_fnGjResultLessOf : Rows.fnGjResultLessOfRow.holds Try.pinned (OpenSpec.ofChange Rows.fnGjResultLessOfSpec) :=
  OpenClaim.holds_of_wide 8 Try.f8 rfl rfl rfl rfl rfl rfl rfl ⟨rfl, rfl, rfl, rfl, rfl⟩ rfl rfl rfl rfl rfl (by kernel_rfl) Try.func8 (by kernel_rfl)
    (of_decide_eq_true (by kernel_rfl)) (by unfold Func.isWrapper; first | (rw [if_pos (by decide +kernel)]; kernel_rfl) | (rw [if_neg (by decide +kernel)]; exact ⟨rfl, rfl⟩))
    (fun os started H enc _ => lifted_fnGjResultLessOf os started H enc)
end Go.Proofs.Ytloegbicgopmpaa.IsOf
namespace Go.Proofs.Ytloegbicgopmpaa
/-- The row, under a short name, for the claim. -/
theorem fnGjResultLessOf_holds : Rows.FnGjResultLessOfSaid := IsOf.over_fnGjResultLessOf
end Go.Proofs.Ytloegbicgopmpaa
