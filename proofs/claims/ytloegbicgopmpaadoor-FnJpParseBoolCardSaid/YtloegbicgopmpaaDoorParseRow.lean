/- FnJpParseBool: ParseBoolean reads "true" and "false", and gives an error for every other text. Every text; the package variable MalformedValueError reads as the program's text lays it (tied). -/
import Derived.Test.YtloegbicgopmpaaDoorRows
import Derived.Test.YtloegbicgopmpaaDoorCards
import Derived.Test.YtloegbicgopmpaaDoorTie
import Derived.Test.YtloegbicgopmpaaDoorParse
import Derived.ProofKit
import Derived.LaidMore
import Derived.OpenShut
import Derived.ShutString
import Derived.ChangeOld
import Derived.SizedLaws
import Derived.Stop.Joined
import Derived.SevenTiedAt
namespace Go.Proofs.YtloegbicgopmpaaDoor.L
open Go.ChangeShapes Go.WideShapes Go.ChangeAt Go.RowKit Go.WideMaps Go.WideElems
open Go.ChangeMaps (open_string shut_string)
set_option linter.unusedVariables false
theorem own : ownKnob Tryd.prog.godebug = none := by kernel_rfl
abbrev laidL : List (String × DataW Unit) := [("pub-tetrapla/pub/jsonparser.MalformedValueError", Rows.laid_pub_tetrapla_pub_jsonparser_MalformedValueError)]
theorem gErr : Tryd.prog.globalNamed "pub-tetrapla/pub/jsonparser.MalformedValueError" = some 0 := by kernel_rfl
theorem tErr : (Tryd.prog.globals[0]?).map (·.type) = some 26 := by kernel_rfl
theorem door_met (os : Os) (args : Array Value) : laidMetH Tryd.prog laidL ((World.doorLaid Tryd.prog 400 os).forCall (fun _ _ => 0) ⟨#[], args, []⟩).memory :=
  laidMetH_of_parts3 (fuel := 8) (laidMet_of_run' 8 (by kernel_rfl) (by kernel_rfl)) (by kernel_rfl) (by kernel_rfl)

/-- What the condition gives the walks: the variable holds an error that is not nil. -/
theorem of_laid {W : World} (h : laidMetH Tryd.prog laidL W) : ∃ t u, W.cell? ⟨0, 0, none⟩ = some (.iface t u) ∧ 0 < W.heap.size := by
  rw [MakeChecks.laidMetH_plain _ _ _ (by kernel_rfl)] at h
  obtain ⟨ps, ⟨g0, t0, cs0, f0, p0, q0, hg0, ht0, hv0, hd0, _, _⟩, _, _⟩ := h
  obtain rfl := Option.some.inj (gErr.symm.trans hg0)
  obtain rfl := Option.some.inj (tErr.symm.trans ht0)
  have hcell := World.var?_cell hg0 hv0 0
  obtain ⟨fl, u, v, hcs, _, _⟩ := iface_of_trod (name := "*errors.errorString") Tryd.underlying26 hd0
  have e0 : cs0 = #[.iface u v] := by cases cs0; simp at hcs; simp [hcs]
  subst e0
  have hc : W.cell? ⟨0, 0, none⟩ = some (.iface u v) := by simpa using hcell
  exact ⟨u, v, hc, World.block_lt_of_cell? W ⟨0, 0, none⟩ hc⟩

set_option maxRecDepth 100000 in
theorem lifted (os : Os) (started : os.Started) (H : Type) (enc : TypeId × Value → H) :
    ReturnsInHanded {} Tryd.checked os 3 .any (fun w args => (Rows.fnJpParseBoolSpec.pre enc Tryd.prog Tryd.f3 [] false w args ∧ laidMetH Tryd.prog laidL w) ∧ sizedMet enc Tryd.prog Tryd.f3 (OpenSpec.ofChange Rows.fnJpParseBoolSpec) false w args)
      (Rows.fnJpParseBoolSpec.post enc Tryd.prog Tryd.f3 false true false false) := by
  refine returnsInHanded_of_change_and (C := Tryd.checked) (X := fun w _ => laidMetH Tryd.prog laidL w) (fun _ _ _ hh h => h.of_heap hh) own started (by kernel_rfl) Tryd.func3
    (ChangeSpec.witness_shaped (enc := enc) (C := Tryd.checked) (os := os) (X := fun w _ => laidMetH Tryd.prog laidL w) false (World.doorLaid Tryd.prog 400 os) #[.string ByteArray.empty] 8 rfl (World.shaped_of_RefB (by kernel_rfl) (by kernel_rfl)) (by kernel_rfl) (by kernel_rfl) (by kernel_rfl) (door_met os _)) ?_
  intro W base args ds gs before hval0 hW hcnd hsz0 hL _
  have hsz : (DataW.weightsEach Tryd.prog (Tryd.f3.params.toList ++ Rows.fnJpParseBoolSpec.plain.varTypes Tryd.prog) (ds ++ gs)).all (· ≤ reachBytes) = true := hsz0
  have hval : ∀ (j : Nat) t v, Tryd.f3.params[j]? = some t → args[j]? = some v → Value.okWide Tryd.prog W .any base t v := hval0
  have hW' := hW
  obtain ⟨p, q, hA0, hV, rfl, hfz, hnd⟩ := hW
  have hA : DataW.TrodAll enc Tryd.prog W 0 (fun _ => true) true Tryd.f3.params.toList args.toList ds p := hA0
  rw [Tryd.params3] at hA hval hsz
  obtain ⟨v0, vs0, d0, ds0, p0, q0, hargs, rfl, rfl, h0, r0⟩ := trodAll_cons hA
  obtain ⟨rfl, rfl, rfl⟩ := trodAll_nil r0
  obtain rfl : args = #[v0] := by cases args; simp_all
  obtain ⟨rfl, rfl⟩ := trodVars_none hV
  obtain ⟨a0, rfl, rfl, rfl, y0⟩ := open_string Tryd.underlying9 (hval 0 9 v0 rfl rfl) h0
  have w0 : a0.size ≤ 140737488351232 := by
    have z := sized_string hsz (j := 0) (t := 9) rfl rfl
    rw [Array.length_toList] at z
    exact z
  obtain ⟨t, u, hc, hz⟩ := of_laid hL
  clear hA0 hval0 hsz0 hsz
  refine (law a0 t u W w0 hc hz).mono fun e W' ⟨he, bel⟩ => ?_
  subst he
  exact ⟨_, rfl, _, _, _, [], _, [], hW', trodAll_mk1 (shut_bool Tryd.underlying4 _), (trodAll_cons_mk (shut_string Tryd.underlying9 y0) trodAll_mk0), rfl, bel.frame _, fun h => by cases h⟩

theorem over : Rows.FnJpParseBoolSaid :=
  OpenClaim.holds_of_wide 3 Tryd.f3 rfl rfl rfl rfl rfl rfl rfl ⟨rfl, rfl, rfl, rfl, rfl⟩ rfl rfl rfl rfl rfl (by kernel_rfl) Tryd.func3 (by kernel_rfl)
    (of_decide_eq_true (by kernel_rfl)) (by unfold Func.isWrapper; first | (rw [if_pos (by decide +kernel)]; kernel_rfl) | (rw [if_neg (by decide +kernel)]; exact ⟨rfl, rfl⟩))
    (fun os started H enc _ => lifted os started H enc)

theorem card_holds : Rows.FnJpParseBoolCardSaid :=
  Claim7.holds_tied_plain_at .later [] [.sentinel] true (true, "b4de6b98a526202324dc49b4e00f54af7773d9fccb69be23e08204e18aefd9dc") false
    over (fun _ h => by cases h) (by kernel_rfl) (fun _ h => by cases h) fnJpParseBool_row_tie rfl ⟨rfl, rfl⟩ (by kernel_rfl) rfl
    (fun f fn hf hfn => by
      obtain rfl : f = 3 := Option.some.inj ((show Tryd.prog.funcNamed "pub-tetrapla/laws.FnJpParseBool" = some 3 by kernel_rfl).symm.trans hf) |>.symm
      obtain rfl : fn = Tryd.f3 := (Option.some.inj (Tryd.func3.symm.trans hfn)).symm
      exact ⟨by kernel_rfl, fun j t ht => by
        rw [Tryd.params3] at ht
        have hm : t ∈ [9] := by simpa using Array.mem_of_getElem? ht
        have hall : ([9].all fun u => !Tryd.prog.wantsStandIn u) = true := by kernel_rfl
        exact (show Tryd.prog.wantsStandIn t = false by simpa using List.all_eq_true.1 hall t hm)⟩)
    (by kernel_rfl)
#print axioms card_holds
end Go.Proofs.YtloegbicgopmpaaDoor.L
namespace Go.Proofs.YtloegbicgopmpaaDoor
/-- The card, under a short name, for the claim. -/
theorem fnJpParseBool_holds : Rows.FnJpParseBoolCardSaid := L.card_holds
end Go.Proofs.YtloegbicgopmpaaDoor
