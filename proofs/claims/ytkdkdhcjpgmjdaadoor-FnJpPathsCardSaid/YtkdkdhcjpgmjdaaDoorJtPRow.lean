/- FnJpPaths: in a JSON text of at most 2^12 bytes no object of which has a name twice, Get finds every value in it by the names and indexes that lead to it, at its place, with its kind and text. Every text; the program's and the library's variables read as the program's text lays them (tied). -/
import Derived.Test.YtkdkdhcjpgmjdaaDoorRows
import Derived.Test.YtkdkdhcjpgmjdaaDoorCards
import Derived.Test.YtkdkdhcjpgmjdaaDoorTie
import Derived.Test.YtkdkdhcjpgmjdaaDoorJtU
import Derived.WalkKit
import Derived.ProofKit
import Derived.LaidMore
import Derived.Lay
import Derived.OpenShut
import Derived.ShutString
import Derived.ChangeOld
import Derived.Below
import Derived.SizedLaws
import Derived.Stop.Joined
import Derived.SevenTiedAt
import Derived.Lib.LaidU8
import Derived.Lib.LaidTab
import Derived.LaidLaws
namespace Go.Proofs.YtkdkdhcjpgmjdaaDoor.Jp
open Go.ChangeShapes Go.WideShapes Go.ChangeAt Go.RowKit Go.WideMaps Go.WideElems L
open Go.ChangeMaps (open_string shut_string)
set_option linter.unusedVariables false
theorem own_fnJpPaths : ownKnob Tryd.prog.godebug = none := by kernel_rfl
abbrev laidL_fnJpPaths : List (String × DataW Unit) := [("math/bits.deBruijn32tab", Rows.laid_math_bits_deBruijn32tab), ("math/bits.deBruijn64tab", Rows.laid_math_bits_deBruijn64tab), ("internal/strconv.uint64pow10", Rows.laid_internal_strconv_uint64pow10), ("strconv.ErrRange", Rows.laid_strconv_ErrRange), ("strconv.ErrSyntax", Rows.laid_strconv_ErrSyntax), ("pub-tetrapla/pub/jsonparser.DefaultConfig", Rows.laid_pub_tetrapla_pub_jsonparser_DefaultConfig), ("pub-tetrapla/pub/jsonparser.backslashCharEscapeTable", Rows.laid_pub_tetrapla_pub_jsonparser_backslashCharEscapeTable), ("pub-tetrapla/pub/jsonparser.KeyPathNotFoundError", Rows.laid_pub_tetrapla_pub_jsonparser_KeyPathNotFoundError), ("pub-tetrapla/pub/jsonparser.UnknownValueTypeError", Rows.laid_pub_tetrapla_pub_jsonparser_UnknownValueTypeError), ("pub-tetrapla/pub/jsonparser.MalformedJsonError", Rows.laid_pub_tetrapla_pub_jsonparser_MalformedJsonError), ("pub-tetrapla/pub/jsonparser.MalformedStringError", Rows.laid_pub_tetrapla_pub_jsonparser_MalformedStringError), ("pub-tetrapla/pub/jsonparser.MalformedArrayError", Rows.laid_pub_tetrapla_pub_jsonparser_MalformedArrayError), ("pub-tetrapla/pub/jsonparser.MalformedObjectError", Rows.laid_pub_tetrapla_pub_jsonparser_MalformedObjectError), ("pub-tetrapla/pub/jsonparser.MalformedStringEscapeError", Rows.laid_pub_tetrapla_pub_jsonparser_MalformedStringEscapeError)]
open Go.Lib in
/-- The package's variables, as they are listed. -/
theorem wt_of_laid {W : World} (h : laidMetH Tryd.prog laidL_fnJpPaths W) : ∃ T V, Wd T V W ∧ Tb W := by
  rw [MakeChecks.laidMetH_plain _ _ _ (by kernel_rfl)] at h
  obtain ⟨T, V, hW⟩ := wd_of h (List.mem_cons_of_mem _ (List.mem_cons_of_mem _ (List.mem_cons_of_mem _ (List.mem_cons_of_mem _ (List.mem_cons_of_mem _ List.mem_cons_self))))) (List.mem_cons_of_mem _ (List.mem_cons_of_mem _ (List.mem_cons_of_mem _ (List.mem_cons_of_mem _ (List.mem_cons_of_mem _ (List.mem_cons_of_mem _ (List.mem_cons_of_mem _ List.mem_cons_self))))))) (List.mem_cons_of_mem _ (List.mem_cons_of_mem _ (List.mem_cons_of_mem _ (List.mem_cons_of_mem _ (List.mem_cons_of_mem _ (List.mem_cons_of_mem _ (List.mem_cons_of_mem _ (List.mem_cons_of_mem _ List.mem_cons_self)))))))) (List.mem_cons_of_mem _ (List.mem_cons_of_mem _ (List.mem_cons_of_mem _ (List.mem_cons_of_mem _ (List.mem_cons_of_mem _ (List.mem_cons_of_mem _ (List.mem_cons_of_mem _ (List.mem_cons_of_mem _ (List.mem_cons_of_mem _ List.mem_cons_self))))))))) (List.mem_cons_of_mem _ (List.mem_cons_of_mem _ (List.mem_cons_of_mem _ (List.mem_cons_of_mem _ (List.mem_cons_of_mem _ (List.mem_cons_of_mem _ (List.mem_cons_of_mem _ (List.mem_cons_of_mem _ (List.mem_cons_of_mem _ (List.mem_cons_of_mem _ List.mem_cons_self)))))))))) (List.mem_cons_of_mem _ (List.mem_cons_of_mem _ (List.mem_cons_of_mem _ (List.mem_cons_of_mem _ (List.mem_cons_of_mem _ (List.mem_cons_of_mem _ (List.mem_cons_of_mem _ (List.mem_cons_of_mem _ (List.mem_cons_of_mem _ (List.mem_cons_of_mem _ (List.mem_cons_of_mem _ List.mem_cons_self))))))))))) (List.mem_cons_of_mem _ (List.mem_cons_of_mem _ (List.mem_cons_of_mem _ (List.mem_cons_of_mem _ (List.mem_cons_of_mem _ (List.mem_cons_of_mem _ (List.mem_cons_of_mem _ (List.mem_cons_of_mem _ (List.mem_cons_of_mem _ (List.mem_cons_of_mem _ (List.mem_cons_of_mem _ (List.mem_cons_of_mem _ List.mem_cons_self))))))))))))
  have h8 : VarReads Tryd.prog W "pub-tetrapla/pub/jsonparser.backslashCharEscapeTable" (tabData .u8 escTab) := laidMet.reads h (by
    have e : (Rows.laid_pub_tetrapla_pub_jsonparser_backslashCharEscapeTable : DataW Unit) = tabData .u8 escTab := by kernel_rfl
    rw [← e]; exact (List.mem_cons_of_mem _ (List.mem_cons_of_mem _ (List.mem_cons_of_mem _ (List.mem_cons_of_mem _ (List.mem_cons_of_mem _ (List.mem_cons_of_mem _ List.mem_cons_self)))))))
  exact ⟨T, V, hW, tb_of h8⟩
set_option maxRecDepth 100000 in
theorem lifted_fnJpPaths (os : Os) (started : os.Started) (H : Type) (enc : TypeId × Value → H) :
    ReturnsInHanded {} Tryd.checked os 3 .any (fun w args => (Rows.fnJpPathsSpec.pre enc Tryd.prog Tryd.f3 [] false w args ∧ laidMetH Tryd.prog laidL_fnJpPaths w) ∧ sizedMet enc Tryd.prog Tryd.f3 (OpenSpec.ofChange Rows.fnJpPathsSpec) false w args)
      (Rows.fnJpPathsSpec.post enc Tryd.prog Tryd.f3 false true false false) := by
  refine returnsInHanded_of_change_and (C := Tryd.checked) (X := fun w _ => laidMetH Tryd.prog laidL_fnJpPaths w) (fun _ _ _ hh h => h.of_heap hh) own_fnJpPaths started (by kernel_rfl) Tryd.func3
    (ChangeSpec.witness_shaped (enc := enc) (C := Tryd.checked) (os := os) (X := fun w _ => laidMetH Tryd.prog laidL_fnJpPaths w) false (World.laidAll Tryd.prog os laidL_fnJpPaths) #[.string ByteArray.empty] 8 (World.laidAll_os _ _ _) (World.shaped_of_RefB (by kernel_rfl) (by kernel_rfl)) (by kernel_rfl) (by kernel_rfl) (by kernel_rfl) (by rw [MakeChecks.laidMetH_plain _ _ _ (by kernel_rfl)]; exact laidMet_laidAll _ (by kernel_rfl) (by kernel_rfl))) ?_
  intro W base args ds gs before hval0 hW hcnd hsz0 hL _
  have hsz : (DataW.weightsEach Tryd.prog (Tryd.f3.params.toList ++ Rows.fnJpPathsSpec.plain.varTypes Tryd.prog) (ds ++ gs)).all (· ≤ reachBytes) = true := hsz0
  have hval : ∀ (j : Nat) t v, Tryd.f3.params[j]? = some t → args[j]? = some v → Value.okWide Tryd.prog W .any base t v := hval0
  have hW' := hW
  obtain ⟨p, q, hA0, hV, rfl, hfz, hnd⟩ := hW
  have hA : DataW.TrodAll enc Tryd.prog W 0 (fun _ => true) true Tryd.f3.params.toList args.toList ds p := hA0
  rw [Tryd.params3] at hA hval hsz
  obtain ⟨v0, vs0, d0, ds0, p0, q0, hargs, rfl, rfl, h0, r0⟩ := trodAll_cons hA
  obtain ⟨rfl, rfl, rfl⟩ := trodAll_nil r0
  obtain rfl : args = #[v0] := by cases args; simp_all
  obtain ⟨rfl, rfl⟩ := trodVars_none hV
  obtain ⟨a0, rfl, rfl, rfl, y0⟩ := open_string Tryd.underlying9 (hval 0 9 v0 rfl rfl) h0
  have w0 : a0.size ≤ 140737488351232 := by
    have z := sized_string hsz (j := 0) (t := 9) rfl rfl
    rw [Array.length_toList] at z
    exact z
  obtain ⟨T, V, hW9, hT9⟩ := wt_of_laid (show laidMetH Tryd.prog laidL_fnJpPaths W from hL)
  clear hA0 hval0 hsz0 hsz
  refine (lawP T V a0 W w0 hW9 hT9).mono fun e W' ⟨he, bel⟩ => ?_
  subst he
  exact ⟨_, rfl, _, _, _, [], _, [], hW', trodAll_mk1 (shut_bool Tryd.underlying4 _), (trodAll_cons_mk (shut_string Tryd.underlying9 y0) trodAll_mk0), rfl, bel.frame _, fun h => by cases h⟩
theorem over_fnJpPaths : Rows.FnJpPathsSaid :=
  OpenClaim.holds_of_wide 3 Tryd.f3 rfl rfl rfl rfl rfl rfl rfl ⟨rfl, rfl, rfl, rfl, rfl⟩ rfl rfl rfl rfl rfl (by kernel_rfl) Tryd.func3 (by kernel_rfl)
    (of_decide_eq_true (by kernel_rfl)) (by unfold Func.isWrapper; first | (rw [if_pos (by decide +kernel)]; kernel_rfl) | (rw [if_neg (by decide +kernel)]; exact ⟨rfl, rfl⟩))
    (fun os started H enc _ => lifted_fnJpPaths os started H enc)
theorem card_fnJpPaths : Rows.FnJpPathsCardSaid :=
  Claim7.holds_tied_plain_at .later [] [.data, .data, .data, .sentinel, .sentinel, .data, .data, .sentinel, .sentinel, .sentinel, .sentinel, .sentinel, .sentinel, .sentinel] true (true, "45e86692f74b928bd6b87aac831c1160593c97dce3eabeeb787dea0b6ee559dd") true
    over_fnJpPaths (fun _ h => by cases h) (by kernel_rfl) (fun _ h => by cases h) fnJpPaths_row_tie rfl ⟨rfl, rfl⟩ (by kernel_rfl) rfl
    (fun f fn hf hfn => by
      obtain rfl : f = 3 := Option.some.inj ((show Tryd.prog.funcNamed "pub-tetrapla/laws.FnJpPaths" = some 3 by kernel_rfl).symm.trans hf) |>.symm
      obtain rfl : fn = Tryd.f3 := (Option.some.inj (Tryd.func3.symm.trans hfn)).symm
      exact ⟨by kernel_rfl, fun j t ht => by
        rw [Tryd.params3] at ht
        have hm : t ∈ [9] := by simpa using Array.mem_of_getElem? ht
        have hall : ([9].all fun u => !Tryd.prog.wantsStandIn u) = true := by kernel_rfl
        exact (show Tryd.prog.wantsStandIn t = false by simpa using List.all_eq_true.1 hall t hm)⟩)
    (by kernel_rfl)
end Go.Proofs.YtkdkdhcjpgmjdaaDoor.Jp
namespace Go.Proofs.YtkdkdhcjpgmjdaaDoor
/-- The card, under a short name, for the claim. -/
theorem fnJpPaths_holds : Rows.FnJpPathsCardSaid := Jp.card_fnJpPaths
end Go.Proofs.YtkdkdhcjpgmjdaaDoor
