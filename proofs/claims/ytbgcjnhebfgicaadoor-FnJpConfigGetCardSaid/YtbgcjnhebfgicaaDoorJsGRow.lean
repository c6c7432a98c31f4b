/- FnJpConfigGet: over a JSON text of at most 2^16 bytes Get and GetString of a configuration with any two flags give, where keys lead to a value, what Get and GetString of the package give. Every text, keys and flags; the program's and the library's variables read as the program's text lays them (tied). -/
import Derived.Test.YtbgcjnhebfgicaaDoorRows
import Derived.Test.YtbgcjnhebfgicaaDoorCards
import Derived.Test.YtbgcjnhebfgicaaDoorTie
import Derived.Test.YtbgcjnhebfgicaaDoorJsZ
import Derived.WalkKit
import Derived.ProofKit
import Derived.LaidMore
import Derived.Lay
import Derived.OpenShut
import Derived.ShutString
import Derived.ChangeOld
import Derived.Below
import Derived.SizedLaws
import Derived.Stop.Joined
import Derived.SevenTiedAt
import Derived.Lib.LaidU8
import Derived.Lib.LaidTab
import Derived.LaidLaws
namespace Go.Proofs.YtbgcjnhebfgicaaDoor.Jp
open Go.ChangeShapes Go.WideShapes Go.ChangeAt Go.RowKit Go.WideMaps Go.WideElems L
open Go.ChangeMaps (open_string shut_string)
set_option linter.unusedVariables false
theorem own_fnJpConfigGet : ownKnob Tryd.prog.godebug = none := by kernel_rfl
abbrev laidL_fnJpConfigGet : List (String × DataW Unit) := [("math/bits.deBruijn32tab", Rows.laid_math_bits_deBruijn32tab), ("math/bits.deBruijn64tab", Rows.laid_math_bits_deBruijn64tab), ("internal/strconv.uint64pow10", Rows.laid_internal_strconv_uint64pow10), ("strconv.ErrRange", Rows.laid_strconv_ErrRange), ("strconv.ErrSyntax", Rows.laid_strconv_ErrSyntax), ("pub-tetrapla/pub/jsonparser.backslashCharEscapeTable", Rows.laid_pub_tetrapla_pub_jsonparser_backslashCharEscapeTable), ("pub-tetrapla/pub/jsonparser.KeyPathNotFoundError", Rows.laid_pub_tetrapla_pub_jsonparser_KeyPathNotFoundError), ("pub-tetrapla/pub/jsonparser.UnknownValueTypeError", Rows.laid_pub_tetrapla_pub_jsonparser_UnknownValueTypeError), ("pub-tetrapla/pub/jsonparser.MalformedJsonError", Rows.laid_pub_tetrapla_pub_jsonparser_MalformedJsonError), ("pub-tetrapla/pub/jsonparser.MalformedStringError", Rows.laid_pub_tetrapla_pub_jsonparser_MalformedStringError), ("pub-tetrapla/pub/jsonparser.MalformedArrayError", Rows.laid_pub_tetrapla_pub_jsonparser_MalformedArrayError), ("pub-tetrapla/pub/jsonparser.MalformedObjectError", Rows.laid_pub_tetrapla_pub_jsonparser_MalformedObjectError), ("pub-tetrapla/pub/jsonparser.MalformedValueError", Rows.laid_pub_tetrapla_pub_jsonparser_MalformedValueError), ("pub-tetrapla/pub/jsonparser.MalformedStringEscapeError", Rows.laid_pub_tetrapla_pub_jsonparser_MalformedStringEscapeError), ("pub-tetrapla/pub/jsonparser.NullValueError", Rows.laid_pub_tetrapla_pub_jsonparser_NullValueError)]
open Go.Lib in
/-- The package's variables, as they are listed. -/
theorem cg_of_laid {W : World} (h : laidMetH Tryd.prog laidL_fnJpConfigGet W) : ∃ T V tn vn, Errs T V W ∧ Tb W ∧ Gl W 0 tn vn := by
  rw [MakeChecks.laidMetH_plain _ _ _ (by kernel_rfl)] at h
  obtain ⟨t1, v1, g1⟩ := gl_of (laidMet.reads h (List.mem_cons_of_mem _ (List.mem_cons_of_mem _ (List.mem_cons_of_mem _ (List.mem_cons_of_mem _ (List.mem_cons_of_mem _ (List.mem_cons_of_mem _ List.mem_cons_self))))))) (g := 3) (by kernel_rfl) (by kernel_rfl)
  obtain ⟨t2, v2, g2⟩ := gl_of (laidMet.reads h (List.mem_cons_of_mem _ (List.mem_cons_of_mem _ (List.mem_cons_of_mem _ (List.mem_cons_of_mem _ (List.mem_cons_of_mem _ (List.mem_cons_of_mem _ (List.mem_cons_of_mem _ List.mem_cons_self)))))))) (g := 9) (by kernel_rfl) (by kernel_rfl)
  obtain ⟨t3, v3, g3⟩ := gl_of (laidMet.reads h (List.mem_cons_of_mem _ (List.mem_cons_of_mem _ (List.mem_cons_of_mem _ (List.mem_cons_of_mem _ (List.mem_cons_of_mem _ (List.mem_cons_of_mem _ (List.mem_cons_of_mem _ (List.mem_cons_of_mem _ List.mem_cons_self))))))))) (g := 4) (by kernel_rfl) (by kernel_rfl)
  obtain ⟨t4, v4, g4⟩ := gl_of (laidMet.reads h (List.mem_cons_of_mem _ (List.mem_cons_of_mem _ (List.mem_cons_of_mem _ (List.mem_cons_of_mem _ (List.mem_cons_of_mem _ (List.mem_cons_of_mem _ (List.mem_cons_of_mem _ (List.mem_cons_of_mem _ (List.mem_cons_of_mem _ List.mem_cons_self)))))))))) (g := 7) (by kernel_rfl) (by kernel_rfl)
  obtain ⟨t5, v5, g5⟩ := gl_of (laidMet.reads h (List.mem_cons_of_mem _ (List.mem_cons_of_mem _ (List.mem_cons_of_mem _ (List.mem_cons_of_mem _ (List.mem_cons_of_mem _ (List.mem_cons_of_mem _ (List.mem_cons_of_mem _ (List.mem_cons_of_mem _ (List.mem_cons_of_mem _ (List.mem_cons_of_mem _ List.mem_cons_self))))))))))) (g := 6) (by kernel_rfl) (by kernel_rfl)
  obtain ⟨t6, v6, g6⟩ := gl_of (laidMet.reads h (List.mem_cons_of_mem _ (List.mem_cons_of_mem _ (List.mem_cons_of_mem _ (List.mem_cons_of_mem _ (List.mem_cons_of_mem _ (List.mem_cons_of_mem _ (List.mem_cons_of_mem _ (List.mem_cons_of_mem _ (List.mem_cons_of_mem _ (List.mem_cons_of_mem _ (List.mem_cons_of_mem _ List.mem_cons_self)))))))))))) (g := 8) (by kernel_rfl) (by kernel_rfl)
  obtain ⟨t7, v7, g7⟩ := gl_of (laidMet.reads h (List.mem_cons_of_mem _ (List.mem_cons_of_mem _ (List.mem_cons_of_mem _ (List.mem_cons_of_mem _ (List.mem_cons_of_mem _ (List.mem_cons_of_mem _ (List.mem_cons_of_mem _ (List.mem_cons_of_mem _ (List.mem_cons_of_mem _ (List.mem_cons_of_mem _ (List.mem_cons_of_mem _ (List.mem_cons_of_mem _ (List.mem_cons_of_mem _ (List.mem_cons_of_mem _ (List.mem_singleton.2 rfl)))))))))))))))) (g := 0) (by kernel_rfl) (by kernel_rfl)
  have h8 : VarReads Tryd.prog W "pub-tetrapla/pub/jsonparser.backslashCharEscapeTable" (tabData .u8 escTab) := laidMet.reads h (by
    have e : (Rows.laid_pub_tetrapla_pub_jsonparser_backslashCharEscapeTable : DataW Unit) = tabData .u8 escTab := by kernel_rfl
    rw [← e]; exact (List.mem_cons_of_mem _ (List.mem_cons_of_mem _ (List.mem_cons_of_mem _ (List.mem_cons_of_mem _ (List.mem_cons_of_mem _ List.mem_cons_self))))))
  exact ⟨fun k => [0, t1, t2, t3, t4, t5, t6].getD k 0, fun k => [.nilIface, v1, v2, v3, v4, v5, v6].getD k .nilIface, t7, v7, ⟨g1, g2, g3, g4, g5, g6⟩, tb_of h8, g7⟩
set_option maxRecDepth 100000 in
theorem lifted_fnJpConfigGet (os : Os) (started : os.Started) (H : Type) (enc : TypeId × Value → H) :
    ReturnsInHanded {} Tryd.checked os 4 .any (fun w args => (Rows.fnJpConfigGetSpec.pre enc Tryd.prog Tryd.f4 [] false w args ∧ laidMetH Tryd.prog laidL_fnJpConfigGet w) ∧ sizedMet enc Tryd.prog Tryd.f4 (OpenSpec.ofChange Rows.fnJpConfigGetSpec) false w args)
      (Rows.fnJpConfigGetSpec.post enc Tryd.prog Tryd.f4 false true false false) := by
  refine returnsInHanded_of_change_and (C := Tryd.checked) (X := fun w _ => laidMetH Tryd.prog laidL_fnJpConfigGet w) (fun _ _ _ hh h => h.of_heap hh) own_fnJpConfigGet started (by kernel_rfl) Tryd.func4
    (ChangeSpec.witness_shaped (enc := enc) (C := Tryd.checked) (os := os) (X := fun w _ => laidMetH Tryd.prog laidL_fnJpConfigGet w) false (World.laidAll Tryd.prog os laidL_fnJpConfigGet) #[.string ByteArray.empty, .slice none 0 0, .bool false, .bool false] 8 (World.laidAll_os _ _ _) (World.shaped_of_RefB (by kernel_rfl) (by kernel_rfl)) (by kernel_rfl) (by kernel_rfl) (by kernel_rfl) (by rw [MakeChecks.laidMetH_plain _ _ _ (by kernel_rfl)]; exact laidMet_laidAll _ (by kernel_rfl) (by kernel_rfl))) ?_
  intro W base args ds gs before hval0 hW hcnd hsz0 hL _
  have hsz : (DataW.weightsEach Tryd.prog (Tryd.f4.params.toList ++ Rows.fnJpConfigGetSpec.plain.varTypes Tryd.prog) (ds ++ gs)).all (· ≤ reachBytes) = true := hsz0
  have hval : ∀ (j : Nat) t v, Tryd.f4.params[j]? = some t → args[j]? = some v → Value.okWide Tryd.prog W .any base t v := hval0
  have hW' := hW
  obtain ⟨p, q, hA0, hV, rfl, hfz, hnd⟩ := hW
  have hA : DataW.TrodAll enc Tryd.prog W 0 (fun _ => true) true Tryd.f4.params.toList args.toList ds p := hA0
  rw [Tryd.params4] at hA hval hsz
  obtain ⟨v0, vs0, d0, ds0, p0, q0, hargs, rfl, rfl, h0, r0⟩ := trodAll_cons hA
  obtain ⟨v1, vs1, d1, ds1, p1, q1, rfl, rfl, rfl, h1, r1⟩ := trodAll_cons r0
  obtain ⟨v2, vs2, d2, ds2, p2, q2, rfl, rfl, rfl, h2, r2⟩ := trodAll_cons r1
  obtain ⟨v3, vs3, d3, ds3, p3, q3, rfl, rfl, rfl, h3, r3⟩ := trodAll_cons r2
  obtain ⟨rfl, rfl, rfl⟩ := trodAll_nil r3
  obtain rfl : args = #[v0, v1, v2, v3] := by cases args; simp_all
  obtain ⟨rfl, rfl⟩ := trodVars_none hV
  obtain ⟨a0, rfl, rfl, rfl, y0⟩ := open_string Tryd.underlying9 (hval 0 9 v0 rfl rfl) h0
  have w0 : a0.size ≤ 140737488351232 := by
    have z := sized_string hsz (j := 0) (t := 9) rfl rfl
    rw [Array.length_toList] at z
    exact z
  obtain ⟨aA1, an1, ac1, aks1, rfl, hR1, hk1, shut1⟩ := openKeys (hval 1 29 v1 rfl rfl) h1 (fun x hx => by have := hW'.lt x (by simp [hx]); simpa using this)
  obtain ⟨a2, rfl, rfl, rfl⟩ := open_bool Tryd.underlying4 (hval 2 4 v2 rfl rfl) h2
  obtain ⟨a3, rfl, rfl, rfl⟩ := open_bool Tryd.underlying4 (hval 3 4 v3 rfl rfl) h3
  obtain ⟨T, V, tn, vn, hE, hT, hNV⟩ := cg_of_laid (show laidMetH Tryd.prog laidL_fnJpConfigGet W from hL)
  clear hA0 hval0 hsz0 hsz
  refine (lawCG T V tn vn a0 aA1 an1 ac1 aks1 a2 a3 W w0 hR1 hk1 hE hT hNV).mono fun e W' ⟨he, bel⟩ => ?_
  subst he
  exact ⟨_, rfl, _, _, _, [], _, [], hW', trodAll_mk1 (shut_bool Tryd.underlying4 _), (trodAll_cons_mk (shut_string Tryd.underlying9 y0) (trodAll_cons_mk (shut1 W' bel) (trodAll_cons_mk (shut_bool Tryd.underlying4 a2) (trodAll_cons_mk (shut_bool Tryd.underlying4 a3) trodAll_mk0)))), rfl, bel.frame _, fun h => by cases h⟩
theorem over_fnJpConfigGet : Rows.FnJpConfigGetSaid :=
  OpenClaim.holds_of_wide 4 Tryd.f4 rfl rfl rfl rfl rfl rfl rfl ⟨rfl, rfl, rfl, rfl, rfl⟩ rfl rfl rfl rfl rfl (by kernel_rfl) Tryd.func4 (by kernel_rfl)
    (of_decide_eq_true (by kernel_rfl)) (by unfold Func.isWrapper; first | (rw [if_pos (by decide +kernel)]; kernel_rfl) | (rw [if_neg (by decide +kernel)]; exact ⟨rfl, rfl⟩))
    (fun os started H enc _ => lifted_fnJpConfigGet os started H enc)
theorem card_fnJpConfigGet : Rows.FnJpConfigGetCardSaid :=
  Claim7.holds_tied_plain_at .later [] [.data, .data, .data, .sentinel, .sentinel, .data, .sentinel, .sentinel, .sentinel, .sentinel, .sentinel, .sentinel, .sentinel, .sentinel, .sentinel] true (true, "7cce8bf1db975bd2121ffb2f65a8120fd9a3ea4d5884d72af0898f1940ae9932") true
    over_fnJpConfigGet (fun _ h => by cases h) (by kernel_rfl) (fun _ h => by cases h) fnJpConfigGet_row_tie rfl ⟨rfl, rfl⟩ (by kernel_rfl) rfl
    (fun f fn hf hfn => by
      obtain rfl : f = 4 := Option.some.inj ((show Tryd.prog.funcNamed "pub-tetrapla/laws.FnJpConfigGet" = some 4 by kernel_rfl).symm.trans hf) |>.symm
      obtain rfl : fn = Tryd.f4 := (Option.some.inj (Tryd.func4.symm.trans hfn)).symm
      exact ⟨by kernel_rfl, fun j t ht => by
        rw [Tryd.params4] at ht
        have hm : t ∈ [9, 29, 4, 4] := by simpa using Array.mem_of_getElem? ht
        have hall : ([9, 29, 4, 4].all fun u => !Tryd.prog.wantsStandIn u) = true := by kernel_rfl
        exact (show Tryd.prog.wantsStandIn t = false by simpa using List.all_eq_true.1 hall t hm)⟩)
    (by kernel_rfl)
end Go.Proofs.YtbgcjnhebfgicaaDoor.Jp
namespace Go.Proofs.YtbgcjnhebfgicaaDoor
/-- The card, under a short name, for the claim. -/
theorem fnJpConfigGet_holds : Rows.FnJpConfigGetCardSaid := Jp.card_fnJpConfigGet
end Go.Proofs.YtbgcjnhebfgicaaDoor
