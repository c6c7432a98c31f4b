/- FnGjMatchesHas: without an operator a query lets in just what exists; what does not exist no operator lets in (a text that does not begin with the tilde). Every Result, text and number; the library's variables read as the program's text lays them (tied). -/
import Derived.Test.YtclemmgfilkkgaaDoorRows
import Derived.Test.YtclemmgfilkkgaaDoorCards
import Derived.Test.YtclemmgfilkkgaaDoorTie
import Derived.Test.YtclemmgfilkkgaaDoorMhRes
import Derived.WalkKit
import Derived.ProofKit
import Derived.LaidMore
import Derived.Lay
import Derived.OpenShut
import Derived.ShutString
import Derived.ChangeOld
import Derived.Below
import Derived.SizedLaws
import Derived.Stop.Joined
import Derived.SevenTiedAt
import Derived.Lib.LaidU8
import Derived.LaidLaws
namespace Go.Proofs.YtclemmgfilkkgaaDoor.Mh
open Go.ChangeShapes Go.WideShapes Go.ChangeAt Go.RowKit Go.WideMaps Go.WideElems 
open Go.ChangeMaps (open_string shut_string)
set_option linter.unusedVariables false
theorem own_fnGjMatchesHas : ownKnob Tryd.prog.godebug = none := by kernel_rfl
abbrev laidL_fnGjMatchesHas : List (String × DataW Unit) := [("math/bits.deBruijn32tab", Rows.laid_math_bits_deBruijn32tab), ("math/bits.deBruijn64tab", Rows.laid_math_bits_deBruijn64tab), ("internal/strconv.float32info", Rows.laid_internal_strconv_float32info), ("internal/strconv.float64info", Rows.laid_internal_strconv_float64info), ("internal/strconv.optimize", Rows.laid_internal_strconv_optimize), ("internal/strconv.powtab", Rows.laid_internal_strconv_powtab), ("internal/strconv.float64pow10", Rows.laid_internal_strconv_float64pow10), ("internal/strconv.float32pow10", Rows.laid_internal_strconv_float32pow10), ("internal/strconv.uint64pow10", Rows.laid_internal_strconv_uint64pow10), ("unicode/utf8.acceptRanges", Rows.laid_unicode_utf8_acceptRanges), ("strconv.ErrRange", Rows.laid_strconv_ErrRange), ("strconv.ErrSyntax", Rows.laid_strconv_ErrSyntax), ("internal/strconv.leftcheats", Rows.laid_internal_strconv_leftcheats), ("internal/strconv.pow10Tab", Rows.laid_internal_strconv_pow10Tab), ("unicode/utf8.first", Rows.laid_unicode_utf8_first)]

set_option maxRecDepth 100000 in
theorem lifted_fnGjMatchesHas (os : Os) (started : os.Started) (H : Type) (enc : TypeId × Value → H) :
    ReturnsInHanded {} Tryd.checked os 4 .any (fun w args => (Rows.fnGjMatchesHasSpec.pre enc Tryd.prog Tryd.f4 [] false w args ∧ laidMetH Tryd.prog laidL_fnGjMatchesHas w) ∧ sizedMet enc Tryd.prog Tryd.f4 (OpenSpec.ofChange Rows.fnGjMatchesHasSpec) false w args)
      (Rows.fnGjMatchesHasSpec.post enc Tryd.prog Tryd.f4 false true false false) := by
  refine returnsInHanded_of_change_and (C := Tryd.checked) (X := fun w _ => laidMetH Tryd.prog laidL_fnGjMatchesHas w) (fun _ _ _ hh h => h.of_heap hh) own_fnGjMatchesHas started (by kernel_rfl) Tryd.func4
    (ChangeSpec.witness_shaped (enc := enc) (C := Tryd.checked) (os := os) (X := fun w _ => laidMetH Tryd.prog laidL_fnGjMatchesHas w) false (World.laidAll Tryd.prog os laidL_fnGjMatchesHas) #[.agg #[.int .i64 0, .string ByteArray.empty, .string ByteArray.empty, .float .f64 0, .bool false], .string ByteArray.empty, .int .i64 0] 8 (World.laidAll_os _ _ _) (World.shaped_of_ZipB (by as_aux_lemma => kernel_rfl) (by as_aux_lemma => kernel_rfl)) (by as_aux_lemma => kernel_rfl) (by as_aux_lemma => kernel_rfl) (by as_aux_lemma => kernel_rfl) (by rw [MakeChecks.laidMetH_plain _ _ _ (by as_aux_lemma => kernel_rfl)]; exact laidMet_laidAll _ (by as_aux_lemma => kernel_rfl) (by as_aux_lemma => kernel_rfl))) ?_
  intro W base args ds gs before hval0 hW hcnd hsz0 hL _
  have hsz : (DataW.weightsEach Tryd.prog (Tryd.f4.params.toList ++ Rows.fnGjMatchesHasSpec.plain.varTypes Tryd.prog) (ds ++ gs)).all (· ≤ reachBytes) = true := hsz0
  have hval : ∀ (j : Nat) t v, Tryd.f4.params[j]? = some t → args[j]? = some v → Value.okWide Tryd.prog W .any base t v := hval0
  have hW' := hW
  obtain ⟨p, q, hA0, hV, rfl, hfz, hnd⟩ := hW
  have hA : DataW.TrodAll enc Tryd.prog W 0 (fun _ => true) true Tryd.f4.params.toList args.toList ds p := hA0
  rw [Tryd.params4] at hA hval hsz
  obtain ⟨v0, vs0, d0, ds0, p0, q0, hargs, rfl, rfl, h0, r0⟩ := trodAll_cons hA
  obtain ⟨v1, vs1, d1, ds1, p1, q1, rfl, rfl, rfl, h1, r1⟩ := trodAll_cons r0
  obtain ⟨v2, vs2, d2, ds2, p2, q2, rfl, rfl, rfl, h2, r2⟩ := trodAll_cons r1
  obtain ⟨rfl, rfl, rfl⟩ := trodAll_nil r2
  obtain rfl : args = #[v0, v1, v2] := by cases args; simp_all
  obtain ⟨rfl, rfl⟩ := trodVars_none hV
  obtain ⟨k0, raw0, str0, n0, e0, rfl, za0, zb0, wk0, wn0, rfl, shut0⟩ := rowR (hval 0 28 v0 rfl rfl) h0
  obtain ⟨a1, rfl, rfl, rfl, y1⟩ := open_string Tryd.underlying9 (hval 1 9 v1 rfl rfl) h1
  have w1 : a1.size ≤ 140737488351232 := by
    have z := sized_string hsz (j := 1) (t := 9) rfl rfl
    rw [Array.length_toList] at z
    exact z
  obtain ⟨a2, rfl, rfl, rfl, w2⟩ := open_int Tryd.underlying3 (hval 2 3 v2 rfl rfl) h2
  clear hA0 hval0 hsz0 hsz
  refine (law k0 raw0 str0 n0 e0 a1 a2 W za0 zb0 wk0 wn0 w1 w2).mono fun e W' ⟨he, bel⟩ => ?_
  subst he
  exact ⟨_, rfl, _, _, _, [], _, [], hW', trodAll_mk1 (shut_bool Tryd.underlying4 _), (trodAll_cons_mk (shut0 W' _ _ _) (trodAll_cons_mk (shut_string Tryd.underlying9 y1) (trodAll_cons_mk (shut_int Tryd.underlying3 w2) trodAll_mk0))), rfl, bel.frame _, fun h => by cases h⟩
theorem over_fnGjMatchesHas : Rows.FnGjMatchesHasSaid :=
  OpenClaim.holds_of_wide 4 Tryd.f4 rfl rfl rfl rfl rfl rfl rfl ⟨rfl, rfl, rfl, rfl, rfl⟩ rfl rfl rfl rfl rfl (by kernel_rfl) Tryd.func4 (by kernel_rfl)
    (of_decide_eq_true (by kernel_rfl)) (by unfold Func.isWrapper; first | (rw [if_pos (by decide +kernel)]; kernel_rfl) | (rw [if_neg (by decide +kernel)]; exact ⟨rfl, rfl⟩))
    (fun os started H enc _ => lifted_fnGjMatchesHas os started H enc)
theorem card_fnGjMatchesHas : Rows.FnGjMatchesHasCardSaid :=
  Claim7.holds_tied_plain_at .later [] [.data, .data, .widerDeep, .widerDeep, .data, .data, .data, .data, .data, .data, .sentinel, .sentinel, .pinned, .pinned, .pinned] true (true, "eee098f80c9849f55dd8aafbbd630279080b0f36bc7bdbf5892cfa93773f7313") true
    over_fnGjMatchesHas (fun _ h => by cases h) (by kernel_rfl) (fun _ h => by cases h) fnGjMatchesHas_row_tie rfl ⟨rfl, rfl⟩ (by kernel_rfl) rfl
    (fun f fn hf hfn => by
      obtain rfl : f = 4 := Option.some.inj ((show Tryd.prog.funcNamed "pub-tetrapla/laws.FnGjMatchesHas" = some 4 by kernel_rfl).symm.trans hf) |>.symm
      obtain rfl : fn = Tryd.f4 := (Option.some.inj (Tryd.func4.symm.trans hfn)).symm
      exact ⟨by kernel_rfl, fun j t ht => by
        rw [Tryd.params4] at ht
        have hm : t ∈ [28, 9, 3] := by simpa using Array.mem_of_getElem? ht
        have hall : ([28, 9, 3].all fun u => !Tryd.prog.wantsStandIn u) = true := by kernel_rfl
        exact (show Tryd.prog.wantsStandIn t = false by simpa using List.all_eq_true.1 hall t hm)⟩)
    (by kernel_rfl)
end Go.Proofs.YtclemmgfilkkgaaDoor.Mh
namespace Go.Proofs.YtclemmgfilkkgaaDoor
/-- The card, under a short name, for the claim. -/
theorem fnGjMatchesHas_holds : Rows.FnGjMatchesHasCardSaid := Mh.card_fnGjMatchesHas
end Go.Proofs.YtclemmgfilkkgaaDoor
