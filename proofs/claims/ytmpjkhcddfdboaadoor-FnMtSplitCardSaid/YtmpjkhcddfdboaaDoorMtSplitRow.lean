/- FnMtSplit: a text that is made of what two patterns one behind the other say can be cut in two so that the first pattern matches the first part and the second the second part; any other text cannot (all in UTF-8 of at most 2^12 bytes, no pattern ending with a backslash alone). Every text and patterns; Go's tables of utf8 read as the program's text lays them (tied). -/
import Derived.Test.YtmpjkhcddfdboaaDoorRows
import Derived.Test.YtmpjkhcddfdboaaDoorCards
import Derived.Test.YtmpjkhcddfdboaaDoorTie
import Derived.Test.YtmpjkhcddfdboaaDoorShelf
import Derived.Test.YtmpjkhcddfdboaaDoorMtSplitLaw
import Derived.WalkKit
import Derived.ProofKit
import Derived.LaidMore
import Derived.Lay
import Derived.OpenShut
import Derived.ShutString
import Derived.ChangeOld
import Derived.Below
import Derived.SizedLaws
import Derived.Stop.Joined
import Derived.SevenTiedAt
import Derived.Lib.LaidU8T
namespace Go.Proofs.YtmpjkhcddfdboaaDoor.M
open Go.ChangeShapes Go.WideShapes Go.ChangeAt Go.RowKit Go.WideMaps Go.WideElems 
open Go.ChangeMaps (open_string shut_string)
set_option linter.unusedVariables false
theorem own_fnMtSplit : ownKnob Tryd.prog.godebug = none := by kernel_rfl
abbrev laidL_fnMtSplit : List (String × DataW Unit) := [("unicode/utf8.acceptRanges", Rows.laid_unicode_utf8_acceptRanges), ("unicode/utf8.first", Rows.laid_unicode_utf8_first)]
open Go.Lib in
/-- Go's two tables of utf8, as they are listed. -/
theorem tabs_of_laid {W : World} (h : laidMetH Tryd.prog laidL_fnMtSplit W) : Lib.Utf8Tabs 0 1 W := by
  rw [MakeChecks.laidMetH_plain _ _ _ (by kernel_rfl)] at h
  have h3 : VarReads Tryd.prog W "unicode/utf8.first" firstData := laidMet.reads h (by
    have e : (Go.Pinned.utf8First : DataW Unit) = firstData := by kernel_rfl
    rw [← e]; exact List.mem_cons_of_mem _ (List.mem_singleton.2 rfl))
  have h4 : VarReads Tryd.prog W "unicode/utf8.acceptRanges" acceptData := laidMet.reads h (by
    have e : (Rows.laid_unicode_utf8_acceptRanges : DataW Unit) = acceptData := by kernel_rfl
    rw [← e]; exact List.mem_cons_self)
  exact utf8Tabs_of_readsT (.of260 Tryd.lays260) { n3 := by kernel_rfl, n4 := by kernel_rfl, y3 := by kernel_rfl, y4 := by kernel_rfl, c5 := by kernel_rfl, c119 := by kernel_rfl, c138 := by kernel_rfl } h3 h4
set_option maxRecDepth 100000 in
theorem lifted_fnMtSplit (os : Os) (started : os.Started) (H : Type) (enc : TypeId × Value → H) :
    ReturnsInHanded {} Tryd.checked os 4 .any (fun w args => (Rows.fnMtSplitSpec.pre enc Tryd.prog Tryd.f4 [] false w args ∧ laidMetH Tryd.prog laidL_fnMtSplit w) ∧ sizedMet enc Tryd.prog Tryd.f4 (OpenSpec.ofChange Rows.fnMtSplitSpec) false w args)
      (Rows.fnMtSplitSpec.post enc Tryd.prog Tryd.f4 false true false false) := by
  refine returnsInHanded_of_change_and (C := Tryd.checked) (X := fun w _ => laidMetH Tryd.prog laidL_fnMtSplit w) (fun _ _ _ hh h => h.of_heap hh) own_fnMtSplit started (by kernel_rfl) Tryd.func4
    (ChangeSpec.witness_shaped (enc := enc) (C := Tryd.checked) (os := os) (X := fun w _ => laidMetH Tryd.prog laidL_fnMtSplit w) false (World.laidAll Tryd.prog os laidL_fnMtSplit) #[.string ByteArray.empty, .string ByteArray.empty, .string ByteArray.empty] 8 (World.laidAll_os _ _ _) (World.shaped_of_RefB (by kernel_rfl) (by kernel_rfl)) (by kernel_rfl) (by kernel_rfl) (by kernel_rfl) (by rw [MakeChecks.laidMetH_plain _ _ _ (by kernel_rfl)]; exact laidMet_laidAll _ (by kernel_rfl) (by kernel_rfl))) ?_
  intro W base args ds gs before hval0 hW hcnd hsz0 hL _
  have hsz : (DataW.weightsEach Tryd.prog (Tryd.f4.params.toList ++ Rows.fnMtSplitSpec.plain.varTypes Tryd.prog) (ds ++ gs)).all (· ≤ reachBytes) = true := hsz0
  have hval : ∀ (j : Nat) t v, Tryd.f4.params[j]? = some t → args[j]? = some v → Value.okWide Tryd.prog W .any base t v := hval0
  have hW' := hW
  obtain ⟨p, q, hA0, hV, rfl, hfz, hnd⟩ := hW
  have hA : DataW.TrodAll enc Tryd.prog W 0 (fun _ => true) true Tryd.f4.params.toList args.toList ds p := hA0
  rw [Tryd.params4] at hA hval hsz
  obtain ⟨v0, vs0, d0, ds0, p0, q0, hargs, rfl, rfl, h0, r0⟩ := trodAll_cons hA
  obtain ⟨v1, vs1, d1, ds1, p1, q1, rfl, rfl, rfl, h1, r1⟩ := trodAll_cons r0
  obtain ⟨v2, vs2, d2, ds2, p2, q2, rfl, rfl, rfl, h2, r2⟩ := trodAll_cons r1
  obtain ⟨rfl, rfl, rfl⟩ := trodAll_nil r2
  obtain rfl : args = #[v0, v1, v2] := by cases args; simp_all
  obtain ⟨rfl, rfl⟩ := trodVars_none hV
  obtain ⟨a0, rfl, rfl, rfl, y0⟩ := open_string Tryd.underlying9 (hval 0 9 v0 rfl rfl) h0
  have w0 : a0.size ≤ 140737488351232 := by
    have z := sized_string hsz (j := 0) (t := 9) rfl rfl
    rw [Array.length_toList] at z
    exact z
  obtain ⟨a1, rfl, rfl, rfl, y1⟩ := open_string Tryd.underlying9 (hval 1 9 v1 rfl rfl) h1
  have w1 : a1.size ≤ 140737488351232 := by
    have z := sized_string hsz (j := 1) (t := 9) rfl rfl
    rw [Array.length_toList] at z
    exact z
  obtain ⟨a2, rfl, rfl, rfl, y2⟩ := open_string Tryd.underlying9 (hval 2 9 v2 rfl rfl) h2
  have w2 : a2.size ≤ 140737488351232 := by
    have z := sized_string hsz (j := 2) (t := 9) rfl rfl
    rw [Array.length_toList] at z
    exact z
  have hT := tabs_of_laid hL
  clear hA0 hval0 hsz0 hsz
  refine (lawS a0 a1 a2 W w0 w1 w2 hT).mono fun e W' ⟨he, bel⟩ => ?_
  subst he
  exact ⟨_, rfl, _, _, _, [], _, [], hW', trodAll_mk1 (shut_bool Tryd.underlying4 _), (trodAll_cons_mk (shut_string Tryd.underlying9 y0) (trodAll_cons_mk (shut_string Tryd.underlying9 y1) (trodAll_cons_mk (shut_string Tryd.underlying9 y2) trodAll_mk0))), rfl, bel.frame _, fun h => by cases h⟩
theorem over_fnMtSplit : Rows.FnMtSplitSaid :=
  OpenClaim.holds_of_wide 4 Tryd.f4 rfl rfl rfl rfl rfl rfl rfl ⟨rfl, rfl, rfl, rfl, rfl⟩ rfl rfl rfl rfl rfl (by kernel_rfl) Tryd.func4 (by kernel_rfl)
    (of_decide_eq_true (by kernel_rfl)) (by unfold Func.isWrapper; first | (rw [if_pos (by decide +kernel)]; kernel_rfl) | (rw [if_neg (by decide +kernel)]; exact ⟨rfl, rfl⟩))
    (fun os started H enc _ => lifted_fnMtSplit os started H enc)
theorem card_fnMtSplit : Rows.FnMtSplitCardSaid :=
  Claim7.holds_tied_plain_at .later [] [.data, .pinned] true (true, "674c083a7ca4a466948860b25309306dbedd0c106e4b2fde3f587a89dc1e5e80") false
    over_fnMtSplit (fun _ h => by cases h) (by kernel_rfl) (fun _ h => by cases h) fnMtSplit_row_tie rfl ⟨rfl, rfl⟩ (by kernel_rfl) rfl
    (fun f fn hf hfn => by
      obtain rfl : f = 4 := Option.some.inj ((show Tryd.prog.funcNamed "pub-tetrapla/laws.FnMtSplit" = some 4 by kernel_rfl).symm.trans hf) |>.symm
      obtain rfl : fn = Tryd.f4 := (Option.some.inj (Tryd.func4.symm.trans hfn)).symm
      exact ⟨by kernel_rfl, fun j t ht => by
        rw [Tryd.params4] at ht
        have hm : t ∈ [9, 9, 9] := by simpa using Array.mem_of_getElem? ht
        have hall : ([9, 9, 9].all fun u => !Tryd.prog.wantsStandIn u) = true := by kernel_rfl
        exact (show Tryd.prog.wantsStandIn t = false by simpa using List.all_eq_true.1 hall t hm)⟩)
    (by kernel_rfl)
end Go.Proofs.YtmpjkhcddfdboaaDoor.M
namespace Go.Proofs.YtmpjkhcddfdboaaDoor
/-- The card, under a short name, for the claim. -/
theorem fnMtSplit_holds : Rows.FnMtSplitCardSaid := M.card_fnMtSplit
end Go.Proofs.YtmpjkhcddfdboaaDoor
