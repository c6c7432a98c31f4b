/- FnFjQuoteAll: a string of any bytes (at most 1000) is written as it is between quotation marks, or as strconv.Quote writes it where a quotation mark, a backslash or a byte below 0x20 is among them. Every text; the library's tables read as the program's text lays them (tied). -/
import Derived.Test.YtdcmiggpjjdocaaDoorRows
import Derived.Test.YtdcmiggpjjdocaaDoorCards
import Derived.Test.YtdcmiggpjjdocaaDoorTie
import Derived.Test.YtdcmiggpjjdocaaDoorFqLaw
import Derived.WalkKit
import Derived.ProofKit
import Derived.LaidMore
import Derived.Lay
import Derived.OpenShut
import Derived.ShutString
import Derived.ChangeOld
import Derived.Below
import Derived.SizedLaws
import Derived.Stop.Joined
import Derived.SevenTiedAt
import Derived.Lib.LaidU8T
import Derived.Lib.LaidPrint
import Derived.LaidLaws
namespace Go.Proofs.YtdcmiggpjjdocaaDoor.L
open Go.ChangeShapes Go.WideShapes Go.ChangeAt Go.RowKit Go.WideMaps Go.WideElems 
open Go.ChangeMaps (open_string shut_string)
set_option linter.unusedVariables false
theorem own_fnFjQuoteAll : ownKnob Tryd.prog.godebug = none := by kernel_rfl
abbrev laidL_fnFjQuoteAll : List (String × DataW Unit) := [("unicode/utf8.acceptRanges", Rows.laid_unicode_utf8_acceptRanges), ("strconv.isGraphic", Rows.laid_strconv_isGraphic), ("strconv.isNotPrint16", Rows.laid_strconv_isNotPrint16), ("strconv.isNotPrint32", Rows.laid_strconv_isNotPrint32), ("strconv.isPrint16", Rows.laid_strconv_isPrint16), ("strconv.isPrint32", Rows.laid_strconv_isPrint32), ("unicode/utf8.first", Rows.laid_unicode_utf8_first)]
open Go.Lib in
/-- Go's two tables of utf8, as they are listed. -/
theorem utabs_of_laid {W : World} (h : laidMetH Tryd.prog laidL_fnFjQuoteAll W) : Utab W := by
  rw [MakeChecks.laidMetH_plain _ _ _ (by kernel_rfl)] at h
  have h3 : VarReads Tryd.prog W "unicode/utf8.first" firstData := laidMet.reads h (by
    have e : (Go.Pinned.utf8First : DataW Unit) = firstData := by kernel_rfl
    rw [← e]; exact List.mem_cons_of_mem _ (List.mem_cons_of_mem _ (List.mem_cons_of_mem _ (List.mem_cons_of_mem _ (List.mem_cons_of_mem _ (List.mem_cons_of_mem _ (List.mem_singleton.2 rfl)))))))
  have h4 : VarReads Tryd.prog W "unicode/utf8.acceptRanges" acceptData := laidMet.reads h (by
    have e : (Rows.laid_unicode_utf8_acceptRanges : DataW Unit) = acceptData := by kernel_rfl
    rw [← e]; exact List.mem_cons_self)
  exact utf8Tabs_of_readsT (.of260 Tryd.lays260) { n3 := by kernel_rfl, n4 := by kernel_rfl, y3 := by kernel_rfl, y4 := by kernel_rfl, c5 := by kernel_rfl, c119 := by kernel_rfl, c138 := by kernel_rfl } h3 h4
open Go.Lib in
/-- Go's four tables of printable characters, as they are listed. -/
theorem ptabs_of_laid {W : World} (h : laidMetH Tryd.prog laidL_fnFjQuoteAll W) : Ptab Lib.goPrintTabs W := by
  rw [MakeChecks.laidMetH_plain _ _ _ (by kernel_rfl)] at h
  have h20 : VarReads Tryd.prog W "strconv.isPrint16" (sliceData .u16 goPrintTabs.p16) := laidMet.reads h (by
    have e : (Go.Pinned.isPrint16 : DataW Unit) = sliceData .u16 goPrintTabs.p16 := by kernel_rfl
    rw [← e]; exact List.mem_cons_of_mem _ (List.mem_cons_of_mem _ (List.mem_cons_of_mem _ (List.mem_cons_of_mem _ (List.mem_cons_self)))))
  have h21 : VarReads Tryd.prog W "strconv.isNotPrint16" (sliceData .u16 goPrintTabs.n16) := laidMet.reads h (by
    have e : (Go.Pinned.isNotPrint16 : DataW Unit) = sliceData .u16 goPrintTabs.n16 := by kernel_rfl
    rw [← e]; exact List.mem_cons_of_mem _ (List.mem_cons_of_mem _ (List.mem_cons_self)))
  have h22 : VarReads Tryd.prog W "strconv.isPrint32" (sliceData .u32 goPrintTabs.p32) := laidMet.reads h (by
    have e : (Go.Pinned.isPrint32 : DataW Unit) = sliceData .u32 goPrintTabs.p32 := by kernel_rfl
    rw [← e]; exact List.mem_cons_of_mem _ (List.mem_cons_of_mem _ (List.mem_cons_of_mem _ (List.mem_cons_of_mem _ (List.mem_cons_of_mem _ (List.mem_cons_self))))))
  have h23 : VarReads Tryd.prog W "strconv.isNotPrint32" (sliceData .u16 goPrintTabs.n32) := laidMet.reads h (by
    have e : (Go.Pinned.isNotPrint32 : DataW Unit) = sliceData .u16 goPrintTabs.n32 := by kernel_rfl
    rw [← e]; exact List.mem_cons_of_mem _ (List.mem_cons_of_mem _ (List.mem_cons_of_mem _ (List.mem_cons_self))))
  exact printTabs_of_reads Tryd.lays339 { n20 := by kernel_rfl, n21 := by kernel_rfl, n22 := by kernel_rfl, n23 := by kernel_rfl, y20 := by kernel_rfl, y21 := by kernel_rfl, y22 := by kernel_rfl, y23 := by kernel_rfl, c49 := by kernel_rfl, c51 := by kernel_rfl } h20 h21 h22 h23
set_option maxRecDepth 100000 in
theorem lifted_fnFjQuoteAll (os : Os) (started : os.Started) (H : Type) (enc : TypeId × Value → H) :
    ReturnsInHanded {} Tryd.checked os 3 .any (fun w args => (Rows.fnFjQuoteAllSpec.pre enc Tryd.prog Tryd.f3 [] false w args ∧ laidMetH Tryd.prog laidL_fnFjQuoteAll w) ∧ sizedMet enc Tryd.prog Tryd.f3 (OpenSpec.ofChange Rows.fnFjQuoteAllSpec) false w args)
      (Rows.fnFjQuoteAllSpec.post enc Tryd.prog Tryd.f3 false true false false) := by
  refine returnsInHanded_of_change_and (C := Tryd.checked) (X := fun w _ => laidMetH Tryd.prog laidL_fnFjQuoteAll w) (fun _ _ _ hh h => h.of_heap hh) own_fnFjQuoteAll started (by kernel_rfl) Tryd.func3
    (ChangeSpec.witness_shaped (enc := enc) (C := Tryd.checked) (os := os) (X := fun w _ => laidMetH Tryd.prog laidL_fnFjQuoteAll w) false (World.laidAll Tryd.prog os laidL_fnFjQuoteAll) #[.string ByteArray.empty] 8 (World.laidAll_os _ _ _) (World.shaped_of_ZipB (by as_aux_lemma => kernel_rfl) (by as_aux_lemma => kernel_rfl)) (by as_aux_lemma => kernel_rfl) (by as_aux_lemma => kernel_rfl) (by as_aux_lemma => kernel_rfl) (by rw [MakeChecks.laidMetH_plain _ _ _ (by as_aux_lemma => kernel_rfl)]; exact laidMet_laidAll _ (by as_aux_lemma => kernel_rfl) (by as_aux_lemma => kernel_rfl))) ?_
  intro W base args ds gs before hval0 hW hcnd hsz0 hL _
  have hsz : (DataW.weightsEach Tryd.prog (Tryd.f3.params.toList ++ Rows.fnFjQuoteAllSpec.plain.varTypes Tryd.prog) (ds ++ gs)).all (· ≤ reachBytes) = true := hsz0
  have hval : ∀ (j : Nat) t v, Tryd.f3.params[j]? = some t → args[j]? = some v → Value.okWide Tryd.prog W .any base t v := hval0
  have hW' := hW
  obtain ⟨p, q, hA0, hV, rfl, hfz, hnd⟩ := hW
  have hA : DataW.TrodAll enc Tryd.prog W 0 (fun _ => true) true Tryd.f3.params.toList args.toList ds p := hA0
  rw [Tryd.params3] at hA hval hsz
  obtain ⟨v0, vs0, d0, ds0, p0, q0, hargs, rfl, rfl, h0, r0⟩ := trodAll_cons hA
  obtain ⟨rfl, rfl, rfl⟩ := trodAll_nil r0
  obtain rfl : args = #[v0] := by cases args; simp_all
  obtain ⟨rfl, rfl⟩ := trodVars_none hV
  obtain ⟨a0, rfl, rfl, rfl, y0⟩ := open_string Tryd.underlying9 (hval 0 9 v0 rfl rfl) h0
  have w0 : a0.size ≤ 140737488351232 := by
    have z := sized_string hsz (j := 0) (t := 9) rfl rfl
    rw [Array.length_toList] at z
    exact z
  have hT := ptabs_of_laid (show laidMetH Tryd.prog laidL_fnFjQuoteAll W from hL)
  have hU := utabs_of_laid (show laidMetH Tryd.prog laidL_fnFjQuoteAll W from hL)
  clear hA0 hval0 hsz0 hsz
  refine (lawQ Lib.goPrintTabs a0 W w0 hT hU).mono fun e W' ⟨he, bel⟩ => ?_
  subst he
  exact ⟨_, rfl, _, _, _, [], _, [], hW', trodAll_mk1 (shut_bool Tryd.underlying4 _), (trodAll_cons_mk (shut_string Tryd.underlying9 y0) trodAll_mk0), rfl, bel.frame _, fun h => by cases h⟩
theorem over_fnFjQuoteAll : Rows.FnFjQuoteAllSaid :=
  OpenClaim.holds_of_wide 3 Tryd.f3 rfl rfl rfl rfl rfl rfl rfl ⟨rfl, rfl, rfl, rfl, rfl⟩ rfl rfl rfl rfl rfl (by kernel_rfl) Tryd.func3 (by kernel_rfl)
    (of_decide_eq_true (by kernel_rfl)) (by unfold Func.isWrapper; first | (rw [if_pos (by decide +kernel)]; kernel_rfl) | (rw [if_neg (by decide +kernel)]; exact ⟨rfl, rfl⟩))
    (fun os started H enc _ => lifted_fnFjQuoteAll os started H enc)
theorem card_fnFjQuoteAll : Rows.FnFjQuoteAllCardSaid :=
  Claim7.holds_tied_plain_at .later [] [.data, .pinned, .pinned, .pinned, .pinned, .pinned, .pinned] true (true, "d1000e44b4d9753dbc62370ec353b6fa2921c18b9231b29a5d38e1a7c3ceb34a") true
    over_fnFjQuoteAll (fun _ h => by cases h) (by kernel_rfl) (fun _ h => by cases h) fnFjQuoteAll_row_tie rfl ⟨rfl, rfl⟩ (by kernel_rfl) rfl
    (fun f fn hf hfn => by
      obtain rfl : f = 3 := Option.some.inj ((show Tryd.prog.funcNamed "pub-tetrapla/laws.FnFjQuoteAll" = some 3 by kernel_rfl).symm.trans hf) |>.symm
      obtain rfl : fn = Tryd.f3 := (Option.some.inj (Tryd.func3.symm.trans hfn)).symm
      exact ⟨by kernel_rfl, fun j t ht => by
        rw [Tryd.params3] at ht
        have hm : t ∈ [9] := by simpa using Array.mem_of_getElem? ht
        have hall : ([9].all fun u => !Tryd.prog.wantsStandIn u) = true := by kernel_rfl
        exact (show Tryd.prog.wantsStandIn t = false by simpa using List.all_eq_true.1 hall t hm)⟩)
    (by kernel_rfl)
end Go.Proofs.YtdcmiggpjjdocaaDoor.L
namespace Go.Proofs.YtdcmiggpjjdocaaDoor
/-- The card, under a short name, for the claim. -/
theorem fnFjQuoteAll_holds : Rows.FnFjQuoteAllCardSaid := L.card_fnFjQuoteAll
end Go.Proofs.YtdcmiggpjjdocaaDoor
