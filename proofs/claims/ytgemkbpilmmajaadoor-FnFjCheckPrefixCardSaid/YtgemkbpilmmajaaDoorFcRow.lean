/- FnFjCheckPrefix: what the check of a value takes it takes alone, too, and leaves nothing then; what it leaves is the end of the text. Every text; the library's variables read as the program's text lays them (tied). -/
import Derived.Test.YtgemkbpilmmajaaDoorRows
import Derived.Test.YtgemkbpilmmajaaDoorCards
import Derived.Test.YtgemkbpilmmajaaDoorTie
import Derived.Test.YtgemkbpilmmajaaDoorFcLaw
import Derived.WalkKit
import Derived.ProofKit
import Derived.LaidMore
import Derived.Lay
import Derived.OpenShut
import Derived.ShutString
import Derived.ChangeOld
import Derived.Below
import Derived.SizedLaws
import Derived.Stop.Joined
import Derived.SevenTiedAt
import Derived.Lib.LaidU8
import Derived.LaidLaws
namespace Go.Proofs.YtgemkbpilmmajaaDoor.Fc
open Go.ChangeShapes Go.WideShapes Go.ChangeAt Go.RowKit Go.WideMaps Go.WideElems L
open Go.ChangeMaps (open_string shut_string)
set_option linter.unusedVariables false
theorem own_fnFjCheckPrefix : ownKnob Tryd.prog.godebug = none := by kernel_rfl
abbrev laidL_fnFjCheckPrefix : List (String × DataW Unit) := [("math/bits.deBruijn32tab", Rows.laid_math_bits_deBruijn32tab), ("math/bits.deBruijn64tab", Rows.laid_math_bits_deBruijn64tab), ("internal/strconv.uint64pow10", Rows.laid_internal_strconv_uint64pow10), ("strconv.ErrRange", Rows.laid_strconv_ErrRange), ("strconv.ErrSyntax", Rows.laid_strconv_ErrSyntax)]
open Go.Lib in
/-- The library's ErrSyntax, as it is listed. -/
theorem syn_of_laid {W : World} (h : laidMetH Tryd.prog laidL_fnFjCheckPrefix W) : SynAt W := by
  rw [MakeChecks.laidMetH_plain _ _ _ (by kernel_rfl)] at h
  obtain ⟨g, t, cs, fuel, p, hg, ht, hv, hd⟩ := laidMet.reads h (n := "strconv.ErrSyntax") (d := Rows.laid_strconv_ErrSyntax) (List.mem_cons_of_mem _ (List.mem_cons_of_mem _ (List.mem_cons_of_mem _ (List.mem_cons_of_mem _ (List.mem_singleton.2 rfl)))))
  obtain rfl : 2 = g := Option.some.inj ((show Tryd.prog.globalNamed "strconv.ErrSyntax" = some 2 by kernel_rfl).symm.trans hg)
  obtain rfl : 55 = t := Option.some.inj ((show (Tryd.prog.globals[2]?).map (·.type) = some 55 by kernel_rfl).symm.trans ht)
  obtain ⟨f1, u, v, hcs, -, -⟩ := iface_of_trod Tryd.underlying55 hd
  obtain ⟨l⟩ := cs
  have hcs' : l = [.iface u v] := hcs
  subst hcs'
  have hc : W.cell? ⟨2, 0, none⟩ = some (.iface u v) := by simpa using World.var?_cell hg hv 0
  exact ⟨u, v, World.block_lt_of_cell? W _ hc, hc⟩
set_option maxRecDepth 100000 in
theorem lifted_fnFjCheckPrefix (os : Os) (started : os.Started) (H : Type) (enc : TypeId × Value → H) :
    ReturnsInHanded {} Tryd.checked os 7 .any (fun w args => (Rows.fnFjCheckPrefixSpec.pre enc Tryd.prog Tryd.f7 [] false w args ∧ laidMetH Tryd.prog laidL_fnFjCheckPrefix w) ∧ sizedMet enc Tryd.prog Tryd.f7 (OpenSpec.ofChange Rows.fnFjCheckPrefixSpec) false w args)
      (Rows.fnFjCheckPrefixSpec.post enc Tryd.prog Tryd.f7 false true false false) := by
  refine returnsInHanded_of_change_and (C := Tryd.checked) (X := fun w _ => laidMetH Tryd.prog laidL_fnFjCheckPrefix w) (fun _ _ _ hh h => h.of_heap hh) own_fnFjCheckPrefix started (by kernel_rfl) Tryd.func7
    (ChangeSpec.witness_shaped (enc := enc) (C := Tryd.checked) (os := os) (X := fun w _ => laidMetH Tryd.prog laidL_fnFjCheckPrefix w) false (World.laidAll Tryd.prog os laidL_fnFjCheckPrefix) #[.string ByteArray.empty] 8 (World.laidAll_os _ _ _) (World.shaped_of_RefB (by kernel_rfl) (by kernel_rfl)) (by kernel_rfl) (by kernel_rfl) (by kernel_rfl) (by rw [MakeChecks.laidMetH_plain _ _ _ (by kernel_rfl)]; exact laidMet_laidAll _ (by kernel_rfl) (by kernel_rfl))) ?_
  intro W base args ds gs before hval0 hW hcnd hsz0 hL _
  have hsz : (DataW.weightsEach Tryd.prog (Tryd.f7.params.toList ++ Rows.fnFjCheckPrefixSpec.plain.varTypes Tryd.prog) (ds ++ gs)).all (· ≤ reachBytes) = true := hsz0
  have hval : ∀ (j : Nat) t v, Tryd.f7.params[j]? = some t → args[j]? = some v → Value.okWide Tryd.prog W .any base t v := hval0
  have hW' := hW
  obtain ⟨p, q, hA0, hV, rfl, hfz, hnd⟩ := hW
  have hA : DataW.TrodAll enc Tryd.prog W 0 (fun _ => true) true Tryd.f7.params.toList args.toList ds p := hA0
  rw [Tryd.params7] at hA hval hsz
  obtain ⟨v0, vs0, d0, ds0, p0, q0, hargs, rfl, rfl, h0, r0⟩ := trodAll_cons hA
  obtain ⟨rfl, rfl, rfl⟩ := trodAll_nil r0
  obtain rfl : args = #[v0] := by cases args; simp_all
  obtain ⟨rfl, rfl⟩ := trodVars_none hV
  obtain ⟨a0, rfl, rfl, rfl, y0⟩ := open_string Tryd.underlying9 (hval 0 9 v0 rfl rfl) h0
  have w0 : a0.size ≤ 140737488351232 := by
    have z := sized_string hsz (j := 0) (t := 9) rfl rfl
    rw [Array.length_toList] at z
    exact z
  have hSyn := syn_of_laid (show laidMetH Tryd.prog laidL_fnFjCheckPrefix W from hL)
  clear hA0 hval0 hsz0 hsz
  refine (lawC a0 W w0 hSyn).mono fun e W' ⟨he, bel⟩ => ?_
  subst he
  exact ⟨_, rfl, _, _, _, [], _, [], hW', trodAll_mk1 (shut_bool Tryd.underlying4 _), (trodAll_cons_mk (shut_string Tryd.underlying9 y0) trodAll_mk0), rfl, bel.frame _, fun h => by cases h⟩
theorem over_fnFjCheckPrefix : Rows.FnFjCheckPrefixSaid :=
  OpenClaim.holds_of_wide 7 Tryd.f7 rfl rfl rfl rfl rfl rfl rfl ⟨rfl, rfl, rfl, rfl, rfl⟩ rfl rfl rfl rfl rfl (by kernel_rfl) Tryd.func7 (by kernel_rfl)
    (of_decide_eq_true (by kernel_rfl)) (by unfold Func.isWrapper; first | (rw [if_pos (by decide +kernel)]; kernel_rfl) | (rw [if_neg (by decide +kernel)]; exact ⟨rfl, rfl⟩))
    (fun os started H enc _ => lifted_fnFjCheckPrefix os started H enc)
theorem card_fnFjCheckPrefix : Rows.FnFjCheckPrefixCardSaid :=
  Claim7.holds_tied_plain_at .later [] [.data, .data, .data, .sentinel, .sentinel] true (true, "24a2434d702c683c04866cd17cae9f12ef73f8db7cad9a754257a21a7542ced2") true
    over_fnFjCheckPrefix (fun _ h => by cases h) (by kernel_rfl) (fun _ h => by cases h) fnFjCheckPrefix_row_tie rfl ⟨rfl, rfl⟩ (by kernel_rfl) rfl
    (fun f fn hf hfn => by
      obtain rfl : f = 7 := Option.some.inj ((show Tryd.prog.funcNamed "pub-tetrapla/laws.FnFjCheckPrefix" = some 7 by kernel_rfl).symm.trans hf) |>.symm
      obtain rfl : fn = Tryd.f7 := (Option.some.inj (Tryd.func7.symm.trans hfn)).symm
      exact ⟨by kernel_rfl, fun j t ht => by
        rw [Tryd.params7] at ht
        have hm : t ∈ [9] := by simpa using Array.mem_of_getElem? ht
        have hall : ([9].all fun u => !Tryd.prog.wantsStandIn u) = true := by kernel_rfl
        exact (show Tryd.prog.wantsStandIn t = false by simpa using List.all_eq_true.1 hall t hm)⟩)
    (by kernel_rfl)
end Go.Proofs.YtgemkbpilmmajaaDoor.Fc
namespace Go.Proofs.YtgemkbpilmmajaaDoor
/-- The card, under a short name, for the claim. -/
theorem fnFjCheckPrefix_holds : Rows.FnFjCheckPrefixCardSaid := Fc.card_fnFjCheckPrefix
end Go.Proofs.YtgemkbpilmmajaaDoor
