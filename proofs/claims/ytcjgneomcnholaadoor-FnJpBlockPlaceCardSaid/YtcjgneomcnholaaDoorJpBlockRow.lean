/- FnJpBlockPlace: the inner search for a block's end, begun at the bracket of an array or object to which keys lead in a JSON text of at most 2^16 bytes (no sought name twice on the way, none that begins with an opening bracket), ends where that ends, whatever tail of at most 2^16 bytes stands there in the place of the rest. Every text, keys and tail; the program's and the library's variables read as the program's text lays them (tied). -/
import Derived.Test.YtcjgneomcnholaaDoorRows
import Derived.Test.YtcjgneomcnholaaDoorCards
import Derived.Test.YtcjgneomcnholaaDoorTie
import Derived.Test.YtcjgneomcnholaaDoorJpFind7
import Derived.Test.YtcjgneomcnholaaDoorJpLaid
import Derived.WalkKit
import Derived.ProofKit
import Derived.LaidMore
import Derived.Lay
import Derived.OpenShut
import Derived.ShutString
import Derived.ChangeOld
import Derived.Below
import Derived.SizedLaws
import Derived.Stop.Joined
import Derived.SevenTiedAt
import Derived.Lib.LaidU8
import Derived.LaidLaws
namespace Go.Proofs.YtcjgneomcnholaaDoor.Jp
open Go.ChangeShapes Go.WideShapes Go.ChangeAt Go.RowKit Go.WideMaps Go.WideElems L
open Go.ChangeMaps (open_string shut_string)
set_option linter.unusedVariables false
theorem own_fnJpBlockPlace : ownKnob Tryd.prog.godebug = none := by kernel_rfl
abbrev laidL_fnJpBlockPlace : List (String × DataW Unit) := [("pub-tetrapla/pub/jsonparser.DefaultConfig", Rows.laid_pub_tetrapla_pub_jsonparser_DefaultConfig)]
/-- The package's configuration, as it is listed. -/
theorem dc_of_laid {W : World} (h : laidMetH Tryd.prog laidL_fnJpBlockPlace W) : Dc W := by
  rw [MakeChecks.laidMetH_plain _ _ _ (by kernel_rfl)] at h
  obtain ⟨h1, h2, h3, h4⟩ := cfg_of (Go.Lib.laidMet.reads h (List.mem_singleton.2 rfl))
  exact ⟨h1, h2, h3, h4⟩
set_option maxRecDepth 100000 in
theorem lifted_fnJpBlockPlace (os : Os) (started : os.Started) (H : Type) (enc : TypeId × Value → H) :
    ReturnsInHanded {} Tryd.checked os 3 .any (fun w args => (Rows.fnJpBlockPlaceSpec.pre enc Tryd.prog Tryd.f3 [] false w args ∧ laidMetH Tryd.prog laidL_fnJpBlockPlace w) ∧ sizedMet enc Tryd.prog Tryd.f3 (OpenSpec.ofChange Rows.fnJpBlockPlaceSpec) false w args)
      (Rows.fnJpBlockPlaceSpec.post enc Tryd.prog Tryd.f3 false true false false) := by
  refine returnsInHanded_of_change_and (C := Tryd.checked) (X := fun w _ => laidMetH Tryd.prog laidL_fnJpBlockPlace w) (fun _ _ _ hh h => h.of_heap hh) own_fnJpBlockPlace started (by kernel_rfl) Tryd.func3
    (ChangeSpec.witness_shaped (enc := enc) (C := Tryd.checked) (os := os) (X := fun w _ => laidMetH Tryd.prog laidL_fnJpBlockPlace w) false (World.laidAll Tryd.prog os laidL_fnJpBlockPlace) #[.string ByteArray.empty, .slice none 0 0, .string ByteArray.empty] 8 (World.laidAll_os _ _ _) (World.shaped_of_RefB (by kernel_rfl) (by kernel_rfl)) (by kernel_rfl) (by kernel_rfl) (by kernel_rfl) (by rw [MakeChecks.laidMetH_plain _ _ _ (by kernel_rfl)]; exact laidMet_laidAll _ (by kernel_rfl) (by kernel_rfl))) ?_
  intro W base args ds gs before hval0 hW hcnd hsz0 hL _
  have hsz : (DataW.weightsEach Tryd.prog (Tryd.f3.params.toList ++ Rows.fnJpBlockPlaceSpec.plain.varTypes Tryd.prog) (ds ++ gs)).all (· ≤ reachBytes) = true := hsz0
  have hval : ∀ (j : Nat) t v, Tryd.f3.params[j]? = some t → args[j]? = some v → Value.okWide Tryd.prog W .any base t v := hval0
  have hW' := hW
  obtain ⟨p, q, hA0, hV, rfl, hfz, hnd⟩ := hW
  have hA : DataW.TrodAll enc Tryd.prog W 0 (fun _ => true) true Tryd.f3.params.toList args.toList ds p := hA0
  rw [Tryd.params3] at hA hval hsz
  obtain ⟨v0, vs0, d0, ds0, p0, q0, hargs, rfl, rfl, h0, r0⟩ := trodAll_cons hA
  obtain ⟨v1, vs1, d1, ds1, p1, q1, rfl, rfl, rfl, h1, r1⟩ := trodAll_cons r0
  obtain ⟨v2, vs2, d2, ds2, p2, q2, rfl, rfl, rfl, h2, r2⟩ := trodAll_cons r1
  obtain ⟨rfl, rfl, rfl⟩ := trodAll_nil r2
  obtain rfl : args = #[v0, v1, v2] := by cases args; simp_all
  obtain ⟨rfl, rfl⟩ := trodVars_none hV
  obtain ⟨a0, rfl, rfl, rfl, y0⟩ := open_string Tryd.underlying9 (hval 0 9 v0 rfl rfl) h0
  have w0 : a0.size ≤ 140737488351232 := by
    have z := sized_string hsz (j := 0) (t := 9) rfl rfl
    rw [Array.length_toList] at z
    exact z
  obtain ⟨aA1, an1, ac1, aks1, rfl, hR1, hk1, shut1⟩ := openKeys (hval 1 22 v1 rfl rfl) h1 (fun x hx => by have := hW'.lt x (by simp [hx]); simpa using this)
  obtain ⟨a2, rfl, rfl, rfl, y2⟩ := open_string Tryd.underlying9 (hval 2 9 v2 rfl rfl) h2
  have w2 : a2.size ≤ 140737488351232 := by
    have z := sized_string hsz (j := 2) (t := 9) rfl rfl
    rw [Array.length_toList] at z
    exact z
  have hWd := dc_of_laid (show laidMetH Tryd.prog laidL_fnJpBlockPlace W from hL)
  clear hA0 hval0 hsz0 hsz
  refine (lawBlockR a0 aA1 an1 ac1 aks1 a2 W w0 hR1 hk1 w2 hWd).mono fun e W' ⟨he, bel⟩ => ?_
  subst he
  exact ⟨_, rfl, _, _, _, [], _, [], hW', trodAll_mk1 (shut_bool Tryd.underlying4 _), (trodAll_cons_mk (shut_string Tryd.underlying9 y0) (trodAll_cons_mk (shut1 W' bel) (trodAll_cons_mk (shut_string Tryd.underlying9 y2) trodAll_mk0))), rfl, bel.frame _, fun h => by cases h⟩
theorem over_fnJpBlockPlace : Rows.FnJpBlockPlaceSaid :=
  OpenClaim.holds_of_wide 3 Tryd.f3 rfl rfl rfl rfl rfl rfl rfl ⟨rfl, rfl, rfl, rfl, rfl⟩ rfl rfl rfl rfl rfl (by kernel_rfl) Tryd.func3 (by kernel_rfl)
    (of_decide_eq_true (by kernel_rfl)) (by unfold Func.isWrapper; first | (rw [if_pos (by decide +kernel)]; kernel_rfl) | (rw [if_neg (by decide +kernel)]; exact ⟨rfl, rfl⟩))
    (fun os started H enc _ => lifted_fnJpBlockPlace os started H enc)
theorem card_fnJpBlockPlace : Rows.FnJpBlockPlaceCardSaid :=
  Claim7.holds_tied_plain_at .later [] [.data] true (true, "8286c8407c6a5b4459ed3cb8b81de1337a202a27f895032138ac5c3bccd0cfe1") true
    over_fnJpBlockPlace (fun _ h => by cases h) (by kernel_rfl) (fun _ h => by cases h) fnJpBlockPlace_row_tie rfl ⟨rfl, rfl⟩ (by kernel_rfl) rfl
    (fun f fn hf hfn => by
      obtain rfl : f = 3 := Option.some.inj ((show Tryd.prog.funcNamed "pub-tetrapla/laws.FnJpBlockPlace" = some 3 by kernel_rfl).symm.trans hf) |>.symm
      obtain rfl : fn = Tryd.f3 := (Option.some.inj (Tryd.func3.symm.trans hfn)).symm
      exact ⟨by kernel_rfl, fun j t ht => by
        rw [Tryd.params3] at ht
        have hm : t ∈ [9, 22, 9] := by simpa using Array.mem_of_getElem? ht
        have hall : ([9, 22, 9].all fun u => !Tryd.prog.wantsStandIn u) = true := by kernel_rfl
        exact (show Tryd.prog.wantsStandIn t = false by simpa using List.all_eq_true.1 hall t hm)⟩)
    (by kernel_rfl)
end Go.Proofs.YtcjgneomcnholaaDoor.Jp
namespace Go.Proofs.YtcjgneomcnholaaDoor
/-- The card, under a short name, for the claim. -/
theorem fnJpBlockPlace_holds : Rows.FnJpBlockPlaceCardSaid := Jp.card_fnJpBlockPlace
end Go.Proofs.YtcjgneomcnholaaDoor
