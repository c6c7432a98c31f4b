/- FnGjSelectors: the openers (the row's text begins here). -/
import Derived.Test.YtfcnjelhhhncoaaGs8
import Derived.Test.YtfcnjelhhhncoaaRows
import Derived.Test.YtfcnjelhhhncoaaBulk
import Derived.Deep.Slices
import Derived.SliceStrings
import Derived.WalkKit
import Derived.ProofKit
import Derived.OpenShut
import Derived.JoinedCond
namespace Go.Proofs.Ytfcnjelhhhncoaa.L
open Go.ChangeShapes Go.WideShapes Go.ChangeAt Go.RowKit Go.Deep
open Go.ChangeMaps (open_string shut_string)
set_option linter.unusedVariables false
theorem cells_str : Try.prog.cellsOf 9 = 1 := by kernel_rfl
theorem laid_out : laidOutB Try.prog = true := by kernel_rfl
theorem cells_row : Try.prog.cellsOf 23 = 1 := by kernel_rfl
theorem strs_bulk {H : Type} (ks spare : List ByteArray) : ks.length ≤ Rows.uptoBulk (DataW.slice (H := H) (strs ks) (strs spare)) ∧ ∀ k ∈ ks, k.size ≤ Rows.uptoBulk (DataW.slice (H := H) (strs ks) (strs spare)) := by
  have h1 := bulks.slice_le (H := H) (strs ks) (strs spare)
  have h2 := bulks.slice_elems (H := H) (strs ks) (strs spare)
  have e1 : (strs (H := H) ks).length = ks.length := by simp [strs]
  refine ⟨by omega, fun k hk => ?_⟩
  have h3 := bulks.part_le (H := H) (d := .lit (.string k.data.toList)) (l := strs ks) (by simp [strs]; exact ⟨k, hk, rfl⟩)
  rw [bulks.string_eq, Array.length_toList] at h3
  have e : k.data.size = k.size := rfl
  omega
theorem open1 {H : Type} {enc : TypeId × Value → H} {W : World} {fuel : Nat} {v : Value} {d : DataW H} {p : List MemPlace} {A : Option Addr} {n c : Nat} (hv : v = .slice A n c) (hf : DataW.trod enc Try.prog W 0 (fun _ => true) true fuel 23 [v] = some (d, p)) :
    ∃ ks : List ByteArray, Row W (fun _ => True) 1 A n c (keysV ks) ∧ n = ks.length ∧ ks.length ≤ Rows.uptoBulk d ∧ ∀ k ∈ ks, k.size ≤ Rows.uptoBulk d := by
  rcases open_strings Try.underlying23 Try.underlying9 cells_str hf with ⟨hcs, hx⟩ | ⟨a, len, cap, ss, hcs, _, hl, hm, hz, hx, hcell, hws⟩
  · subst hv
    simp at hcs
    obtain ⟨rfl, rfl, rfl⟩ := hcs
    exact ⟨[], Row.nil _ _ _, rfl, Nat.zero_le _, fun k hk => by cases hk⟩
  · subst hv
    simp at hcs
    obtain ⟨rfl, rfl, rfl⟩ := hcs
    simp only [if_true] at hz
    injection hx with hx1 hx2
    subst hx1
    obtain ⟨g1, g2⟩ := strs_bulk (H := H) (ss.take n) (ss.drop n)
    refine ⟨ss.take n, ⟨by simp [keysV]; omega, hl, hm, fun hn => ⟨a, rfl, trivial, ?_, fun j u hu => ?_⟩⟩, by simp; omega, g1, g2⟩
    · have := World.block_lt_of_cell? W _ (hcell 0 (by omega))
      rwa [add_block] at this
    · simp only [keysV, List.getElem?_map, Option.map_eq_some_iff] at hu
      obtain ⟨x, hx1, rfl⟩ := hu
      rw [List.getElem?_take] at hx1
      split at hx1
      · rename_i hj
        rw [hcell j (by omega)]
        simp [List.getD_eq_getElem?_getD, hx1]
      · cases hx1
theorem open2 {H : Type} {enc : TypeId × Value → H} {W : World} {fuel : Nat} {v : Value} {d : DataW H} {p : List MemPlace} {A : Option Addr} {n c : Nat} (hv : v = .slice A n c) (hf : DataW.trod enc Try.prog W 0 (fun _ => true) true fuel 22 [v] = some (d, p)) :
    ∃ (ps : List (List ByteArray)) (xs : List Value), Row W (fun _ => True) 1 A n c xs ∧ KsO W (fun _ => True) ps xs ∧ n = ps.length ∧ n ≤ Rows.uptoBulk d ∧ ∀ k ∈ ps, k.length ≤ Rows.uptoBulk d ∧ ∀ x ∈ k, x.size ≤ Rows.uptoBulk d := by
  rcases open_slice1 Try.underlying22 cells_row hf with ⟨hcs, hx⟩ | ⟨a, len, cap, m, nn, V, D, Pl, hcs, _, hl, hm, hmm, hx, hel⟩
  · subst hv
    simp at hcs
    obtain ⟨rfl, rfl, rfl⟩ := hcs
    exact ⟨[], [], Row.nil _ _ _, ⟨rfl, fun i k hk => by cases hk⟩, rfl, Nat.zero_le _, fun k hk => by cases hk⟩
  · subst hv
    simp at hcs
    obtain ⟨rfl, rfl, rfl⟩ := hcs
    simp only [if_true] at hmm
    subst hmm
    injection hx with hx1 hx2
    subst hx1
    have hrow : ∀ i, i < n → ∃ (Ai : Option Addr) (ks : List ByteArray) (ci : Nat), V i = .slice Ai ks.length ci ∧ Row W (fun _ => True) 1 Ai ks.length ci (keysV ks) ∧ ks.length ≤ Rows.uptoBulk (D i) ∧ ∀ k ∈ ks, k.size ≤ Rows.uptoBulk (D i) := fun i hi => by
      have h2 := (hel i (by omega)).2
      have hs : ∃ Ai ni ci, V i = .slice Ai ni ci := by
        rcases open_strings Try.underlying23 Try.underlying9 cells_str h2 with ⟨hcs, -⟩ | ⟨a', len', cap', ss', hcs, -⟩
        · simp at hcs; exact ⟨_, _, _, hcs⟩
        · simp at hcs; exact ⟨_, _, _, hcs⟩
      obtain ⟨Ai, ni, ci, hV⟩ := hs
      obtain ⟨ks, r1, r2, r3, r4⟩ := open1 hV h2
      subst r2
      exact ⟨Ai, ks, ci, hV, r1, r3, r4⟩
    have hrow' : ∀ i, i < n → ∃ ks : List ByteArray, ∃ (Ai : Option Addr) (ci : Nat), V i = .slice Ai ks.length ci ∧ Row W (fun _ => True) 1 Ai ks.length ci (keysV ks) ∧ ks.length ≤ Rows.uptoBulk (D i) ∧ ∀ k ∈ ks, k.size ≤ Rows.uptoBulk (D i) := fun i hi => by
      obtain ⟨Ai, ks, ci, h⟩ := hrow i hi
      exact ⟨ks, Ai, ci, h⟩
    obtain ⟨K, hK⟩ := choose_lt (α := List ByteArray) hrow'
    have hb := bulks.slice_elems (H := H) ((List.range n).map D) ((List.range (m - n)).map fun j => D (n + j))
    have hb2 := bulks.slice_le (H := H) ((List.range n).map D) ((List.range (m - n)).map fun j => D (n + j))
    have e1 : ((List.range n).map D).length = n := by simp
    refine ⟨(List.range n).map K, (List.range n).map V, ⟨by simp, hl, hm, fun hn => ⟨a, rfl, trivial, ?_, fun j u hu => ?_⟩⟩, ⟨by simp, fun i k hk => ?_⟩, by simp, by omega, fun k hk => ?_⟩
    · have := World.block_lt_of_cell? W _ (hel 0 (by omega)).1
      rwa [add_block] at this
    · simp only [List.getElem?_map, Option.map_eq_some_iff] at hu
      obtain ⟨i, hi, rfl⟩ := hu
      obtain ⟨hi1, hi2⟩ := List.getElem?_eq_some_iff.1 hi
      simp at hi1 hi2
      subst hi2
      exact (hel j (by omega)).1
    · simp only [List.getElem?_map, Option.map_eq_some_iff] at hk
      obtain ⟨j, hj, rfl⟩ := hk
      obtain ⟨hj1, hj2⟩ := List.getElem?_eq_some_iff.1 hj
      simp at hj1 hj2
      subst hj2
      obtain ⟨Ai, ci, h1, h2, -⟩ := hK i hj1
      exact ⟨Ai, ci, by simp [hj1, h1], h2⟩
    · obtain ⟨i, hi, rfl⟩ := List.mem_map.1 hk
      simp at hi
      obtain ⟨Ai, ci, h1, h2, h3, h4⟩ := hK i hi
      have h5 := bulks.part_le (H := H) (d := D i) (l := (List.range n).map D) (List.mem_map.2 ⟨i, by simpa using hi, rfl⟩)
      exact ⟨by omega, fun x hx => by have := h4 x hx; omega⟩
end Go.Proofs.Ytfcnjelhhhncoaa.L
namespace Go.Proofs.Ytfcnjelhhhncoaa.fnGs
open Go.ChangeShapes Go.WideShapes Go.ChangeAt Go.RowKit L
open Go.ChangeMaps (open_string shut_string)
theorem own : ownKnob Try.prog.godebug = none := by kernel_rfl
theorem contract (H : Type) (enc : TypeId × Value → H) (W : World) (base : Nat) (args : Array Value) (ds gs : List (DataW H)) (before : List MemPlace)
    (hval : ∀ (j : Nat) t v, Try.f3.params[j]? = some t → args[j]? = some v → Value.okWide Try.prog W .any base t v)
    (hW : DataW.Whole enc Try.prog Try.f3.params.toList Rows.fnGjSelectorsSpec.vars false W args.toList ds gs before) (hk : Rows.uptoSmall H (ds ++ gs) = true) :
    Calls Try.prog 3 args W fun e W' => ∃ v, e = .returned v ∧ Rows.fnGjSelectorsSpec.post enc Try.prog Try.f3 false true false false W args v W' := by
  have hbk := bulks.bound hk
  have hW' := hW
  obtain ⟨p, q, hA0, hV, rfl, hfz, hnd⟩ := hW
  have hA : DataW.TrodAll enc Try.prog W 0 (fun _ => true) true Try.f3.params.toList args.toList ds p := hA0
  rw [Try.params3] at hA hval
  obtain ⟨v0, vs0, d0, ds0, p0, q0, hargs, rfl, rfl, h0, r0⟩ := trodAll_cons hA
  obtain ⟨v1, vs1, d1, ds1, p1, q1, rfl, rfl, rfl, h1, r1⟩ := trodAll_cons r0
  obtain ⟨v2, vs2, d2, ds2, p2, q2, rfl, rfl, rfl, h2, r2⟩ := trodAll_cons r1
  obtain ⟨v3, vs3, d3, ds3, p3, q3, rfl, rfl, rfl, h3, r3⟩ := trodAll_cons r2
  obtain ⟨rfl, rfl, rfl⟩ := trodAll_nil r3
  obtain rfl : args = #[v0, v1, v2, v3] := by cases args; simp_all
  obtain ⟨rfl, rfl⟩ := trodVars_none hV
  have o0 := hval 0 22 v0 rfl rfl
  have o1 := hval 1 23 v1 rfl rfl
  have lt : ∀ x ∈ p0 ++ (p1 ++ (p2 ++ (p3 ++ []))), x.block < W.heap.size := fun x hx => by have := hW'.lt x (by simpa using hx); simpa using this
  have s0 := fun (W' : World) (hb : Below W.heap.size W W') => Below.trod laid_out (show Try.prog.readableRec 22 = true by kernel_rfl) (show 22 < Try.prog.types.size from of_decide_eq_true (by kernel_rfl)) h0 hb (fun x hx => lt x (by simp [hx]))
  have s1 := fun (W' : World) (hb : Below W.heap.size W W') => Below.trod laid_out (show Try.prog.readableRec 23 = true by kernel_rfl) (show 23 < Try.prog.types.size from of_decide_eq_true (by kernel_rfl)) h1 hb (fun x hx => lt x (by simp [hx]))
  obtain ⟨A0, n0, c0, rfl⟩ := okWide_slice Try.underlying22 o0
  obtain ⟨A1, n1, c1, rfl⟩ := okWide_slice Try.underlying23 o1
  obtain ⟨f0, hf0⟩ := h0
  obtain ⟨f1, hf1⟩ := h1
  obtain ⟨ps, xs, g1, g2, g3, g4, g5⟩ := open2 rfl hf0
  obtain ⟨ks, k1, k2, k3, k4⟩ := open1 rfl hf1
  obtain ⟨a2, rfl, rfl, rfl⟩ := open_bool Try.underlying4 (hval 2 4 v2 rfl rfl) h2
  obtain ⟨a3, rfl, rfl, rfl, y3⟩ := open_string Try.underlying9 (hval 3 9 v3 rfl rfl) h3
  have b0 := bulks.part_le (H := H) (d := d0) (l := [d0, d1, .lit (.bool a2), .lit (.string a3.data.toList)] ++ []) (by simp)
  have b1 := bulks.part_le (H := H) (d := d1) (l := [d0, d1, .lit (.bool a2), .lit (.string a3.data.toList)] ++ []) (by simp)
  have b3 := bulks.part_le (H := H) (d := .lit (.string a3.data.toList)) (l := [d0, d1, .lit (.bool a2), .lit (.string a3.data.toList)] ++ []) (by simp)
  rw [bulks.string_eq, Array.length_toList] at b3
  have b4 : a3.data.size = a3.size := rfl
  refine (lawGS A0 n0 c0 ps xs A1 n1 c1 ks a2 a3 W g1 g2 k1 (by omega) (by omega) (fun k hk => ⟨by have := (g5 k hk).1; omega, fun x hx => by have := (g5 k hk).2 x hx; omega⟩) (fun x hx => by have := k4 x hx; omega) (by omega)).mono fun e W' ⟨he, bel⟩ => ?_
  subst he
  exact ⟨_, rfl, _, _, _, [], _, [], hW', trodAll_mk1 (shut_bool Try.underlying4 _), (trodAll_cons_mk (s0 W' bel) (trodAll_cons_mk (s1 W' bel) (trodAll_cons_mk (shut_bool Try.underlying4 a2) (trodAll_cons_mk (shut_string Try.underlying9 y3) trodAll_mk0)))), rfl, bel.frame _, fun h => by cases h⟩
set_option maxRecDepth 100000 in
theorem lifted (os : Os) (started : os.Started) (H : Type) (enc : TypeId × Value → H) (F : Stop.Interp) :
    ReturnsInHanded {} Try.checked os 3 .any ((Rows.OpenSpec.upto Rows.fnGjSelectorsSpec).pre6 enc Try.prog Try.f3 Rows.fnGjSelectorsUptoRow.domain false) (((Rows.OpenSpec.upto Rows.fnGjSelectorsSpec).at F).post enc Try.prog Try.f3 false true false false) := by
  refine returnsInHanded_of_cond (C := Try.checked) (s := Rows.OpenSpec.upto Rows.fnGjSelectorsSpec) (k := Rows.uptoSmall) rfl own started (by kernel_rfl) Try.func3
    (OpenSpec.witness (enc := enc) (C := Try.checked) (s := Rows.OpenSpec.upto Rows.fnGjSelectorsSpec) (k := Rows.uptoSmall) rfl false ⟨#[], #[.slice none 0 0, .slice none 0 0, .bool false, .string .empty], []⟩ 8 (by kernel_rfl) (by kernel_rfl) (by kernel_rfl)
      (x := ([.nil, .nil, .lit (.bool false), .lit (.string [])], [], [])) (by kernel_rfl) rfl (by kernel_rfl)) ?_
  intro W base args ds gs before hval hW _ hk _
  exact contract H enc W base args ds gs before hval hW hk
theorem proved : Rows.FnGjSelectorsUptoSaid :=
  OpenClaim.holds_of_cond 3 Try.f3 rfl rfl rfl rfl rfl rfl rfl ⟨rfl, rfl, rfl, rfl, rfl⟩ rfl rfl rfl rfl rfl (by kernel_rfl) Try.func3 (by kernel_rfl)
    (of_decide_eq_true (by kernel_rfl)) (by unfold Func.isWrapper; first | (rw [if_pos (by decide +kernel)]; kernel_rfl) | (rw [if_neg (by decide +kernel)]; exact ⟨rfl, rfl⟩))
    (fun os started H enc _ F => lifted os started H enc F)
end Go.Proofs.Ytfcnjelhhhncoaa.fnGs
namespace Go.Proofs.Ytfcnjelhhhncoaa
theorem fnGjSelectorsUpto_holds : Rows.FnGjSelectorsUptoSaid := fnGs.proved
end Go.Proofs.Ytfcnjelhhhncoaa
