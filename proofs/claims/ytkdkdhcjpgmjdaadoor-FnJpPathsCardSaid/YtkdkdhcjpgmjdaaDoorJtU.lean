/- A tree of nodes in memory; spec.at and spec.Unique over it. spec.Tree: a tree of nodes is laid in memory. spec.DigitsOf: some short text. spec.Paths: rows of keys in memory; what is known of their lengths. spec.Paths: the walk. Get with keys that lead to a value: the package's. FnJpPaths: the walk of the law. -/
import Derived.Test.YtkdkdhcjpgmjdaaDoorJpFind4
import Derived.Test.YtkdkdhcjpgmjdaaDoorReader3
import Derived.Deep.DeepCutAuto
import Derived.Deep.CutBlock
import Derived.Deep.RegionWith
import Derived.Deep.RegionHeld3
import Derived.Deep.LoopGhost
import Derived.Deep.Light
import Derived.Deep.AppendLies
import Derived.Deep.RegionLaw
import Derived.Test.YtkdkdhcjpgmjdaaDoorApp
import Derived.Test.YtkdkdhcjpgmjdaaDoorOwn
import Derived.Lib.Hide
import Derived.Test.YtkdkdhcjpgmjdaaDoorJsZ0
namespace Go.Proofs.YtkdkdhcjpgmjdaaDoor.Jp
section
open Go.RowKit L
set_option linter.unusedVariables false
set_option linter.unusedSimpArgs false

/-- A tree of nodes: kind, text, names, kids. -/
inductive Nt where
  | mk (k : Int) (t : ByteArray) (ks : List ByteArray) (ds : List Nt)
mutual
/-- The four cells of a node. -/
def NdC (w : World) (B : Nat → Prop) : Nt → List Value → Prop
  | .mk k t ks ds, cs => ∃ An cn Ak ck xs, cs = [.int .i64 k, .string t, .slice An ks.length cn, .slice Ak ds.length ck] ∧
      Row w B 1 An ks.length cn (keysV ks) ∧ Row w B 4 Ak ds.length ck xs ∧ NdsC w B ds xs
/-- The cells of a list of nodes, four each. -/
def NdsC (w : World) (B : Nat → Prop) : List Nt → List Value → Prop
  | [], xs => xs = []
  | p :: ps, xs => ∃ cs r, xs = cs ++ r ∧ cs.length = 4 ∧ NdC w B p cs ∧ NdsC w B ps r
end
theorem NdC.len {w : World} {B : Nat → Prop} {p : Nt} {cs : List Value} (h : NdC w B p cs) : cs.length = 4 := by
  cases p
  simp only [NdC] at h
  obtain ⟨An, cn, Ak, ck, xs, rfl, _⟩ := h
  rfl
theorem NdsC.snoc {w : World} {B : Nat → Prop} {p : Nt} {cs : List Value} (hp : NdC w B p cs) : ∀ {ps : List Nt} {xs : List Value}, NdsC w B ps xs → NdsC w B (ps ++ [p]) (xs ++ cs)
  | [], xs, h => by
    simp only [NdsC] at h
    subst h
    simp only [List.nil_append, NdsC]
    exact ⟨cs, [], by simp, hp.len, hp, rfl⟩
  | q :: qs, xs, h => by
    simp only [NdsC, List.cons_append] at h ⊢
    obtain ⟨c1, r, rfl, hl, hq, hr⟩ := h
    exact ⟨c1, r ++ cs, by simp, hl, hq, NdsC.snoc hp hr⟩
mutual
theorem NdC.keep {w w' : World} {B : Nat → Prop} (hk : Keeps B w w') : ∀ {p : Nt} {cs : List Value}, NdC w B p cs → NdC w' B p cs
  | .mk k t ks ds, cs, h => by
    simp only [NdC] at h ⊢
    obtain ⟨An, cn, Ak, ck, xs, rfl, h1, h2, h3⟩ := h
    exact ⟨An, cn, Ak, ck, xs, rfl, h1.keep hk, h2.keep hk, NdsC.keep hk h3⟩
theorem NdsC.keep {w w' : World} {B : Nat → Prop} (hk : Keeps B w w') : ∀ {ps : List Nt} {xs : List Value}, NdsC w B ps xs → NdsC w' B ps xs
  | [], xs, h => by simp only [NdsC] at h ⊢; exact h
  | p :: ps, xs, h => by
    simp only [NdsC] at h ⊢
    obtain ⟨cs, r, rfl, hl, hp, hr⟩ := h
    exact ⟨cs, r, rfl, hl, NdC.keep hk hp, NdsC.keep hk hr⟩
end
mutual
theorem NdC.mono {w : World} {B B' : Nat → Prop} (hb : ∀ j, j < w.heap.size → B j → B' j) : ∀ {p : Nt} {cs : List Value}, NdC w B p cs → NdC w B' p cs
  | .mk k t ks ds, cs, h => by
    simp only [NdC] at h ⊢
    obtain ⟨An, cn, Ak, ck, xs, rfl, h1, h2, h3⟩ := h
    exact ⟨An, cn, Ak, ck, xs, rfl, h1.mono hb, h2.mono hb, NdsC.mono hb h3⟩
theorem NdsC.mono {w : World} {B B' : Nat → Prop} (hb : ∀ j, j < w.heap.size → B j → B' j) : ∀ {ps : List Nt} {xs : List Value}, NdsC w B ps xs → NdsC w B' ps xs
  | [], xs, h => by simp only [NdsC] at h ⊢; exact h
  | p :: ps, xs, h => by
    simp only [NdsC] at h ⊢
    obtain ⟨cs, r, rfl, hl, hp, hr⟩ := h
    exact ⟨cs, r, rfl, hl, NdC.mono hb hp, NdsC.mono hb hr⟩
end
/-- The cells of node i of a list. -/
theorem NdsC.at_ {w : World} {B : Nat → Prop} : ∀ {ps : List Nt} {xs : List Value} {i : Nat} {p : Nt}, NdsC w B ps xs → ps[i]? = some p → ∃ cs, NdC w B p cs ∧ ∀ j, j < 4 → xs[i * 4 + j]? = cs[j]?
  | [], _, _, _, _, h => by cases h
  | q :: qs, xs, i, p, h, hi => by
    simp only [NdsC] at h
    obtain ⟨cs, r, rfl, hl, hq, hr⟩ := h
    cases i with
    | zero =>
      simp only [List.getElem?_cons_zero, Option.some.injEq] at hi
      subst hi
      exact ⟨cs, hq, fun j hj => by rw [Nat.zero_mul, Nat.zero_add, List.getElem?_append_left (by omega)]⟩
    | succ i =>
      rw [List.getElem?_cons_succ] at hi
      obtain ⟨ds, h1, h2⟩ := NdsC.at_ hr hi
      refine ⟨ds, h1, fun j hj => ?_⟩
      rw [List.getElem?_append_right (by omega), ← h2 j hj]
      congr 1
      omega
/-- The cells of node k of a row of nodes. -/
theorem ndAt {w : World} {B : Nat → Prop} {A : Option Addr} {n c k : Nat} {xs : List Value} {ps : List Nt} {p : Nt} (hR : Row w B 4 A n c xs) (hP : NdsC w B ps xs) (hn : n = ps.length) (hk : ps[k]? = some p) :
    ∃ (ad : Addr) (kk : Int) (t : ByteArray) (An : Option Addr) (nn cn : Nat) (Ak : Option Addr) (nk ck : Nat), A = some ad ∧ ad.block < w.heap.size ∧
      w.cell? (ad.add (k * 4)) = some (.int .i64 kk) ∧ w.cell? ⟨(ad.add (k * 4)).block, (ad.add (k * 4)).off + 1, none⟩ = some (.string t) ∧ w.cell? ⟨(ad.add (k * 4)).block, (ad.add (k * 4)).off + 2, none⟩ = some (.slice An nn cn) ∧
      w.cell? ⟨(ad.add (k * 4)).block, (ad.add (k * 4)).off + 3, none⟩ = some (.slice Ak nk ck) ∧ NdC w B p [.int .i64 kk, .string t, .slice An nn cn, .slice Ak nk ck] := by
  have hkl : k < ps.length := (List.getElem?_eq_some_iff.1 hk).1
  obtain ⟨cs, hc, hx⟩ := hP.at_ hk
  obtain ⟨ad, rfl, hB, hlt, hcell⟩ := hR.2.2.2 (by omega)
  cases p with
  | mk kd t ks ds =>
    have hc0 := hc
    simp only [NdC] at hc
    obtain ⟨An, cn, Ak, ck, ys, rfl, r1, r2, r3⟩ := hc
    refine ⟨ad, kd, t, An, ks.length, cn, Ak, ds.length, ck, rfl, hlt, ?_, ?_, ?_, ?_, hc0⟩
    · exact hcell (k * 4 + 0) _ (hx 0 (by omega))
    · rw [← add_off _ _ (by omega), add_add]; exact hcell (k * 4 + 1) _ (hx 1 (by omega))
    · rw [← add_off _ _ (by omega), add_add]; exact hcell (k * 4 + 2) _ (hx 2 (by omega))
    · rw [← add_off _ _ (by omega), add_add]; exact hcell (k * 4 + 3) _ (hx 3 (by omega))
theorem kid_small {k : Int} {t : ByteArray} {ks : List ByteArray} {ds : List Nt} {q : Nt} {i : Nat} (h : ds[i]? = some q) : SizeOf.sizeOf q < SizeOf.sizeOf (Nt.mk k t ks ds) := by
  have h1 := List.sizeOf_lt_of_mem (List.mem_of_getElem? h)
  simp only [Nt.mk.sizeOf_spec]
  omega
/-- Block b holds just these four cells (a node). -/
def N4 (w : World) (b : Nat) (v0 v1 v2 v3 : Value) : Prop := w.heap[b]? = some (.cells #[v0, v1, v2, v3] 32 (0, 0))
section
variable {w w' : World} {b : Nat} {v0 v1 v2 v3 : Value}
theorem N4.lt (h : N4 w b v0 v1 v2 v3) : b < w.heap.size := (Array.getElem?_eq_some_iff.1 h).1
theorem N4.c0 (h : N4 w b v0 v1 v2 v3) : w.cell? ⟨b, 0, none⟩ = some v0 := cell_of_row w b 0 _ _ _ h
theorem N4.c1 (h : N4 w b v0 v1 v2 v3) : w.cell? ⟨b, 1, none⟩ = some v1 := cell_of_row w b 1 _ _ _ h
theorem N4.c2 (h : N4 w b v0 v1 v2 v3) : w.cell? ⟨b, 2, none⟩ = some v2 := cell_of_row w b 2 _ _ _ h
theorem N4.c3 (h : N4 w b v0 v1 v2 v3) : w.cell? ⟨b, 3, none⟩ = some v3 := cell_of_row w b 3 _ _ _ h
theorem N4.f (h : N4 w b v0 v1 v2 v3) (j : Nat) : w.frozen? ⟨b, j, none⟩ = false := by unfold N4 at h; simp [World.frozen?, h]
theorem N4.new (w : World) (v0 v1 v2 v3 : Value) : N4 (w.alloc (.cells #[v0, v1, v2, v3] 32)) w.heap.size v0 v1 v2 v3 := heap_alloc_new w _
theorem N4.below (h : N4 w b v0 v1 v2 v3) (hb : Below w.heap.size w w') : N4 w' b v0 v1 v2 v3 := (hb.block b h.lt).trans h
theorem N4.set1 (h : N4 w b v0 v1 v2 v3) (x : Value) : N4 (w.setCell ⟨b, 1, none⟩ x) b v0 x v2 v3 := by unfold N4 at h ⊢; simp [World.setCell, Array.getElem?_modify, h]
theorem N4.set2 (h : N4 w b v0 v1 v2 v3) (x : Value) : N4 (w.setCell ⟨b, 2, none⟩ x) b v0 v1 x v3 := by unfold N4 at h ⊢; simp [World.setCell, Array.getElem?_modify, h]
theorem N4.set3 (h : N4 w b v0 v1 v2 v3) (x : Value) : N4 (w.setCell ⟨b, 3, none⟩ x) b v0 v1 v2 x := by unfold N4 at h ⊢; simp [World.setCell, Array.getElem?_modify, h]
end
set_option maxRecDepth 100000 in
set_option maxHeartbeats 4000000 in
/-- spec.at over a row of names: some number. -/
theorem atW (v0 v1 v3 : Value) (An : Option Addr) (nn cn : Nat) (ks : List ByteArray) (B : Nat → Prop) (name : ByteArray) (w : World) (hR : Row w B 1 An nn cn (keysV ks)) :
    Calls Tryd.prog 18 #[.agg #[v0, v1, .slice An nn cn, v3], .string name] w fun e w' => (∃ z : Int, e = .returned (.int .i64 z)) ∧ Below w.heap.size w w' := by
  obtain ⟨w1, hw1⟩ : ∃ w1, w.alloc (.cells #[v0, v1, .slice An nn cn, v3] 32) = w1 := ⟨_, rfl⟩
  have hb1 : Below w.heap.size w w1 := by rw [← hw1]; exact below_alloc (Below.refl _ _) _
  have h4 : N4 w1 w.heap.size v0 v1 (.slice An nn cn) v3 := by rw [← hw1]; exact N4.new _ _ _ _ _
  have c2 := h4.c2
  have hnn := (keys_len hR).1
  have hnm := (keys_len hR).2
  have HR := Lib.hid (hR.keep (.of_below hb1))
  have HNN := Lib.hid hnn
  have HB := Lib.hid hb1
  have e0 : IntKind.i64.wrap ((nn : Int) - 1) = (nn : Int) - 1 := IntWalk.i64_in _ (by omega)
  clear h4 hR hnn hb1
  go_enter Tryd.func18, Tryd.ntmps18
  go_wp2_with (fail)
  go_loopg [5] (nn + 1) (fun d v5 wx => ∃ z : Int, v5 = .int .i64 z ∧ -1 ≤ z ∧ z < (nn : Int) ∧ z + 1 < (d : Int) ∧ w1 = wx)
  case atStart => exact ⟨(nn : Int) - 1, rfl, by omega, by omega, by omega, rfl⟩
  case round =>
    obtain ⟨z, rfl, hz1, hz2, hzd, rfl⟩ := hrel
    by_cases hz : z < 0
    · go_wp2
      go_ret
      exact ⟨⟨_, rfl⟩, HB.out⟩
    · obtain ⟨i, rfl⟩ : ∃ i : Nat, z = (i : Int) := ⟨z.toNat, by omega⟩
      have hil : i < ks.length := by have := HNN.out; omega
      obtain ⟨x, hx⟩ : ∃ x, ks[i]? = some x := ⟨_, List.getElem?_eq_getElem hil⟩
      obtain ⟨ad, rfl, -, hc⟩ := keyAt HR.out hx
      have e1 : IntKind.i64.wrap ((i : Int) - 1) = (i : Int) - 1 := IntWalk.i64_in _ (by omega)
      clear hx
      by_cases he : x = name
      · have hb : (x.toList == name.toList) = true := by rw [he]; exact beq_self_eq_true _
        clear he
        go_wp2
        go_ret
        exact ⟨⟨_, rfl⟩, HB.out⟩
      · have hb : (x.toList == name.toList) = false := beq_eq_false_iff_ne.2 fun h => he (toList_inj h)
        clear he
        go_wp2
        go_roundg (gk - 1)
        case measure => omega
        case rel => exact ⟨(i : Int) - 1, rfl, by omega, by omega, by omega, rfl⟩
/-- spec.Unique over a tree: some Boolean. -/
def UqC (N : Nat) : Prop := ∀ (nt : Nt) (B : Nat → Prop) (k : Int) (t : ByteArray) (An : Option Addr) (nn cn : Nat) (Ak : Option Addr) (nk ck : Nat) (w : World), SizeOf.sizeOf nt < N → NdC w B nt [.int .i64 k, .string t, .slice An nn cn, .slice Ak nk ck] →
  Calls Tryd.prog 6 #[.agg #[.int .i64 k, .string t, .slice An nn cn, .slice Ak nk ck]] w fun e w' => (∃ b : Bool, e = .returned (.bool b)) ∧ Below w.heap.size w w'
set_option maxRecDepth 100000 in
set_option maxHeartbeats 8000000 in
theorem uniqueW : ∀ N, UqC N
  | 0 => fun _ _ _ _ _ _ _ _ _ _ _ h => absurd h (Nat.not_lt_zero _)
  | N + 1 => by
    have ih := uniqueW N
    intro nt B k t An nn cn Ak nk ck w hN hnd
    cases nt with
    | mk k' t' ks ds =>
    simp only [NdC] at hnd
    obtain ⟨An', cn', Ak', ck', xs, he, hK, hD, hX⟩ := hnd
    simp only [List.cons.injEq, Value.slice.injEq, and_true] at he
    obtain ⟨-, -, ⟨rfl, rfl, rfl⟩, rfl, rfl, rfl⟩ := he
    have HIH := Lib.hid ih
    obtain ⟨w1, hw1⟩ : ∃ w1, w.alloc (.cells #[.int .i64 k, .string t, .slice An ks.length cn, .slice Ak ds.length ck] 32) = w1 := ⟨_, rfl⟩
    have hb1 : Below w.heap.size w w1 := by rw [← hw1]; exact below_alloc (Below.refl _ _) _
    have h4 : N4 w1 w.heap.size (.int .i64 k) (.string t) (.slice An ks.length cn) (.slice Ak ds.length ck) := by rw [← hw1]; exact N4.new _ _ _ _ _
    have H4 := Lib.hid h4
    have hnm := (keys_len hK).2
    have hdm : ds.length ≤ 9223372036854775807 := by
      have h1 := hD.2.1
      have h2 := hD.2.2.1
      simp only [maxLen] at h2
      omega
    have HK := Lib.hid (hK.keep (.of_below hb1))
    have HD := Lib.hid (hD.keep (.of_below hb1))
    have HX := Lib.hid (NdsC.keep (.of_below hb1) hX)
    have HB := Lib.hid hb1
    have HSZ := Lib.hid hN
    clear ih h4 hK hD hX hb1 hN
    go_enter Tryd.func6, Tryd.ntmps6
    go_wp2_with (fail)
    go_loopg [3] (ks.length + 1) (fun d v3 wx => ∃ i : Nat, v3 = .int .i64 (i : Int) ∧ i ≤ ks.length ∧ ks.length < d + i ∧ Below w1.heap.size w1 wx)
    case atStart => exact ⟨0, rfl, by omega, by omega, Below.refl _ _⟩
    case round =>
      obtain ⟨i, rfl, hi, hd, hbr⟩ := hrel
      have h4r := H4.out.below hbr
      have c0 := h4r.c0
      have c1 := h4r.c1
      have c2 := h4r.c2
      have c3 := h4r.c3
      have HBR := Lib.hid hbr
      have HBW := Lib.hid (below_of HB.out hbr)
      have HKr := Lib.hid (HK.out.keep (.of_below hbr))
      clear h4r hbr
      by_cases hlt : i < ks.length
      · obtain ⟨x, hx⟩ : ∃ x, ks[i]? = some x := ⟨_, List.getElem?_eq_getElem hlt⟩
        obtain ⟨ad, rfl, -, hcx⟩ := keyAt HKr.out hx
        have e1 : IntKind.i64.wrap ((i : Int) + 1) = (i : Int) + 1 := IntWalk.i64_in _ (by omega)
        have HAT := Lib.hid (show Calls Tryd.prog 18 #[.agg #[.int .i64 k, .string t, .slice (some ad) ks.length cn, .slice Ak ds.length ck], .string x] wr.drew fun e w' => (∃ z : Int, e = .returned (.int .i64 z)) ∧ Below wr.heap.size wr w' from by
          refine (atW (.int .i64 k) (.string t) (.slice Ak ds.length ck) (some ad) ks.length cn ks B x wr.drew (HKr.out.keep (.drewN _ _ 1))).mono ?_
          rintro e w' ⟨h1, hb⟩
          exact ⟨h1, below_drew_one hb⟩)
        clear hx
        go_upto_region 4 with (fail)
        go_cut [20] (fun v20 wx => ∃ bb : Bool, v20 = .bool bb ∧ Below wr.heap.size wr wx)
        case first =>
          go_region_with (first
            | (go_at_call 18; (with_reducible refine HAT.out.mono ?_); rintro e w2 ⟨⟨z, rfl⟩, hb2⟩; replace hb2 := Lib.hid hb2))
          all_goals
            go_wp2_with (fail)
            (try simp only [Act.put, List.getElem_toArray, List.getElem_cons_succ, List.getElem_cons_zero, List.setIfInBounds_toArray, List.set_cons_zero, List.set_cons_succ])
            go_meet
            case rel => exact ⟨_, rfl, hb2.out⟩
        case rest =>
        obtain ⟨bb, rfl, hb2⟩ := hcut
        have HB2 := Lib.hid hb2
        clear hb2
        cases bb with
        | true =>
          go_wp2
          go_ret
          exact ⟨⟨_, rfl⟩, below_of HBW.out HB2.out⟩
        | false =>
          go_wp2
          go_roundg (gk - 1)
          case measure => omega
          case rel => exact ⟨i + 1, by go_num, by omega, by omega, below_of HBR.out HB2.out⟩
      · go_wp2_with (fail)
        go_loopg [4] (ds.length + 1) (fun d v4 wx => ∃ i : Nat, v4 = .int .i64 (i : Int) ∧ i ≤ ds.length ∧ ds.length < d + i ∧ Below w1.heap.size w1 wx)
        case atStart => exact ⟨0, rfl, by omega, by omega, HBR.out⟩
        case round =>
          obtain ⟨j, rfl, hj, hd2, hbr2⟩ := hrel
          have h4r := H4.out.below hbr2
          have c0 := h4r.c0
          have c1 := h4r.c1
          have c2 := h4r.c2
          have c3 := h4r.c3
          have HBR2 := Lib.hid hbr2
          have HBW2 := Lib.hid (below_of HB.out hbr2)
          have HDr := Lib.hid (HD.out.keep (.of_below hbr2))
          have HXr := Lib.hid (NdsC.keep (.of_below hbr2) HX.out)
          clear h4r hbr2
          by_cases hlt2 : j < ds.length
          · obtain ⟨x, hx⟩ : ∃ x, ds[j]? = some x := ⟨_, List.getElem?_eq_getElem hlt2⟩
            obtain ⟨ad, kk, tt, An2, nn2, cn2, Ak2, nk2, ck2, rfl, -, d0, d1, d2, d3, hnd⟩ := ndAt HDr.out HXr.out rfl hx
            have e1 : IntKind.i64.wrap ((j : Int) + 1) = (j : Int) + 1 := IntWalk.i64_in _ (by omega)
            have HUQ := Lib.hid (fun (W : World) (hb : Below wr.heap.size wr W) => HIH.out x B kk tt An2 nn2 cn2 Ak2 nk2 ck2 W (by have h1 := kid_small (k := k') (t := t') (ks := ks) hx; have := HSZ.out; omega) (hnd.keep (.of_below hb)))
            clear hx hnd
            go_wp2_with (first
              | (go_at_call 6; (with_reducible refine (HUQ.out _ (by first | exact Below.refl _ _ | exact ⟨rfl, rfl, rfl, Nat.le_refl _, fun _ _ => rfl⟩)).mono ?_); rintro e w2 ⟨⟨bb, rfl⟩, hb2⟩; replace hb2 := Lib.hid hb2; cases bb))
            · go_ret
              exact ⟨⟨_, rfl⟩, below_of HBW2.out hb2.out⟩
            · go_roundg (gk - 1)
              case measure => omega
              case rel => exact ⟨j + 1, by go_num, by omega, by omega, below_of HBR2.out hb2.out⟩
          · go_wp2
            go_ret
            exact ⟨⟨_, rfl⟩, HBW2.out⟩
end
end Go.Proofs.YtkdkdhcjpgmjdaaDoor.Jp
namespace Go.Proofs.YtkdkdhcjpgmjdaaDoor.Jp
section
open Go.RowKit L
set_option linter.unusedVariables false
set_option linter.unusedSimpArgs false

/-- How Tree stands: its boxes, the names and nodes laid so far. -/
structure TrI (w : World) (gP gZ gN : Nat) (p0 p1 p2 p3 p4 : Value) (kd : Int) (tx : ByteArray) (vK vD : Value) (ks : List ByteArray) (ds : List Nt) (xs : List Value) (wx : World) : Prop where
  bel : Below w.heap.size w wx
  pl : B5 wx gP p0 p1 p2 p3 p4
  z : N4 wx gZ (.int .i64 0) (.string ⟨#[]⟩) (.slice none 0 0) (.slice none 0 0)
  nd : N4 wx gN (.int .i64 kd) (.string tx) vK vD
  ok : wx.ownsRow (gN + 1) 9 1 vK ks.length (keysV ks)
  od : wx.ownsRow (gN + 1) 32 4 vD ds.length xs
  ns : NdsC wx (fun j => gN + 1 ≤ j ∧ some j ≠ vD.ownBlock ∧ some j ≠ vK.ownBlock) ds xs
  lP : w.heap.size ≤ gP
  lZ : gP < gZ
  lN : gZ < gN
section
variable {w : World} {gP gZ gN : Nat} {p0 p1 p2 p3 p4 : Value} {kd : Int} {tx : ByteArray} {vK vD : Value} {ks : List ByteArray} {ds : List Nt} {xs : List Value} {wx wy : World}
theorem TrI.below (h : TrI w gP gZ gN p0 p1 p2 p3 p4 kd tx vK vD ks ds xs wx) (hb : Below wx.heap.size wx wy) : TrI w gP gZ gN p0 p1 p2 p3 p4 kd tx vK vD ks ds xs wy :=
  ⟨h.bel.trans (hb.mono h.bel.size), B5.below h.pl hb, h.z.below hb, h.nd.below hb, h.ok.kept (grown_of_below hb none) (by cases vK.ownBlock <;> simp), h.od.kept (grown_of_below hb none) (by cases vD.ownBlock <;> simp), NdsC.keep (.of_below hb) h.ns, h.lP, h.lZ, h.lN⟩
theorem below_grown {row : Option Nat} (h : Below w.heap.size w wx) (hg : wx.grownBy wy row) (hr : ∀ l, row = some l → w.heap.size ≤ l) : Below w.heap.size w wy :=
  ⟨hg.os.trans h.os, hg.tape.trans h.tape, hg.output.trans h.output, Nat.le_trans h.size hg.size, fun j hj => (hg.block j (Nat.lt_of_lt_of_le hj h.size) (fun e => by have := hr j e.symm; omega)).trans (h.block j hj)⟩
theorem n4_grown {row : Option Nat} {b : Nat} {v0 v1 v2 v3 : Value} (h : N4 wx b v0 v1 v2 v3) (hg : wx.grownBy wy row) (hr : some b ≠ row) : N4 wy b v0 v1 v2 v3 := (hg.block b h.lt hr).trans h
theorem n4_far {b g k : Nat} {v0 v1 v2 v3 u : Value} (h : N4 wx b v0 v1 v2 v3) (hne : b ≠ g) : N4 (wx.setCell ⟨g, k, none⟩ u) b v0 v1 v2 v3 := (Below.heap_setCell _ _ _ b hne).trans h
theorem TrI.key (h : TrI w gP gZ gN p0 p1 p2 p3 p4 kd tx vK vD ks ds xs wx) {x : ByteArray} {v' : Value} (ho : wy.ownsRow (gN + 1) 9 1 v' (ks.length + 1) (keysV ks ++ [.string x])) (hg : wx.grownBy wy vK.ownBlock) (hat : v'.ownBlock = vK.ownBlock ∨ v'.ownBlock = some wx.heap.size) :
    TrI w gP gZ gN p0 p1 p2 p3 p4 kd tx v' vD (ks ++ [x]) ds xs (wy.setCell ⟨gN, 2, none⟩ v') := by
  have h1 := h.lP
  have h2 := h.lZ
  have h3 := h.lN
  have hl : ∀ l, vK.ownBlock = some l → gN + 1 ≤ l := fun l e => (h.ok.lt l e).1
  have hne : ∀ l, l ≤ gN → some l ≠ vK.ownBlock := fun l hl' e => by have := hl l e.symm; omega
  refine ⟨(below_grown h.bel hg (fun l e => by have := hl l e; omega)).setCell (show w.heap.size ≤ gN by omega) _, ?_, n4_far (n4_grown h.z hg (hne _ (by omega))) (by omega), (n4_grown h.nd hg (hne _ (by omega))).set2 _, ?_, ?_, ?_, h1, h2, h3⟩
  · exact (h.pl.grown hg (hne _ (by omega))).far (show gP ≠ gN by omega) _
  · rw [List.length_append, keysV, List.map_append]
    exact ownsRow_setCell_below ho (show gN < gN + 1 by omega) _
  · exact ownsRow_setCell_below (h.od.kept hg (own_ne h.od h.ok (by decide))) (show gN < gN + 1 by omega) _
  · have h5 : NdsC wx (fun j => (gN + 1 ≤ j ∧ some j ≠ vD.ownBlock ∧ some j ≠ v'.ownBlock) ∧ some j ≠ vK.ownBlock) ds xs := h.ns.mono fun j hj hq => ⟨⟨hq.1, hq.2.1, fun e => by
      rcases hat with e' | e' <;> rw [e'] at e
      · exact hq.2.2 e
      · injection e; omega⟩, hq.2.2⟩
    have h6 := (h5.keep (.of_grown hg fun j hj => hj.2)).mono (B' := fun j => gN + 1 ≤ j ∧ some j ≠ vD.ownBlock ∧ some j ≠ v'.ownBlock) fun j _ hj => hj.1
    exact h6.keep ⟨by simp [World.setCell], fun j hj _ => Below.heap_setCell _ _ _ j (show j ≠ gN by omega)⟩
theorem TrI.kid (h : TrI w gP gZ gN p0 p1 p2 p3 p4 kd tx vK vD ks ds xs wx) {z : Nat} {nt : Nt} {cs : List Value} {v' : Value} (hn : NdC wx (From z) nt cs) (hz : ∀ j, vD.ownBlock = some j → j < z) (hzk : ∀ j, vK.ownBlock = some j → j < z) (hz0 : gN + 1 ≤ z)
    (ho : wy.ownsRow (gN + 1) 32 4 v' (ds.length + 1) (xs ++ cs)) (hg : wx.grownBy wy vD.ownBlock) (hat : v'.ownBlock = vD.ownBlock ∨ v'.ownBlock = some wx.heap.size) :
    TrI w gP gZ gN p0 p1 p2 p3 p4 kd tx vK v' ks (ds ++ [nt]) (xs ++ cs) (wy.setCell ⟨gN, 3, none⟩ v') := by
  have h1 := h.lP
  have h2 := h.lZ
  have h3 := h.lN
  have hl : ∀ l, vD.ownBlock = some l → gN + 1 ≤ l := fun l e => (h.od.lt l e).1
  have hne : ∀ l, l ≤ gN → some l ≠ vD.ownBlock := fun l hl' e => by have := hl l e.symm; omega
  refine ⟨(below_grown h.bel hg (fun l e => by have := hl l e; omega)).setCell (show w.heap.size ≤ gN by omega) _, ?_, n4_far (n4_grown h.z hg (hne _ (by omega))) (by omega), (n4_grown h.nd hg (hne _ (by omega))).set3 _, ?_, ?_, ?_, h1, h2, h3⟩
  · exact (h.pl.grown hg (hne _ (by omega))).far (show gP ≠ gN by omega) _
  · exact ownsRow_setCell_below (h.ok.kept hg (own_ne h.ok h.od (by decide))) (show gN < gN + 1 by omega) _
  · rw [List.length_append]
    exact ownsRow_setCell_below ho (show gN < gN + 1 by omega) _
  · have hk : Keeps (fun j => gN + 1 ≤ j ∧ some j ≠ vD.ownBlock ∧ some j ≠ v'.ownBlock ∧ some j ≠ vK.ownBlock) wx wy := .of_grown hg fun j hj => hj.2.1
    have h5 : NdsC wx (fun j => gN + 1 ≤ j ∧ some j ≠ vD.ownBlock ∧ some j ≠ v'.ownBlock ∧ some j ≠ vK.ownBlock) ds xs := h.ns.mono fun j hj hq => ⟨hq.1, hq.2.1, fun e => by
      rcases hat with e' | e' <;> rw [e'] at e
      · exact hq.2.1 e
      · injection e; omega, hq.2.2⟩
    have h6 : NdC wx (fun j => gN + 1 ≤ j ∧ some j ≠ vD.ownBlock ∧ some j ≠ v'.ownBlock ∧ some j ≠ vK.ownBlock) nt cs := hn.mono fun j hj hq => by
      have n1 : some j ≠ vD.ownBlock := fun e => by have := hz j e.symm; simp only [From] at hq; omega
      refine ⟨Nat.le_trans hz0 hq, n1, fun e => ?_, fun e => by have := hzk j e.symm; simp only [From] at hq; omega⟩
      rcases hat with e' | e' <;> rw [e'] at e
      · exact n1 e
      · injection e; omega
    have h7 := (NdsC.snoc (h6.keep hk) (h5.keep hk)).mono (B' := fun j => gN + 1 ≤ j ∧ some j ≠ v'.ownBlock ∧ some j ≠ vK.ownBlock) fun j _ hj => ⟨hj.1, hj.2.2.1, hj.2.2.2⟩
    exact h7.keep ⟨by simp [World.setCell], fun j hj _ => Below.heap_setCell _ _ _ j (show j ≠ gN by omega)⟩
theorem TrI.txt (h : TrI w gP gZ gN p0 p1 p2 p3 p4 kd tx vK vD ks ds xs wx) (t' : ByteArray) : TrI w gP gZ gN p0 p1 p2 p3 p4 kd t' vK vD ks ds xs (wx.setCell ⟨gN, 1, none⟩ (.string t')) := by
  have h1 := h.lP
  have h2 := h.lZ
  have h3 := h.lN
  refine ⟨h.bel.setCell (show w.heap.size ≤ gN by omega) _, h.pl.far (show gP ≠ gN by omega) _, n4_far h.z (by omega), h.nd.set1 _, ownsRow_setCell_below h.ok (show gN < gN + 1 by omega) _, ownsRow_setCell_below h.od (show gN < gN + 1 by omega) _, ?_, h1, h2, h3⟩
  exact h.ns.keep ⟨by simp [World.setCell], fun j hj _ => Below.heap_setCell _ _ _ j (show j ≠ gN by omega)⟩
end
theorem mchain_many {s : ByteArray} {n E : Nat} : ∀ {ns : List (Nat × Nat)} {qs : List Pl} {off : Nat}, MChain s n E off ns qs → off + ns.length ≤ E
  | [], qs, off, h => by cases h
  | [x], qs, off, h => by
    match qs, h with
    | [q], h =>
      have h1 := h.1.pos
      have h2 := skip_le isBlank s q.e
      have h3 := h.2.2
      simp only [List.length_cons, List.length_nil]
      omega
  | x :: y :: ns, qs, off, h => by
    match qs, h with
    | q :: r :: qs, h =>
      have ih := mchain_many h.2.2
      have h1 := h.1.pos
      have h2 := skip_le isBlank s q.e
      rw [List.length_cons]
      omega
theorem isval_len {s : ByteArray} {p : Pl} (h : IsVal s p) : p.names.length ≤ s.size ∧ p.kids.length ≤ s.size := by
  obtain ⟨n, off, hr⟩ := h
  have h0 : IsVal s p := ⟨n, off, hr⟩
  have hv := hr.2.2.1
  have hl := hr.2.1
  cases n with
  | zero => cases hv
  | succ n =>
    by_cases h6 : p.kind = 6
    · obtain ⟨-, -, ho⟩ := obj_in hv h6
      rcases ho with ⟨h1, h2⟩ | ho
      · rw [h1, h2]; exact ⟨Nat.zero_le _, Nat.zero_le _⟩
      · have h1 := mchain_many ho
        have h2 := (mchain_val ho).1
        have h3 := ho.end_.2.2
        omega
    · by_cases h5 : p.kind = 5
      · have h1 := kids_len h0 h5
        have h2 := arr_names hv h5
        rw [h2]; exact ⟨Nat.zero_le _, h1⟩
      · obtain ⟨h1, h2⟩ := leaf_val hv h6 h5
        rw [h1, h2]; exact ⟨Nat.zero_le _, Nat.zero_le _⟩
theorem info_nd : (Tryd.prog.info? 32).map (fun i => (i.zero, i.size, i.bytes)) = some (some (.agg #[.int .i64 0, .string ⟨#[]⟩, .slice none 0 0, .slice none 0 0]), 4, 72) := by kernel_rfl
theorem kid_small2 {p q : Pl} {i : Nat} (h : p.kids[i]? = some q) : SizeOf.sizeOf q < SizeOf.sizeOf p := by
  cases p with
  | mk kd b e ns ks =>
    have h1 := List.sizeOf_lt_of_mem (List.mem_of_getElem? (show ks[i]? = some q from h))
    simp only [Pl.mk.sizeOf_spec]
    omega
theorem info_str : (Tryd.prog.info? 9).map (fun i => (i.zero, i.size, i.bytes)) = some (some (.string ⟨#[]⟩), 1, 16) := by kernel_rfl
theorem str_at {s : ByteArray} {n off : Nat} {r : Pl} (hr : Rdv s n off r) (h4 : r.kind = 4) : strAt s r.b = some r.e := by
  have hv := hr.2.2.1
  have hv2 := vok _ _ _ _ (by have := hr.2.1; omega) hr.2.2.1
  obtain ⟨v1, v2, v3, v4, v5, v6, v7, v8, v9, v10⟩ := hv2
  rw [← v4] at v8
  rw [← hr.2.2.2.1] at hv
  cases n with
  | zero => cases hv
  | succ n =>
    have h34 := (v8 h4).1
    unfold valN at hv
    rw [if_neg (by omega), if_neg (by omega), if_pos h34] at hv
    simp only [Option.map_eq_some_iff, Prod.mk.injEq] at hv
    obtain ⟨x, g1, g2, -⟩ := hv
    rw [g2] at g1
    exact g1
/-- What Tree answers: some tree, in memory of its own. -/
def TreePost (w : World) (e : Ending) (w' : World) : Prop := ∃ (nt : Nt) (k : Int) (t : ByteArray) (An : Option Addr) (nn cn : Nat) (Ak : Option Addr) (nk ck : Nat),
  e = .returned (.agg #[.int .i64 k, .string t, .slice An nn cn, .slice Ak nk ck]) ∧ NdC w' (From w.heap.size) nt [.int .i64 k, .string t, .slice An nn cn, .slice Ak nk ck] ∧ Below w.heap.size w w'
def TreeC (s : ByteArray) (N : Nat) : Prop := ∀ (p : Pl) (B : Nat → Prop) (An : Option Addr) (nn cn : Nat) (Ak : Option Addr) (nk ck : Nat) (w : World), SizeOf.sizeOf p < N → IsVal s p → Pm w B p An nn cn Ak nk ck →
  Calls Tryd.prog 7 #[.string s, Pg p An nn cn Ak nk ck] w (TreePost w)
set_option maxRecDepth 100000 in
set_option maxHeartbeats 8000000 in
theorem treeStep (s : ByteArray) (hs : s.size ≤ 65536) (N : Nat) (ih : TreeC s N) : TreeC s (N + 1) := by
  intro p B An nn cn Ak nk ck w hN hv hm
  obtain ⟨w1, hw1⟩ : ∃ w1, w.alloc (.cells #[.int .i64 (p.kind : Int), .int .i64 (p.b : Int), .int .i64 (p.e : Int), .slice An nn cn, .slice Ak nk ck] 25) = w1 := ⟨_, rfl⟩
  obtain ⟨w2, hw2⟩ : ∃ w2, w1.alloc (.cells #[.int .i64 0, .string ⟨#[]⟩, .slice none 0 0, .slice none 0 0] 32) = w2 := ⟨_, rfl⟩
  have hb1 : Below w.heap.size w w1 := by rw [← hw1]; exact below_alloc (Below.refl _ _) _
  have hb2 : Below w1.heap.size w1 w2 := by rw [← hw2]; exact below_alloc (Below.refl _ _) _
  have hz1 : w1.heap.size = w.heap.size + 1 := by rw [← hw1]; simp
  have hz2 : w2.heap.size = w1.heap.size + 1 := by rw [← hw2]; simp
  have hp2 : B5 w2 w.heap.size (.int .i64 (p.kind : Int)) (.int .i64 (p.b : Int)) (.int .i64 (p.e : Int)) (.slice An nn cn) (.slice Ak nk ck) := B5.below (by rw [← hw1]; exact B5.new _ _ _ _ _ _) hb2
  have hn2 : N4 w2 w1.heap.size (.int .i64 0) (.string ⟨#[]⟩) (.slice none 0 0) (.slice none 0 0) := by rw [← hw2]; exact N4.new _ _ _ _ _
  have HP2 := Lib.hid hp2
  have HN2 := Lib.hid hn2
  have HB2 := Lib.hid (below_of hb1 hb2)
  have HZ1 := Lib.hid hz1
  have HZ2 := Lib.hid hz2
  have c0 := hp2.c0
  have c1 := hp2.c1
  have c2 := hp2.c2
  have c3 := hp2.c3
  have c4 := hp2.c4
  clear hp2 hn2 hb1 hb2 hz1 hz2
  have HIH := Lib.hid ih
  have HM := Lib.hid hm
  have HV := Lib.hid hv
  have HN := Lib.hid hN
  clear ih hm hv hN
  go_enter Tryd.func7, Tryd.ntmps7
  go_upto_region 2 with (fail)
  obtain ⟨w3, hw3⟩ : ∃ w3, w2.alloc (.cells #[.int .i64 (p.kind : Int), .string ⟨#[]⟩, .slice none 0 0, .slice none 0 0] 32) = w3 := ⟨_, rfl⟩
  have hb3 : Below w2.heap.size w2 w3 := by rw [← hw3]; exact below_alloc (Below.refl _ _) _
  have HT3 := Lib.hid (show TrI w w.heap.size w1.heap.size w2.heap.size (.int .i64 (p.kind : Int)) (.int .i64 (p.b : Int)) (.int .i64 (p.e : Int)) (.slice An nn cn) (.slice Ak nk ck) (p.kind : Int) ⟨#[]⟩ (.slice none 0 0) (.slice none 0 0) [] [] [] w3 from
    ⟨below_of HB2.out hb3, B5.below HP2.out hb3, HN2.out.below hb3, by rw [← hw3]; exact N4.new _ _ _ _ _, World.ownsRow_nil _ _ _ _, World.ownsRow_nil _ _ _ _, by simp [NdsC], Nat.le_refl _, by have := HZ1.out; omega, by have := HZ2.out; omega⟩)
  obtain ⟨nv, off, hrd⟩ := HV.out
  have hbe : p.b < p.e := hrd.2.2.2.2.2.1
  have hes : p.e ≤ s.size := hrd.2.2.2.2.1
  have HRD := Lib.hid hrd
  have b0 : (0 : Int) ≤ (p.b : Int) := by omega
  have b1 : (p.b : Int) ≤ (p.e : Int) := by omega
  have b2 : (p.e : Int) ≤ (s.size : Int) := by omega
  have hp3 := HT3.out.pl
  have c0 := hp3.c0
  have c1 := hp3.c1
  have c2 := hp3.c2
  have c3 := hp3.c3
  have c4 := hp3.c4
  have hn3 := HT3.out.nd
  have d1 := hn3.c1
  have e1 := hn3.f 1
  rw [hw3]
  clear hp3 hn3 hb3 hw3 hrd
  go_upto_block 0 with (fail)
  go_cut [7] (fun v7 wx => ∃ tx, TrI w w.heap.size w1.heap.size w2.heap.size (.int .i64 (p.kind : Int)) (.int .i64 (p.b : Int)) (.int .i64 (p.e : Int)) (.slice An nn cn) (.slice Ak nk ck) (p.kind : Int) tx (.slice none 0 0) (.slice none 0 0) [] [] [] wx)
  case first =>
    by_cases h3 : p.kind = 3
    · have k3 : ((p.kind : Int) == 3) = true := by rw [beq_iff_eq]; omega
      clear h3
      go_wp2
      go_meet
      case rel => exact ⟨_, HT3.out.txt _⟩
    · have k3 : ((p.kind : Int) == 3) = false := beq_eq_false_iff_ne.2 (by omega)
      by_cases h4 : p.kind = 4
      · have k4 : ((p.kind : Int) == 4) = true := by rw [beq_iff_eq]; omega
        have HUN := Lib.hid (unqName s (nameOf s (p.b, p.e)) (p.b, p.e) w3 ⟨show p.b + 1 < p.e by have := HRD.out.2.2.2.2.2.2.2 h4; omega, hes, str_at HRD.out h4⟩ hs rfl)
        clear h3 h4
        go_wp2_with (first
          | (go_at_call 19; (with_reducible refine HUN.out.mono ?_); rintro e w4 ⟨rfl, hb4⟩
             have HT4 := Lib.hid (HT3.out.below hb4)
             have hn4 := HT4.out.nd
             have d1 := hn4.c1
             have e1 := hn4.f 1
             clear hn4 hb4))
        go_meet
        case rel => exact ⟨_, HT4.out.txt _⟩
      · have k4 : ((p.kind : Int) == 4) = false := beq_eq_false_iff_ne.2 (by omega)
        clear h3 h4
        go_wp2
        go_meet
        case rel => exact ⟨_, HT3.out⟩
  case rest =>
  obtain ⟨tx, hT⟩ := hcut
  have HT := Lib.hid hT
  clear hT c0 c1 c2 c3 c4 d1 e1 HT3
  obtain ⟨i0, hi0, hz0, hz1, hz2⟩ := info_parts info_str
  have HI := Lib.hid hi0
  have HI0 := Lib.hid hz0
  have HI1 := Lib.hid hz1
  have HI2 := Lib.hid hz2
  have hnl : nn = p.names.length := HM.out.hn
  have hkl : nk = p.kids.length := HM.out.hk
  have HNL := Lib.hid hnl
  have HKL := Lib.hid hkl
  have hnm : nn ≤ 65536 := by have h1 := (isval_len HV.out).1; omega
  have hkm : nk ≤ 65536 := by have h1 := (isval_len HV.out).2; omega
  clear hi0 hz0 hz1 hz2 hnl hkl
  go_wp2_with (fail)
  go_loopg [6] (nn + 1) (fun d v6 wx => ∃ (k : Nat) (ks : List ByteArray) (vK : Value), v6 = .int .i64 (k : Int) ∧ k ≤ nn ∧ nn < d + k ∧ ks.length = k ∧ TrI w w.heap.size w1.heap.size w2.heap.size (.int .i64 (p.kind : Int)) (.int .i64 (p.b : Int)) (.int .i64 (p.e : Int)) (.slice An nn cn) (.slice Ak nk ck) (p.kind : Int) tx vK (.slice none 0 0) ks [] [] wx)
  case atStart => exact ⟨0, [], _, rfl, by omega, by omega, rfl, HT.out⟩
  case round =>
    obtain ⟨k, ks, vK, rfl, hk, hd, hkk, hT⟩ := hrel
    have HTr := Lib.hid hT
    have hp3 := hT.pl
    have c0 := hp3.c0
    have c1 := hp3.c1
    have c2 := hp3.c2
    have c3 := hp3.c3
    have c4 := hp3.c4
    have hn3 := hT.nd
    have d2 := hn3.c2
    have d3 := hn3.c3
    have e2 := hn3.f 2
    have HKK := Lib.hid hkk
    clear hp3 hn3 hT hkk
    by_cases hlt : k < nn
    · have hlt' : k < p.names.length := by have := HNL.out; omega
      obtain ⟨x, hx⟩ : ∃ x, p.names[k]? = some x := ⟨_, List.getElem?_eq_getElem hlt'⟩
      have hxv := (isval_in HV.out).2.1 x (List.mem_of_getElem? hx)
      obtain ⟨x0, x1⟩ := x
      obtain ⟨ad, rfl, hab, a0, a1⟩ := nameAt (HM.out.names.keep (.of_below HTr.out.bel)) HNL.out hx
      have HX := Lib.hid hx
      obtain ⟨nm, hnmv⟩ : ∃ nm, nameOf s (x0, x1) = nm := ⟨_, rfl⟩
      have q0 : (0 : Int) ≤ (x0 : Int) := by omega
      have q1 : (x0 : Int) ≤ (x1 : Int) := by have := hxv.1; simp only at this; omega
      have q2 : (x1 : Int) ≤ (s.size : Int) := by have := hxv.2.1; simp only at this; omega
      have kk1 : IntKind.i64.wrap ((k : Int) + 1) = (k : Int) + 1 := IntWalk.i64_in _ (by omega)
      have HUN := Lib.hid (show Calls Tryd.prog 19 #[.string (s.extract x0 x1)] wr.drew fun e w' => e = .returned (.string nm) ∧ Below wr.heap.size wr w' from by
        refine (unqName s nm (x0, x1) wr.drew hxv hs hnmv).mono ?_
        rintro e w' ⟨rfl, hb⟩
        exact ⟨rfl, below_drew_one hb⟩)
      clear hx hxv hnmv
      go_upto_region 10 with (fail)
      go_region_law (first
        | (refine step_append_lies _ rfl (.tmp 40) (.tmp 56) 29 rfl (w2.heap.size + 1) 9 i0 _ 1 16 Tryd.underlying29 HI.out HI0.out HI1.out HI2.out rfl (by decide) _ ks.length (keysV ks) rfl (HT4.out.ok.alloc _) ⟨w4.heap.size, 0, none⟩ 1 1 [.string nm] rfl rfl (World.news_of_block (cs := #[.string nm]) (t := 9) (fr := (0, 0)) (heap_alloc_new _ _)) (by simp [Value.oneCell']) (by decide) (by simp only [maxLen]; have := HKK.out; omega) (by have := HKK.out; omega) (by have := HT4.out.nd.lt; simp; omega) _ rfl ?_
           intro g5 cap5 w5 hO5 hg5 hat5 _
           have HT5a := Lib.hid (HT4.out.below (below_alloc (Below.refl _ _) (.cells #[.string nm] 9)))
           have hn5 := n4_grown HT5a.out.nd hg5 (fun e => by have := (HT5a.out.ok.lt _ e.symm).1; omega)
           have d2 := hn5.c2
           have e2 := hn5.f 2
           have HO5 := Lib.hid hO5
           have HG5 := Lib.hid hg5
           have HA5 := Lib.hid hat5
           clear hn5 hO5 hg5 hat5)
        | (go_simp; go_at_call 19; (with_reducible refine HUN.out.mono ?_); rintro e w4 ⟨rfl, hb4⟩
           have HT4 := Lib.hid (HTr.out.below hb4)
           have hp4 := HT4.out.pl
           have c0 := hp4.c0
           have c1 := hp4.c1
           have c2 := hp4.c2
           have c3 := hp4.c3
           have c4 := hp4.c4
           have hn4 := HT4.out.nd
           have d2 := hn4.c2
           have d3 := hn4.c3
           have e2 := hn4.f 2
           have a0 := (hb4.cell (p := ad.add (k * 2)) (by rw [add_block]; exact hab)).trans a0
           have a1 := (hb4.cell (p := ⟨(ad.add (k * 2)).block, (ad.add (k * 2)).off + 1, none⟩) (show (ad.add (k * 2)).block < _ by rw [add_block]; exact hab)).trans a1
           have hTa := HT4.out.below (below_alloc (Below.refl _ _) (.cells #[.string nm] 9))
           have d2a := hTa.nd.c2
           have e2a := hTa.nd.f 2
           clear hp4 hn4 hTa
           replace hb4 := Lib.hid hb4))
      all_goals
        clear c0 c1 c2 c3 c4 d3 a0 a1
        go_wp2
        go_roundg (gk - 1)
        case measure => omega
        case rel => exact ⟨k + 1, ks ++ [nm], _, by go_num, by omega, by omega, by rw [List.length_append, HKK.out]; rfl, HT5a.out.key HO5.out HG5.out (by rcases HA5.out with h | h; exact .inl h.symm; exact .inr (by rw [← h]; rfl))⟩
    · have hnk : ks.length = ks.length := rfl
      obtain ⟨i2, hi0, hz0, hz1, hz2⟩ := info_parts info_nd
      have HJ := Lib.hid hi0
      have HJ0 := Lib.hid hz0
      have HJ1 := Lib.hid hz1
      have HJ2 := Lib.hid hz2
      clear hi0 hz0 hz1 hz2
      go_wp2_with (fail)
      clear c0 c1 c2 c3 c4 d2 d3 e2
      go_loopg [7] (nk + 1) (fun d v7 wx => ∃ (j : Nat) (ds : List Nt) (vD : Value) (xs : List Value), v7 = .int .i64 (j : Int) ∧ j ≤ nk ∧ nk < d + j ∧ ds.length = j ∧ TrI w w.heap.size w1.heap.size w2.heap.size (.int .i64 (p.kind : Int)) (.int .i64 (p.b : Int)) (.int .i64 (p.e : Int)) (.slice An nn cn) (.slice Ak nk ck) (p.kind : Int) tx vK vD ks ds xs wx)
      case atStart => exact ⟨0, [], _, [], rfl, by omega, by omega, rfl, HTr.out⟩
      case round =>
        obtain ⟨j, ds, vD, xs, rfl, hj, hd2, hjj, hT⟩ := hrel
        have HT2 := Lib.hid hT
        have hp3 := hT.pl
        have c0 := hp3.c0
        have c1 := hp3.c1
        have c2 := hp3.c2
        have c3 := hp3.c3
        have c4 := hp3.c4
        have HJJ := Lib.hid hjj
        by_cases hlt2 : j < nk
        · have hn3 := hT.nd
          have d2 := hn3.c2
          have d3 := hn3.c3
          have e3 := hn3.f 3
          clear hp3 hn3 hT hjj
          have hlt' : j < p.kids.length := by have := HKL.out; omega
          obtain ⟨q, hq⟩ : ∃ q, p.kids[j]? = some q := ⟨_, List.getElem?_eq_getElem hlt'⟩
          have hqv := (isval_in HV.out).1 q (List.mem_of_getElem? hq)
          obtain ⟨ad, An', cn', Ak', ck', rfl, hab, -, a0, a1, a2, a3, a4, hpm⟩ := kidAt (HM.out.keep (.of_below HT2.out.bel)) hq
          have jj1 : IntKind.i64.wrap ((j : Int) + 1) = (j : Int) + 1 := IntWalk.i64_in _ (by omega)
          have HTR := Lib.hid (show Calls Tryd.prog 7 #[.string s, Pg q An' q.names.length cn' Ak' q.kids.length ck'] wr.drew fun e w' => ∃ (nt : Nt) (k : Int) (t : ByteArray) (An : Option Addr) (nn cn : Nat) (Ak : Option Addr) (nk ck : Nat), e = .returned (.agg #[.int .i64 k, .string t, .slice An nn cn, .slice Ak nk ck]) ∧ NdC w' (From wr.heap.size) nt [.int .i64 k, .string t, .slice An nn cn, .slice Ak nk ck] ∧ Below wr.heap.size wr w' from by
            refine (HIH.out q B An' q.names.length cn' Ak' q.kids.length ck' wr.drew (by have h1 := kid_small2 hq; have := HN.out; omega) hqv (hpm.keep (.drewN _ _ 1))).mono ?_
            rintro e w' ⟨nt, k, t, b1, b2, b3, b4, b5, b6, h1, h2, h3⟩
            exact ⟨nt, k, t, b1, b2, b3, b4, b5, b6, h1, h2, below_drew_one h3⟩)
          clear hq hqv hpm
          go_upto_region 14 with (fail)
          go_region_law (first
            | (refine step_append_lies _ rfl (.tmp 67) (.tmp 75) 30 rfl (w2.heap.size + 1) 32 i2 _ 4 72 Tryd.underlying30 HJ.out HJ0.out HJ1.out HJ2.out rfl (by decide) _ ds.length xs rfl (HT4.out.od.alloc _) ⟨w4.heap.size, 0, none⟩ 1 1 [.int .i64 tk, .string tt, .slice tA tn tc, .slice uA un uc] rfl rfl (World.news_of_block (cs := #[.int .i64 tk, .string tt, .slice tA tn tc, .slice uA un uc]) (t := 32) (fr := (0, 0)) (heap_alloc_new _ _)) (by simp [Value.oneCell']) (by decide) (by simp only [maxLen]; have := HJJ.out; omega) (by have := HJJ.out; omega) (by have := HT4.out.nd.lt; simp; omega) _ rfl ?_
               intro g5 cap5 w5 hO5 hg5 hat5 _
               have HT5a := Lib.hid (HT4.out.below (below_alloc (Below.refl _ _) (.cells #[.int .i64 tk, .string tt, .slice tA tn tc, .slice uA un uc] 32)))
               have HN5a := Lib.hid (NdC.keep (.alloc _ _ (.cells #[.int .i64 tk, .string tt, .slice tA tn tc, .slice uA un uc] 32)) HN4.out)
               have hn5 := n4_grown HT5a.out.nd hg5 (fun e => by have := (HT5a.out.od.lt _ e.symm).1; omega)
               have d3 := hn5.c3
               have e3 := hn5.f 3
               have HO5 := Lib.hid hO5
               have HG5 := Lib.hid hg5
               have HA5 := Lib.hid hat5
               clear hn5 hO5 hg5 hat5)
            | (go_simp; go_at_call 7; (with_reducible refine HTR.out.mono ?_); rintro e w4 ⟨tn0, tk, tt, tA, tn, tc, uA, un, uc, rfl, hn4, hb4⟩
               have HT4 := Lib.hid (HT2.out.below hb4)
               have HN4 := Lib.hid hn4
               have hp4 := HT4.out.pl
               have c0 := hp4.c0
               have c1 := hp4.c1
               have c2 := hp4.c2
               have c3 := hp4.c3
               have c4 := hp4.c4
               have hn5 := HT4.out.nd
               have d2 := hn5.c2
               have d3 := hn5.c3
               have e3 := hn5.f 3
               have hTa := HT4.out.below (below_alloc (Below.refl _ _) (.cells #[.int .i64 tk, .string tt, .slice tA tn tc, .slice uA un uc] 32))
               have d3a := hTa.nd.c3
               have e3a := hTa.nd.f 3
               clear hp4 hn5 hTa hn4
               replace hb4 := Lib.hid hb4))
          all_goals
            clear c0 c1 c2 c3 c4 d2 a0 a1 a2 a3 a4
            go_wp2
            go_roundg (gk - 1)
            case measure => omega
            case rel => exact ⟨j + 1, ds ++ [tn0], _, _, by go_num, by omega, by omega, by rw [List.length_append, HJJ.out]; rfl, HT5a.out.kid HN5a.out (fun l e => (HT2.out.od.lt l e).2) (fun l e => (HT2.out.ok.lt l e).2) (by have := HT2.out.nd.lt; omega) HO5.out HG5.out (by rcases HA5.out with h | h; exact .inl h.symm; exact .inr (by rw [← h]; rfl))⟩
        · obtain ⟨A5, c5, rfl, hrk⟩ := Row.of_own HT2.out.ok
          obtain ⟨A6, c6, rfl, hrd⟩ := Row.of_own HT2.out.od
          have hn3 := HT2.out.nd
          have d0 := hn3.c0
          have d1 := hn3.c1
          have d2 := hn3.c2
          have d3 := hn3.c3
          have hz3 := HT2.out.z
          have z0 := hz3.c0
          have z1 := hz3.c1
          have z2 := hz3.c2
          have z3 := hz3.c3
          have y0 := hz3.f 0
          have y1 := hz3.f 1
          have y2 := hz3.f 2
          have y3 := hz3.f 3
          have HRK := Lib.hid hrk
          have HRD2 := Lib.hid hrd
          clear hp3 hn3 hz3 hT hjj hrk hrd
          go_wp2
          refine bodyPost_ret (v := .agg #[.int .i64 (p.kind : Int), .string tx, .slice A5 ks.length c5, .slice A6 ds.length c6]) (by simp [results, Tryd.results7, go_sem, z0, z1, z2, z3]) rfl ?_
          have l1 := HT2.out.lP
          have l2 := HT2.out.lZ
          have l3 := HT2.out.lN
          obtain ⟨wf, hwf⟩ : ∃ wf, ((((wr.setCell ⟨w1.heap.size, 0, none⟩ (.int .i64 (p.kind : Int))).setCell ⟨w1.heap.size, 1, none⟩ (.string tx)).setCell ⟨w1.heap.size, 2, none⟩ (.slice A5 ks.length c5)).setCell ⟨w1.heap.size, 3, none⟩ (.slice A6 ds.length c6)) = wf := ⟨_, rfl⟩
          rw [hwf]
          have hK : Keeps (From (w2.heap.size + 1)) wr wf := by
            rw [← hwf]
            refine ⟨by simp [World.setCell], fun l hl _ => ?_⟩
            simp only [From] at hl
            iterate 4 rw [Below.heap_setCell _ _ _ l (show l ≠ w1.heap.size by omega)]
          have hB : Below w.heap.size w wf := by
            rw [← hwf]
            iterate 4 refine Below.setCell ?_ (show w.heap.size ≤ w1.heap.size by omega) _
            exact HT2.out.bel
          have hF : ∀ l, l < wf.heap.size → From (w2.heap.size + 1) l → From w.heap.size l := fun l _ hl => by simp only [From] at hl ⊢; omega
          refine ⟨.mk (p.kind : Int) tx ks ds, _, _, _, _, _, _, _, _, rfl, ?_, hB⟩
          simp only [NdC]
          exact ⟨A5, c5, A6, c6, xs, rfl, (HRK.out.keep hK).mono hF, (HRD2.out.keep hK).mono hF, ((HT2.out.ns.mono (B' := From (w2.heap.size + 1)) fun l _ hl => hl.1).keep hK).mono hF⟩
theorem treeW (s : ByteArray) (hs : s.size ≤ 65536) : ∀ N, TreeC s N
  | 0 => fun _ _ _ _ _ _ _ _ _ h => absurd h (Nat.not_lt_zero _)
  | N + 1 => treeStep s hs N (treeW s hs N)
end
end Go.Proofs.YtkdkdhcjpgmjdaaDoor.Jp
namespace Go.Proofs.YtkdkdhcjpgmjdaaDoor.Jp
section
open Go.RowKit L
set_option linter.unusedVariables false
set_option linter.unusedSimpArgs false

theorem oneByte (d : Nat) (hd : d < 256) : ∃ one : ByteArray, one.size = 1 ∧ bv one = [.int .u8 (d : Int)] := by
  refine ⟨⟨#[UInt8.ofNat d]⟩, rfl, ?_⟩
  have e : bt ⟨#[UInt8.ofNat d]⟩ ((0 : Nat) : Int) = (d : Int) := by
    have h := bt_at ⟨#[UInt8.ofNat d]⟩ 0 (show 0 < 1 by decide)
    rw [← h]
    show ((UInt8.ofNat d).toNat : Int) = (d : Int)
    rw [UInt8.toNat_ofNat']
    omega
  unfold bv
  show [Value.int .u8 (bt ⟨#[UInt8.ofNat d]⟩ ((0 : Nat) : Int))] = _
  rw [e]
theorem pow_step {m k : Nat} (h : m * 10 ^ k ≤ 65536) : m / 10 * 10 ^ (k + 1) ≤ 65536 := by
  rw [Nat.pow_succ, Nat.mul_comm (10 ^ k) 10, ← Nat.mul_assoc]
  exact Nat.le_trans (Nat.mul_le_mul_right _ (Nat.div_mul_le_self m 10)) h
theorem pow_small {m k : Nat} (h : m * 10 ^ k ≤ 65536) (hm : 0 < m) : k ≤ 4 := by
  rcases Nat.lt_or_ge k 5 with h1 | h1
  · omega
  · have h2 := Nat.pow_le_pow_right (n := 10) (by omega) h1
    have h3 : 1 * 10 ^ k ≤ m * 10 ^ k := Nat.mul_le_mul_right _ hm
    have e : 10 ^ 5 = 100000 := by decide
    omega
set_option maxRecDepth 100000 in
set_option maxHeartbeats 4000000 in
theorem digitsW (n : Nat) (hn : n ≤ 65536) (w : World) :
    Calls Tryd.prog 13 #[.int .u64 (n : Int)] w fun e w' => (∃ t : ByteArray, e = .returned (.string t) ∧ t.size ≤ 20) ∧ Below w.heap.size w w' := by
  go_enter Tryd.func13, Tryd.ntmps13
  go_wp2_with (fail)
  go_loopg [0, 3] (n + 1) (fun d v0 v3 wx => ∃ (m : Nat) (t : ByteArray), v0 = .int .u64 (m : Int) ∧ m < d ∧ m * 10 ^ t.size ≤ 65536 ∧ t.size ≤ 5 ∧ Own wx w.heap.size v3 t ∧ Below w.heap.size w wx)
  case atStart => exact ⟨n, ByteArray.empty, rfl, by omega, by simpa using hn, by decide, Own.nil _ _, Below.refl _ _⟩
  case round =>
    obtain ⟨m, t, rfl, hmd, hm, ht, ho, hb⟩ := hrel
    have HO := Lib.hid ho
    have HB := Lib.hid hb
    have HM := Lib.hid hm
    have hml : m ≤ 65536 := Nat.le_trans (Nat.le_mul_of_pos_right m (Nat.pow_pos (by omega))) hm
    obtain ⟨A3, c3, rfl, hc3, hr3⟩ := ho.rd
    have HR3 := Lib.hid hr3
    clear ho hb hm hr3
    obtain ⟨one, h1, h2⟩ := oneByte (48 + m % 10) (by omega)
    have hcast : ((48 + m % 10 : Nat) : Int) = 48 + (m : Int) % 10 := by omega
    rw [hcast] at h2
    have hdv : ((m : Int) / 10) = ((m / 10 : Nat) : Int) := by omega
    have HOW := Lib.hid (show Own (wr.alloc (.cells #[.int .u8 (48 + (m : Int) % 10)] 5)) w.heap.size (.slice (some ⟨wr.heap.size, 0, none⟩) 1 1) one from
      .inr ⟨wr.heap.size, 1, #[.int .u8 (48 + (m : Int) % 10)], 5, by rw [h1], HB.out.size, heap_alloc_new _ _, by omega, Nat.le_refl 1, by unfold maxLen; omega, by rw [h1, h2]; rfl⟩)
    have H1 := Lib.hid h1
    clear h1 h2 hcast hdv
    have HRA := Lib.hid (HR3.out.below (below_alloc (Below.refl _ _) (.cells #[.int .u8 (48 + (m : Int) % 10)] 5)))
    have hsz : one.size + t.size ≤ 140737488355328 := by rw [H1.out]; omega
    have hbs : w.heap.size ≤ (wr.alloc (.cells #[.int .u8 (48 + (m : Int) % 10)] 5)).heap.size := by have := HB.out.size; simp; omega
    have HSZ := Lib.hid hsz
    have HBS := Lib.hid hbs
    clear hsz hbs
    go_upto_region 3 with (first
      | (at_builtin; (refine app_rd _ rfl (.tmp 8) (.tmp 9) rfl w.heap.size (.slice (some ⟨wr.heap.size, 0, none⟩) 1 1) one t _ _ _ rfl rfl rfl HOW.out HRA.out HSZ.out HBS.out ?_); intro v5 w5 hO5 hg5 hat5))
    have hba : Below w.heap.size w (wr.alloc (.cells #[.int .u8 (48 + (m : Int) % 10)] 5)) := below_alloc HB.out _
    have HB5 := Lib.hid (show Below w.heap.size w w5 from ⟨hg5.os.trans hba.os, hg5.tape.trans hba.tape, hg5.output.trans hba.output, Nat.le_trans hba.size hg5.size, fun j hj => (hg5.block j (Nat.lt_of_lt_of_le hj hba.size) (fun e => by
      have h1 : j = wr.heap.size := by simpa [Value.ownBlock] using e
      have h2 := HB.out.size
      omega)).trans (hba.block j hj)⟩)
    have HZ5 := Lib.hid (show (one ++ t).size = t.size + 1 by rw [ByteArray.size_append, H1.out]; omega)
    obtain ⟨z5, hz5⟩ : ∃ z, one ++ t = z := ⟨_, rfl⟩
    rw [hz5] at hO5 HZ5
    clear hz5
    have HO5 := Lib.hid hO5
    obtain ⟨A5, c5, rfl, hc5, hr5⟩ := hO5.rd
    have hcv : (convert 58 9 (.slice A5 z5.size c5)).run Tryd.prog w5 = .ok (.string z5) w5 := hr5.string Tryd.underlying58 Tryd.underlying5 Tryd.underlying9
    clear hba hg5 hat5 hO5 hr5 hc5
    by_cases hz : m / 10 = 0
    · have hz1 : (m : Int) / 10 = 0 := by omega
      clear hz
      go_wp2
      go_ret
      exact ⟨⟨z5, rfl, by rw [HZ5.out]; omega⟩, HB5.out⟩
    · have hz1 : ((m : Int) / 10 == 0) = false := by rw [beq_eq_false_iff_ne]; omega
      have hz2 : ¬ (m : Int) / 10 = 0 := by omega
      have hp := pow_small (m := m / 10) (k := t.size + 1) (pow_step HM.out) (by omega)
      clear hz
      go_wp2
      go_roundg (gk - 1)
      case measure => omega
      case rel => exact ⟨m / 10, z5, by congr 1, by omega, by rw [HZ5.out]; exact pow_step HM.out, by rw [HZ5.out]; omega, HO5.out, HB5.out⟩
end
end Go.Proofs.YtkdkdhcjpgmjdaaDoor.Jp
namespace Go.Proofs.YtkdkdhcjpgmjdaaDoor.Jp
section
open Go.RowKit L
set_option linter.unusedVariables false
set_option linter.unusedSimpArgs false

theorem utfB_len (c : Int) : (utfB c).length ≤ 4 := by
  unfold utfB
  repeat' split
  all_goals simp
theorem step_len (s : ByteArray) (i : Nat) : (unqStep s i).1.length ≤ 4 := by
  unfold unqStep
  repeat' split
  all_goals first | exact utfB_len _ | simp
theorem unqN_len (s : ByteArray) : ∀ k i, (unqN s k i).length ≤ 4 * k
  | 0, _ => by simp [unqN]
  | k + 1, i => by
    unfold unqN
    split
    · have h1 := step_len s i
      have h2 := unqN_len s k (unqStep s i).2
      rw [List.length_append]
      omega
    · simp
theorem nameOf_size {s : ByteArray} (x : Nat × Nat) (hs : s.size ≤ 65536) : (nameOf s x).size ≤ 1000000 := by
  have h0 : (nameOf s x).size = (unq (s.extract (x.1 + 1) (x.2 - 1)) 0).length := by simp [nameOf, strOfNums, ByteArray.size]
  have h1 := unqN_len (s.extract (x.1 + 1) (x.2 - 1)) ((s.extract (x.1 + 1) (x.2 - 1)).size - 0) 0
  have h2 : (s.extract (x.1 + 1) (x.2 - 1)).size ≤ s.size := by rw [ByteArray.size_extract]; omega
  unfold unq at h0
  omega
/-- How much places take together. -/
def spans : List Pl → Nat
  | [] => 0
  | q :: qs => (q.e - q.b) + spans qs
theorem echain_sum {s : ByteArray} {n E : Nat} : ∀ {qs : List Pl} {off : Nat}, EChain s n E off qs → off + spans qs + 1 ≤ E
  | [], off, h => by cases h
  | [q], off, h => by
    have h1 := h.1
    have h2 := h.2.2
    have a1 := skip_le isBlank s off
    have a2 := skip_le isBlank s q.e
    have a3 := h1.2.2.2.1
    have a4 := h1.2.2.2.2.2.1
    simp only [spans]
    omega
  | q :: r :: qs, off, h => by
    have ih := echain_sum h.2.2
    have h1 := h.1
    have a1 := skip_le isBlank s off
    have a2 := skip_le isBlank s q.e
    have a3 := h1.2.2.2.1
    have a4 := h1.2.2.2.2.2.1
    rw [spans]
    omega
theorem mchain_sum {s : ByteArray} {n E : Nat} : ∀ {ns : List (Nat × Nat)} {qs : List Pl} {off : Nat}, MChain s n E off ns qs → off + spans qs + 1 ≤ E
  | [], qs, off, h => by cases h
  | [x], qs, off, h => by
    match qs, h with
    | [q], h =>
      have h1 := h.1.pos
      have h2 := skip_le isBlank s q.e
      have h3 := h.2.2
      simp only [spans]
      omega
  | x :: y :: ns, qs, off, h => by
    match qs, h with
    | q :: r :: qs, h =>
      have ih := mchain_sum h.2.2
      have h1 := h.1.pos
      have h2 := skip_le isBlank s q.e
      rw [spans]
      omega
theorem kids_sum {s : ByteArray} {p : Pl} (h : IsVal s p) : spans p.kids + 1 ≤ p.e - p.b := by
  obtain ⟨n, off, hr⟩ := h
  have hv := hr.2.2.1
  have hl := hr.2.1
  have hb := hr.2.2.2.1
  have hbe := hr.2.2.2.2.2.1
  cases n with
  | zero => cases hv
  | succ n =>
    by_cases h6 : p.kind = 6
    · obtain ⟨-, -, ho⟩ := obj_in hv h6
      rcases ho with ⟨h1, h2⟩ | ho
      · rw [h2]; simp only [spans]; omega
      · have h1 := mchain_sum ho
        omega
    · by_cases h5 : p.kind = 5
      · obtain ⟨-, -, ha⟩ := arr_in2 (by omega) hv h5
        rcases ha with ⟨h1, -⟩ | ⟨-, ha⟩
        · rw [h1]; simp only [spans]; omega
        · have h1 := echain_sum ha
          omega
      · obtain ⟨h1, h2⟩ := leaf_val hv h6 h5
        rw [h2]; simp only [spans]; omega
theorem spans_take : ∀ {qs : List Pl} {k : Nat} {q : Pl}, qs[k]? = some q → spans (qs.take k) + (q.e - q.b) = spans (qs.take (k + 1))
  | [], _, _, h => by cases h
  | p :: qs, 0, q, h => by
    simp only [List.getElem?_cons_zero, Option.some.injEq] at h
    subst h
    simp [spans]
  | p :: qs, k + 1, q, h => by
    rw [List.getElem?_cons_succ] at h
    have ih := spans_take h
    simp only [List.take_succ_cons, spans]
    omega
theorem spans_le : ∀ (qs : List Pl) (k : Nat), spans (qs.take k) ≤ spans qs
  | [], k => by simp [spans]
  | p :: qs, 0 => by simp [spans]
  | p :: qs, k + 1 => by
    have ih := spans_le qs k
    simp only [List.take_succ_cons, spans]
    omega
/-- Rows of keys, their cells: a slice each. -/
def KsC (w : World) (B : Nat → Prop) (ps : List (List ByteArray)) (xs : List Value) : Prop :=
  xs.length = ps.length ∧ ∀ (i : Nat) (k : List ByteArray), ps[i]? = some k → ∃ ad c, xs[i]? = some (.slice (some ad) k.length c) ∧ Row w B 1 (some ad) k.length c (keysV k)
section
variable {w w' : World} {B B' : Nat → Prop} {ps : List (List ByteArray)} {xs : List Value}
theorem KsC.keep (h : KsC w B ps xs) (hk : Keeps B w w') : KsC w' B ps xs := ⟨h.1, fun i k hi => by
  obtain ⟨ad, c, h1, h2⟩ := h.2 i k hi
  exact ⟨ad, c, h1, h2.keep hk⟩⟩
theorem KsC.mono (h : KsC w B ps xs) (hb : ∀ j, j < w.heap.size → B j → B' j) : KsC w B' ps xs := ⟨h.1, fun i k hi => by
  obtain ⟨ad, c, h1, h2⟩ := h.2 i k hi
  exact ⟨ad, c, h1, h2.mono hb⟩⟩
theorem KsC.snoc (h : KsC w B ps xs) {k : List ByteArray} {ad : Addr} {c : Nat} (hr : Row w B 1 (some ad) k.length c (keysV k)) : KsC w B (ps ++ [k]) (xs ++ [.slice (some ad) k.length c]) := by
  refine ⟨by rw [List.length_append, List.length_append, h.1]; rfl, fun i x hi => ?_⟩
  by_cases hlt : i < ps.length
  · rw [List.getElem?_append_left hlt] at hi
    obtain ⟨a, d, h1, h2⟩ := h.2 i x hi
    exact ⟨a, d, by rw [List.getElem?_append_left (by rw [h.1]; exact hlt)]; exact h1, h2⟩
  · rw [List.getElem?_append_right (by omega)] at hi
    have hi0 : i - ps.length = 0 := by
      by_cases h0 : i - ps.length = 0
      · exact h0
      · rw [List.getElem?_eq_none (by simp; omega)] at hi; cases hi
    rw [hi0] at hi
    simp only [List.getElem?_cons_zero, Option.some.injEq] at hi
    subst hi
    exact ⟨ad, c, by rw [List.getElem?_append_right (by rw [h.1]; omega), h.1, hi0]; rfl, hr⟩
end
/-- Row k of the rows of keys. -/
theorem ksAt {w : World} {B : Nat → Prop} {A : Option Addr} {n c k : Nat} {ps : List (List ByteArray)} {xs : List Value} {x : List ByteArray} (hR : Row w B 1 A n c xs) (hC : KsC w B ps xs) (hk : ps[k]? = some x) :
    ∃ ad ak ck, A = some ad ∧ ad.block < w.heap.size ∧ w.cell? (ad.add k) = some (.slice (some ak) x.length ck) ∧ Row w B 1 (some ak) x.length ck (keysV x) := by
  have hn := hR.1
  have hx := hC.1
  have hkl : k < ps.length := (List.getElem?_eq_some_iff.1 hk).1
  obtain ⟨ad, rfl, hB, hlt, hc⟩ := hR.2.2.2 (by omega)
  obtain ⟨ak, ck, h1, h2⟩ := hC.2 k x hk
  exact ⟨ad, ak, ck, rfl, hlt, hc k _ h1, h2⟩
/-- What Paths answers: some rows of keys, at most N of them, each of at most N keys. -/
def PathsPost (N : Nat) (w : World) (e : Ending) (w' : World) : Prop := ∃ (ps : List (List ByteArray)) (A : Option Addr) (c : Nat) (xs : List Value), e = .returned (.slice A ps.length c) ∧ Row w' (From w.heap.size) 1 A ps.length c xs ∧ KsC w' (From w.heap.size) ps xs ∧
  ps.length ≤ N ∧ (∀ k ∈ ps, k.length ≤ N ∧ ∀ x ∈ k, x.size ≤ 1000000) ∧ Below w.heap.size w w'
end
end Go.Proofs.YtkdkdhcjpgmjdaaDoor.Jp
namespace Go.Proofs.YtkdkdhcjpgmjdaaDoor.Jp
section
open Go.RowKit L
set_option linter.unusedVariables false
set_option linter.unusedSimpArgs false

/-- How Paths stands: its place's box, the rows of keys laid so far. -/
structure PtI (w : World) (gP : Nat) (p0 p1 p2 p3 p4 vO : Value) (ps : List (List ByteArray)) (xs : List Value) (wx : World) : Prop where
  bel : Below w.heap.size w wx
  pl : B5 wx gP p0 p1 p2 p3 p4
  out : wx.ownsRow (gP + 1) 29 1 vO ps.length xs
  ks : KsC wx (fun j => gP + 1 ≤ j ∧ some j ≠ vO.ownBlock) ps xs
  lP : w.heap.size ≤ gP
section
variable {w : World} {gP : Nat} {p0 p1 p2 p3 p4 vO : Value} {ps : List (List ByteArray)} {xs : List Value} {wx wy : World}
theorem PtI.below (h : PtI w gP p0 p1 p2 p3 p4 vO ps xs wx) (hb : Below wx.heap.size wx wy) : PtI w gP p0 p1 p2 p3 p4 vO ps xs wy :=
  ⟨h.bel.trans (hb.mono h.bel.size), B5.below h.pl hb, h.out.kept (grown_of_below hb none) (by cases vO.ownBlock <;> simp), h.ks.keep (.of_below hb), h.lP⟩
theorem PtI.push (h : PtI w gP p0 p1 p2 p3 p4 vO ps xs wx) {z : Nat} {k : List ByteArray} {ad : Addr} {c : Nat} {v' : Value} (hn : Row wx (From z) 1 (some ad) k.length c (keysV k)) (hz : ∀ j, vO.ownBlock = some j → j < z) (hz0 : gP + 1 ≤ z)
    (hlt : z ≤ wx.heap.size)
    (ho : wy.ownsRow (gP + 1) 29 1 v' (ps.length + 1) (xs ++ [.slice (some ad) k.length c])) (hg : wx.grownBy wy vO.ownBlock) (hat : v'.ownBlock = vO.ownBlock ∨ v'.ownBlock = some wx.heap.size) :
    PtI w gP p0 p1 p2 p3 p4 v' (ps ++ [k]) (xs ++ [.slice (some ad) k.length c]) wy := by
  have h1 := h.lP
  have hl : ∀ l, vO.ownBlock = some l → gP + 1 ≤ l := fun l e => (h.out.lt l e).1
  refine ⟨below_grown h.bel hg (fun l e => by have := hl l e; omega), h.pl.grown hg (fun e => by have := hl gP e.symm; omega), ?_, ?_, h1⟩
  · rw [List.length_append]; exact ho
  · have hk : Keeps (fun j => gP + 1 ≤ j ∧ some j ≠ vO.ownBlock ∧ some j ≠ v'.ownBlock) wx wy := .of_grown hg fun j hj => hj.2.1
    have h5 : KsC wx (fun j => gP + 1 ≤ j ∧ some j ≠ vO.ownBlock ∧ some j ≠ v'.ownBlock) ps xs := h.ks.mono fun j hj hq => ⟨hq.1, hq.2, fun e => by
      rcases hat with e' | e' <;> rw [e'] at e
      · exact hq.2 e
      · injection e; omega⟩
    have h6 : Row wx (fun j => gP + 1 ≤ j ∧ some j ≠ vO.ownBlock ∧ some j ≠ v'.ownBlock) 1 (some ad) k.length c (keysV k) := hn.mono fun j hj hq => by
      have n1 : some j ≠ vO.ownBlock := fun e => by have := hz j e.symm; simp only [From] at hq; omega
      refine ⟨Nat.le_trans hz0 hq, n1, fun e => ?_⟩
      rcases hat with e' | e' <;> rw [e'] at e
      · exact n1 e
      · injection e; omega
    exact ((h5.keep hk).snoc (h6.keep hk)).mono fun j _ hj => ⟨hj.1, hj.2.2⟩
end
theorem row_news {w : World} {B : Nat → Prop} {ad : Addr} {n c : Nat} {xs : List Value} (h : Row w B 1 (some ad) n c xs) : ∀ j u, xs[j]? = some u → w.cell? (ad.add j) = some u := fun j u hu => by
  by_cases hn : 0 < n
  · obtain ⟨ad', e, -, -, hc⟩ := h.2.2.2 hn
    injection e with e
    subst e
    exact hc j u hu
  · have : xs = [] := List.eq_nil_of_length_eq_zero (by rw [h.1]; omega)
    subst this
    cases hu
theorem info_keys : (Tryd.prog.info? 29).map (fun i => (i.zero, i.size, i.bytes)) = some (some (.slice none 0 0), 1, 24) := by kernel_rfl
def PathsC (s : ByteArray) (N : Nat) : Prop := ∀ (p : Pl) (B : Nat → Prop) (An : Option Addr) (nn cn : Nat) (Ak : Option Addr) (nk ck : Nat) (w : World), SizeOf.sizeOf p < N → IsVal s p → Pm w B p An nn cn Ak nk ck →
  Calls Tryd.prog 8 #[.string s, Pg p An nn cn Ak nk ck] w (PathsPost (p.e - p.b) w)
set_option maxRecDepth 100000 in
set_option maxHeartbeats 8000000 in
theorem pathsStep (s : ByteArray) (hs : s.size ≤ 65536) (N : Nat) (ih : PathsC s N) : PathsC s (N + 1) := by
  intro p B An nn cn Ak nk ck w hN hv hm
  obtain ⟨w1, hw1⟩ : ∃ w1, w.alloc (.cells #[.int .i64 (p.kind : Int), .int .i64 (p.b : Int), .int .i64 (p.e : Int), .slice An nn cn, .slice Ak nk ck] 25) = w1 := ⟨_, rfl⟩
  have hb1 : Below w.heap.size w w1 := by rw [← hw1]; exact below_alloc (Below.refl _ _) _
  have hz1 : w1.heap.size = w.heap.size + 1 := by rw [← hw1]; simp
  have hp1 : B5 w1 w.heap.size (.int .i64 (p.kind : Int)) (.int .i64 (p.b : Int)) (.int .i64 (p.e : Int)) (.slice An nn cn) (.slice Ak nk ck) := by rw [← hw1]; exact B5.new _ _ _ _ _ _
  have HP1 := Lib.hid hp1
  have HB1 := Lib.hid hb1
  have HZ1 := Lib.hid hz1
  clear hp1 hb1
  have HIH := Lib.hid ih
  have HM := Lib.hid hm
  have HV := Lib.hid hv
  have HN := Lib.hid hN
  have HKS := Lib.hid (kids_sum hv)
  clear ih hm hv hN
  go_enter Tryd.func8, Tryd.ntmps8
  go_upto_region 2 with (fail)
  obtain ⟨w2, hw2⟩ : ∃ w2, (w1.alloc (.cells #[] 9)).alloc (.cells #[.slice (some ⟨w.heap.size + 1, 0, none⟩) 0 0] 29) = w2 := ⟨_, rfl⟩
  rw [hw2]
  have hb2 : Below w1.heap.size w1 w2 := by rw [← hw2]; exact below_alloc (below_alloc (Below.refl _ _) _) _
  have hz1' : w1.heap.size = w.heap.size + 1 := by rw [← hw1]; simp
  have hg2 : w2.heap[w.heap.size + 1 + 1]? = some (.cells #[.slice (some ⟨w.heap.size + 1, 0, none⟩) 0 0] 29 (0, 0)) := by
    have h := heap_alloc_new (w1.alloc (.cells #[] 9)) (.cells #[.slice (some ⟨w.heap.size + 1, 0, none⟩) 0 0] 29)
    rw [hw2, show (w1.alloc (.cells #[] 9)).heap.size = w.heap.size + 1 + 1 by simp [hz1']] at h
    exact h
  have hz2 : w.heap.size + 1 + 1 < w2.heap.size := (Array.getElem?_eq_some_iff.1 hg2).1
  have HI0 := Lib.hid (show PtI w w.heap.size (.int .i64 (p.kind : Int)) (.int .i64 (p.b : Int)) (.int .i64 (p.e : Int)) (.slice An nn cn) (.slice Ak nk ck) (.slice (some ⟨w.heap.size + 1 + 1, 0, none⟩) 1 1) [[]] [.slice (some ⟨w.heap.size + 1, 0, none⟩) 0 0] w2 from by
    refine ⟨below_of HB1.out hb2, B5.below HP1.out hb2, ⟨rfl, .inr ⟨w.heap.size + 1 + 1, 1, #[.slice (some ⟨w.heap.size + 1, 0, none⟩) 0 0], rfl, by omega, hg2, Nat.le_refl 1, by unfold maxLen; omega, rfl, rfl⟩⟩, ⟨rfl, fun i k hi => ?_⟩, Nat.le_refl _⟩
    cases i with
    | zero =>
      simp only [List.getElem?_cons_zero, Option.some.injEq] at hi
      subst hi
      exact ⟨_, _, rfl, rfl, Nat.le_refl _, Nat.zero_le _, fun h => absurd h (Nat.not_lt_zero _)⟩
    | succ i => simp at hi)
  clear hb2 hw2 hg2 hz2 hz1' hz1
  have hkl : nk = p.kids.length := HM.out.hk
  have HKL := Lib.hid hkl
  have hkm : nk ≤ 65536 := by have h1 := (isval_len HV.out).2; omega
  obtain ⟨nv, off, hrd⟩ := HV.out
  have hbe : p.b < p.e := hrd.2.2.2.2.2.1
  have hes : p.e ≤ s.size := hrd.2.2.2.2.1
  clear hkl hrd
  go_wp2_with (fail)
  go_loopg [5, 6] (nk + 1) (fun d v5 v6 wx => ∃ (k : Nat) (ps : List (List ByteArray)) (xs : List Value), v6 = .int .i64 (k : Int) ∧ k ≤ nk ∧ nk < d + k ∧ ps.length ≤ 1 + spans (p.kids.take k) ∧ (∀ x ∈ ps, x.length ≤ p.e - p.b ∧ ∀ y ∈ x, y.size ≤ 1000000) ∧ PtI w w.heap.size (.int .i64 (p.kind : Int)) (.int .i64 (p.b : Int)) (.int .i64 (p.e : Int)) (.slice An nn cn) (.slice Ak nk ck) v5 ps xs wx)
  case atStart => exact ⟨0, [[]], _, rfl, by omega, by omega, by simp, (fun x hx => by simp only [List.mem_singleton] at hx; subst hx; exact ⟨Nat.zero_le _, fun y hy => by cases hy⟩), HI0.out⟩
  case round =>
    obtain ⟨k, ps, xs, rfl, hk, hd, hpl, hpk, hI⟩ := hrel
    have HIr := Lib.hid hI
    have HPL := Lib.hid hpl
    have HPK := Lib.hid hpk
    have hp3 := hI.pl
    have c0 := hp3.c0
    have c1 := hp3.c1
    have c2 := hp3.c2
    have c3 := hp3.c3
    have c4 := hp3.c4
    clear hp3 hI hpl hpk
    by_cases hlt : k < nk
    · have hlt' : k < p.kids.length := by have := HKL.out; omega
      obtain ⟨q, hq⟩ : ∃ q, p.kids[k]? = some q := ⟨_, List.getElem?_eq_getElem hlt'⟩
      have hqv := (isval_in HV.out).1 q (List.mem_of_getElem? hq)
      have HQS := Lib.hid (spans_take hq)
      have HQT := Lib.hid (spans_le p.kids (k + 1))
      have HQV := Lib.hid hqv
      have HQ := Lib.hid hq
      have kk1 : IntKind.i64.wrap ((k : Int) + 1) = (k : Int) + 1 := IntWalk.i64_in _ (by omega)
      have kk2 : IntKind.u64.wrap (k : Int) = (k : Int) := by
        rw [show IntKind.u64.wrap (k : Int) = (k : Int) % 18446744073709551616 by simp [IntKind.wrap, IntKind.bits, IntKind.signed]]
        omega
      clear hq hqv
      go_upto_region 6 with (first
        | (go_at_call 13; (with_reducible refine (digitsW k (by omega) _).mono ?_); rintro e w4 ⟨⟨dg, rfl, hdg⟩, hb4⟩; replace hb4 := Lib.hid hb4))
      obtain ⟨key0, hkey0⟩ : ∃ t : ByteArray, (⟨#[91]⟩ : ByteArray) ++ dg ++ ⟨#[93]⟩ = t := ⟨_, rfl⟩
      have HK0 := Lib.hid (show key0.size ≤ 1000000 by
        rw [← hkey0, ByteArray.size_append, ByteArray.size_append]
        show 1 + dg.size + 1 ≤ 1000000
        omega)
      rw [hkey0]
      clear hkey0
      have HI4 := Lib.hid (HIr.out.below hb4.out)
      have hp4 := HI4.out.pl
      clear c0 c1 c2 c3 c4
      have c0 := hp4.c0
      have c1 := hp4.c1
      have c2 := hp4.c2
      have c3 := hp4.c3
      have c4 := hp4.c4
      clear hp4
      by_cases h6 : p.kind = 6
      focus
        have k6 : ((p.kind : Int) == 6) = true := by rw [beq_iff_eq]; omega
        have hnl : nn = p.names.length := HM.out.hn
        have hnk := (isval_in HV.out).2.2.1 h6
        have hlt6 : k < p.names.length := by omega
        obtain ⟨x, hx⟩ : ∃ x, p.names[k]? = some x := ⟨_, List.getElem?_eq_getElem hlt6⟩
        have hxv := (isval_in HV.out).2.1 x (List.mem_of_getElem? hx)
        obtain ⟨x0, x1⟩ := x
        obtain ⟨ad, rfl, hab, a0, a1⟩ := nameAt (HM.out.names.keep (.of_below HI4.out.bel)) hnl hx
        obtain ⟨nm, hnmv⟩ : ∃ nm, nameOf s (x0, x1) = nm := ⟨_, rfl⟩
        have HKY := Lib.hid (show nm.size ≤ 1000000 by rw [← hnmv]; exact nameOf_size _ hs)
        have q0 : (0 : Int) ≤ (x0 : Int) := by omega
        have q1 : (x0 : Int) ≤ (x1 : Int) := by have := hxv.1; simp only at this; omega
        have q2 : (x1 : Int) ≤ (s.size : Int) := by have := hxv.2.1; simp only at this; omega
        have HUN := Lib.hid (show Calls Tryd.prog 19 #[.string (s.extract x0 x1)] w4.drew fun e w' => e = .returned (.string nm) ∧ Below w4.heap.size w4 w' from by
          refine (unqName s nm (x0, x1) w4.drew hxv hs hnmv).mono ?_
          rintro e w' ⟨rfl, hb⟩
          exact ⟨rfl, below_drew_one hb⟩)
        have hkn : k < nn := by omega
        clear hx hxv hnmv h6 hnl hnk hlt6
        go_upto_region 7 with (fail)
        go_cut [7] (fun v7 wx => v7 = .string nm ∧ Below w4.heap.size w4 wx)
        case first =>
          go_region_with (first
            | (go_at_call 19; (with_reducible refine HUN.out.mono ?_); rintro e w5 ⟨rfl, hb5⟩; replace hb5 := Lib.hid hb5))
          all_goals
            go_wp2_with (fail)
            (try simp only [Act.put, List.getElem_toArray, List.getElem_cons_succ, List.getElem_cons_zero, List.setIfInBounds_toArray, List.set_cons_zero, List.set_cons_succ])
            go_meet
            case rel => exact ⟨rfl, hb5.out⟩
        obtain ⟨rfl, hb5⟩ := hcut
        obtain ⟨w5, hw5⟩ : ∃ x, x = wc := ⟨_, rfl⟩
        subst hw5
        have HI5 := Lib.hid (HI4.out.below hb5)
        clear hb5 a0 a1 HUN q0 q1 q2 hkn
        go_upto_region 8 with (fail)
        generalize (some ad : Option Addr) = An at *
      rotate_left
      focus
        have k6 : ((p.kind : Int) == 6) = false := beq_eq_false_iff_ne.2 (by omega)
        clear h6
        obtain ⟨nm, rfl⟩ : ∃ nm, nm = key0 := ⟨_, rfl⟩
        have HKY := Lib.hid HK0.out
        go_upto_region 8 with (fail)
        obtain ⟨w5, rfl⟩ : ∃ x, x = w4 := ⟨_, rfl⟩
        have HI5 := Lib.hid HI4.out
      all_goals
        clear c0 c1 c2 c3 c4
        have hp5 := HI5.out.pl
        have c0 := hp5.c0
        have c1 := hp5.c1
        have c2 := hp5.c2
        have c3 := hp5.c3
        have c4 := hp5.c4
        clear hp5
        obtain ⟨adk, An', cn', Ak', ck', rfl, hab2, -, a0, a1, a2, a3, a4, hpm⟩ := kidAt (HM.out.keep (.of_below HI5.out.bel)) HQ.out
        have HTR := Lib.hid (HIH.out q B An' q.names.length cn' Ak' q.kids.length ck' w5 (by have h1 := kid_small2 HQ.out; have := HN.out; omega) HQV.out hpm)
        clear hpm
        go_wp2_with (first
          | (go_at_call 8; (with_reducible refine HTR.out.mono ?_); rintro e wP ⟨rs, RA, rc, ys, rfl, hrow, hks, hrn, hrk, hb6⟩
             replace hrow := Lib.hid hrow
             replace hks := Lib.hid hks
             replace hrk := Lib.hid hrk
             have HI6 := Lib.hid (HI5.out.below hb6)
             replace hb6 := Lib.hid hb6))
        clear c0 c1 c2 c3 c4 a0 a1 a2 a3 a4
        have hqq : q.e - q.b ≤ 65536 := by have := HQS.out; have := HQT.out; have := HKS.out; omega
        have hsp : spans (p.kids.take k) + (q.e - q.b) ≤ 65536 := by have := HQS.out; have := HQT.out; have := HKS.out; omega
        obtain ⟨gk0, hgk0⟩ : ∃ g, g = gk := ⟨_, rfl⟩
        have HGK := Lib.hid hgk0
        have HD := Lib.hid hd
        clear hgk0 hd
        have HZ5 := Lib.hid (show ∀ j, u5.ownBlock = some j → j < w5.heap.size ∨ wP.heap.size ≤ j from fun j e => .inl (HI5.out.out.lt j e).2)
        go_loopg [5, 50] (rs.length + 1) (fun d2 v5 v50 wx => ∃ (i : Nat) (ps2 : List (List ByteArray)) (xs2 : List Value), v50 = .int .i64 (i : Int) ∧ i ≤ rs.length ∧ rs.length < d2 + i ∧ ps2.length ≤ 1 + spans (p.kids.take k) + i ∧ (∀ x ∈ ps2, x.length ≤ p.e - p.b ∧ ∀ y ∈ x, y.size ≤ 1000000) ∧ PtI w w.heap.size (.int .i64 (p.kind : Int)) (.int .i64 (p.b : Int)) (.int .i64 (p.e : Int)) (.slice An nn cn) (.slice (some adk) nk ck) v5 ps2 xs2 wx ∧ Keeps (From w5.heap.size) wP wx ∧ ∀ j, v5.ownBlock = some j → j < w5.heap.size ∨ wP.heap.size ≤ j)
        case atStart => exact ⟨0, ps, xs, rfl, by omega, by omega, by have := HPL.out; omega, HPK.out, HI6.out, Keeps.of_below (Below.refl _ _), HZ5.out⟩
        case round =>
          obtain ⟨i, ps2, xs2, rfl, hi, hd2, hpl2, hpk2, hI2, hkk, hz2⟩ := hrel
          have HI2 := Lib.hid hI2
          have HPL2 := Lib.hid hpl2
          have HPK2 := Lib.hid hpk2
          have HKK := Lib.hid hkk
          have HZ2 := Lib.hid hz2
          have HROWr := Lib.hid (hrow.out.keep hkk)
          have HKSr := Lib.hid (hks.out.keep hkk)
          have hps : ps2.length ≤ 1000000 := by omega
          clear hI2 hpl2 hpk2 hkk hz2
          by_cases hlt2 : i < rs.length
          · obtain ⟨x, hx⟩ : ∃ x, rs[i]? = some x := ⟨_, List.getElem?_eq_getElem hlt2⟩
            obtain ⟨ad2, ak, ckk, rfl, hab3, hcx, hrx⟩ := ksAt HROWr.out HKSr.out hx
            have hxk := hrk.out x (List.mem_of_getElem? hx)
            have hx1 : x.length ≤ 65536 := by have := hxk.1; omega
            have HXK := Lib.hid (show (nm :: x).length ≤ p.e - p.b ∧ ∀ y ∈ nm :: x, y.size ≤ 1000000 from ⟨by have := hxk.1; have := HQS.out; have := HQT.out; have := HKS.out; simp only [List.length_cons]; omega, fun y hy => by
              rcases List.mem_cons.1 hy with rfl | hy
              · exact HKY.out
              · exact hxk.2 y hy⟩)
            have HNW := Lib.hid (row_news (hrx.keep (.alloc _ wr (.cells #[.string nm] 9))))
            have ii1 : IntKind.i64.wrap ((i : Int) + 1) = (i : Int) + 1 := IntWalk.i64_in _ (by omega)
            obtain ⟨i0, hi0, hz0, hz1, hz2⟩ := info_parts info_str
            have HJ := Lib.hid hi0
            have HJ0 := Lib.hid hz0
            have HJ1 := Lib.hid hz1
            have HJ2 := Lib.hid hz2
            clear hi0 hz0 hz1 hz2
            obtain ⟨i2, hi0, hz0, hz1, hz2⟩ := info_parts info_keys
            have HL := Lib.hid hi0
            have HL0 := Lib.hid hz0
            have HL1 := Lib.hid hz1
            have HL2 := Lib.hid hz2
            clear hi0 hz0 hz1 hz2 hx hrx hxk
            have HOW := Lib.hid (show (wr.alloc (.cells #[.string nm] 9)).ownsRow wr.heap.size 9 1 (.slice (some ⟨wr.heap.size, 0, none⟩) 1 1) 1 [.string nm] from
              ⟨rfl, .inr ⟨wr.heap.size, 1, #[.string nm], rfl, Nat.le_refl _, heap_alloc_new _ _, Nat.le_refl 1, by unfold maxLen; omega, rfl, rfl⟩⟩)
            go_upto_region 12 with (first
              | (at_builtin; (refine wpList_append_own_at _ rfl (.tmp 56) (.tmp 57) 29 rfl wr.heap.size 9 i0 _ 1 16 Tryd.underlying29 HJ.out HJ0.out HJ1.out HJ2.out rfl (by decide) _ 1 [.string nm] rfl HOW.out ak x.length ckk (keysV x) rfl (by simp [keysV]) HNW.out (by simp [keysV, Value.oneCell']) (by simp only [maxLen]; omega) (by omega) (by simp) ?_)
                 intro v6 w6 hO6 hg6 _ hat6
                 obtain ⟨A6, c6, rfl, hr6⟩ := Row.of_own hO6
                 obtain ⟨a6, rfl⟩ : ∃ a, A6 = some a := by
                   obtain ⟨a, e, -⟩ := hr6.2.2.2 (by omega)
                   exact ⟨a, e⟩
                 have hg6' : (wr.alloc (.cells #[.string nm] 9)).grownBy w6 (some wr.heap.size) := hg6
                 have hb6' : Below wr.heap.size wr w6 := below_grown (below_alloc (Below.refl _ _) _) hg6' (fun l e => by injection e; omega)
                 clear hg6'
                 have HB6 := Lib.hid hb6'
                 have HI6b := Lib.hid (HI2.out.below hb6')
                 have HR6 := Lib.hid hr6
                 clear hO6 hg6 hat6 hr6 hb6')
              | (at_builtin; (refine wpList_append_own_at _ rfl (.tmp 54) (.tmp 59) 34 rfl (w.heap.size + 1) 29 i2 _ 1 24 Tryd.underlying34 HL.out HL0.out HL1.out HL2.out rfl (by decide) _ ps2.length xs2 rfl (HI6b.out.below (below_alloc (Below.refl _ _) _)).out ⟨w6.heap.size, 0, none⟩ 1 1 [.slice (some a6) (1 + x.length) c6] rfl rfl (World.news_of_block (cs := #[.slice (some a6) (1 + x.length) c6]) (t := 29) (fr := (0, 0)) (heap_alloc_new _ _)) (by simp [Value.oneCell']) (by simp only [maxLen]; omega) (by omega) (by have := HI6b.out.pl.lt; simp; omega) ?_)
                 intro v8 w8 hO8 hg8 _ hat8
                 replace hO8 := Lib.hid hO8
                 replace hg8 := Lib.hid (show (w6.alloc (.cells #[.slice (some a6) (1 + x.length) c6] 29)).grownBy w8 u5.ownBlock from hg8)
                 replace hat8 := Lib.hid (show v8.ownBlock = u5.ownBlock ∨ v8.ownBlock = some (w6.alloc (.cells #[.slice (some a6) (1 + x.length) c6] 29)).heap.size from hat8)))
            have e1 : 1 + x.length = (nm :: x).length := by simp [Nat.add_comm]
            have hO := hO8.out
            have hG := hg8.out
            have hA := hat8.out
            have hR := HR6.out
            have hba := below_alloc (Below.refl w6.heap.size w6) (.cells #[.slice (some a6) (1 + x.length) c6] 29)
            have HI7 := HI6b.out.below hba
            have hR7 := hR.keep (Keeps.of_below hba)
            have hb7 := below_of HB6.out hba
            obtain ⟨w7, hw7⟩ : ∃ w7, w6.alloc (.cells #[.slice (some a6) (1 + x.length) c6] 29) = w7 := ⟨_, rfl⟩
            rw [hw7] at hG hA HI7 hR7 hb7
            rw [e1] at hO hR7
            have hown : ∀ j, u5.ownBlock = some j → w.heap.size + 1 ≤ j ∧ j < wr.heap.size := fun j e => HI2.out.out.lt j e
            have HI8 := Lib.hid (HI7.push (z := wr.heap.size) (k := nm :: x) hR7 (fun j e => (hown j e).2) (by have := HI2.out.pl.lt; omega) hb7.size hO hG hA)
            have HK8 := Lib.hid (show Keeps (From w5.heap.size) wP w8 from ⟨by have := HKK.out.size; have := hb7.size; have := hG.size; omega, fun l hl hlt => by
              have hlr : l < wr.heap.size := Nat.lt_of_lt_of_le hlt HKK.out.size
              refine (hG.block l (Nat.lt_of_lt_of_le hlr hb7.size) (fun e => ?_)).trans ((hb7.block l hlr).trans (HKK.out.block l hl hlt))
              rcases HZ2.out l e.symm with h | h
              · simp only [From] at hl; omega
              · omega⟩)
            have HZ8 := Lib.hid (show ∀ j, v8.ownBlock = some j → j < w5.heap.size ∨ wP.heap.size ≤ j from fun j e => by
              rcases hA with h | h
              · exact HZ2.out j (h ▸ e)
              · rw [h] at e
                injection e with e
                have := hb7.size
                have := HKK.out.size
                exact .inr (by omega))
            clear hO hG hA hR hba HI7 hR7 hb7 hown hw7 e1
            go_wp2_with (fail)
            go_roundg (gk - 1)
            case measure => omega
            case rel => exact ⟨i + 1, ps2 ++ [nm :: x], _, by go_num, by omega, by omega, by rw [List.length_append]; have := HPL2.out; simp only [List.length_cons, List.length_nil]; omega, (fun y hy => by
              rcases List.mem_append.1 hy with hy | hy
              · exact HPK2.out y hy
              · simp only [List.mem_singleton] at hy; subst hy; exact HXK.out), HI8.out, HK8.out, HZ8.out⟩
          · go_wp2_with (fail)
            go_roundg (gk0 - 1)
            case measure => have := HGK.out; have := HD.out; omega
            case rel => exact ⟨k + 1, ps2, xs2, by go_num, by omega, by have := HGK.out; have := HD.out; omega, by have := HPL2.out; have := HQS.out; omega, HPK2.out, HI2.out⟩
    · have HKE := Lib.hid (show k = p.kids.length by have := HKL.out; omega)
      obtain ⟨A9, c9, rfl, hr9⟩ := Row.of_own HIr.out.out
      have HR9 := Lib.hid hr9
      clear hr9
      go_wp2
      go_ret
      refine ⟨ps, A9, c9, xs, rfl, HR9.out.mono fun j _ hj => by simp only [From] at hj ⊢; omega, HIr.out.ks.mono fun j _ hj => by simp only [From]; omega, ?_, HPK.out, HIr.out.bel⟩
      have := HPL.out
      have := HKS.out
      rw [HKE.out, List.take_length] at *
      omega
theorem pathsW (s : ByteArray) (hs : s.size ≤ 65536) : ∀ N, PathsC s N
  | 0 => fun _ _ _ _ _ _ _ _ _ h => absurd h (Nat.not_lt_zero _)
  | N + 1 => pathsStep s hs N (pathsW s hs N)
end
end Go.Proofs.YtkdkdhcjpgmjdaaDoor.Jp
namespace Go.Proofs.YtkdkdhcjpgmjdaaDoor.Jp
section
open Go.RowKit L
set_option linter.unusedVariables false
set_option linter.unusedSimpArgs false

set_option maxRecDepth 100000 in
set_option maxHeartbeats 4000000 in
theorem igetP (T : Nat → TypeId) (V : Nat → Value) (s : ByteArray) (kd : List ByteArray) (p r : Pl) (bi i0 m c : Nat) (A : Option Addr) (nk ck : Nat) (Bk : Nat → Prop) (w : World) (h : Rd w (some ⟨bi, i0, none⟩) s) (hW : Wd T V w) (hT : Tb w) (hm : m = s.size) (hs : s.size ≤ 1000000) (hc : s.size ≤ c)
    (hK : Row w Bk 1 A nk ck (keysV kd)) (hkn : kd.length ≤ 2147483647) (hp : places s = some p) (hl : Leads s p kd r) :
    Calls Tryd.prog 39 #[.slice (some ⟨bi, i0, none⟩) m c, .slice A nk ck] w (IkPost s r w) := by
  have d0 := hW.d0
  have d1 := hW.d1
  have d2 := hW.d2
  have HIG := Lib.hid (igetA T V s kd p r false false 0 bi i0 m c A nk ck Bk w h hW.errs hT hm hs hc hK hkn hp hl)
  clear h hW hT hm hK hp hl
  go_enter Tryd.func39, Tryd.ntmps39
  go_wp2_with (first
    | (go_at_call 51; (with_reducible refine HIG.out.mono ?_); rintro e w2 ⟨⟨A2, n2, c2, rfl, h1, h2, h3, h4⟩, hb2⟩; replace h1 := Lib.hid h1; replace h3 := Lib.hid h3; replace h4 := Lib.hid h4; replace hb2 := Lib.hid hb2))
  (try simp only [Exit.inBlock, Exit.then])
  refine bodyPost_ret (results_tmp5 rfl _ _ _) rfl ?_
  exact ⟨⟨A2, n2, c2, rfl, h1.out, h2, h3.out, h4.out⟩, hb2.out⟩
set_option maxRecDepth 100000 in
set_option maxHeartbeats 4000000 in
theorem getP (T : Nat → TypeId) (V : Nat → Value) (s : ByteArray) (kd : List ByteArray) (p r : Pl) (bi i0 m c : Nat) (A : Option Addr) (nk ck : Nat) (Bk : Nat → Prop) (w : World) (h : Rd w (some ⟨bi, i0, none⟩) s) (hW : Wd T V w) (hT : Tb w) (hm : m = s.size) (hs : s.size ≤ 1000000) (hc : s.size ≤ c)
    (hK : Row w Bk 1 A nk ck (keysV kd)) (hkn : kd.length ≤ 2147483647) (hp : places s = some p) (hl : Leads s p kd r) :
    Calls Tryd.prog 23 #[.slice (some ⟨bi, i0, none⟩) m c, .slice A nk ck] w (CkPost s r w) := by
  have HIG := Lib.hid (igetP T V s kd p r bi i0 m c A nk ck Bk w h hW hT hm hs hc hK hkn hp hl)
  clear h hW hT hm hK hp hl
  go_enter Tryd.func23, Tryd.ntmps23
  go_wp2_with (first
    | (go_at_call 39; (with_reducible refine HIG.out.mono ?_); rintro e w2 ⟨⟨A2, n2, c2, rfl, h1, h2, h3, h4⟩, hb2⟩; replace h1 := Lib.hid h1; replace h3 := Lib.hid h3; replace h4 := Lib.hid h4; replace hb2 := Lib.hid hb2))
  (try simp only [Exit.inBlock, Exit.then])
  refine bodyPost_ret (results_tmp4 rfl _ _ _) rfl ?_
  exact ⟨⟨A2, n2, c2, rfl, h1.out, h2, h3.out, h4.out⟩, hb2.out⟩
set_option maxRecDepth 100000 in
set_option maxHeartbeats 4000000 in
/-- JpGet's answer. -/
theorem jpGetP (T : Nat → TypeId) (V : Nat → Value) (s : ByteArray) (kd : List ByteArray) (p r : Pl) (A : Option Addr) (nk ck : Nat) (Bk : Nat → Prop) (w : World) (hW : Wd T V w) (hT : Tb w) (hs : s.size ≤ 1000000) (hK : Row w Bk 1 A nk ck (keysV kd)) (hkn : kd.length ≤ 2147483647) (hp : places s = some p) (hl : Leads s p kd r) :
    Calls Tryd.prog 10 #[.string s, .slice A nk ck] w fun e w' => e = .returned (.tuple #[.agg #[.string ⟨#[]⟩, .string (rawAt s r.kind r.b r.e), .int .i64 (jk r.kind : Int), .int .i64 (r.e : Int)], .bool true]) ∧ Below w.heap.size w w' := by
  obtain ⟨w1, hw1⟩ : ∃ w1, w.alloc (.cells #[.string ⟨#[]⟩, .string ⟨#[]⟩, .int .i64 0, .int .i64 0] 38) = w1 := ⟨_, rfl⟩
  have HB1 := Lib.hid (show Below w.heap.size w w1 by rw [← hw1]; exact below_alloc (Below.refl _ _) _)
  have HF1 := Lib.hid (show F4 w1 w.heap.size (.string ⟨#[]⟩) (.string ⟨#[]⟩) (.int .i64 0) (.int .i64 0) by rw [← hw1]; exact F4.new _ _ _ _ _)
  have hcv : (convert 9 58 (.string s)).run Tryd.prog w1 = .ok (.slice (some ⟨w1.heap.size, 0, none⟩) s.size (grownCap w1 s.size 0 5)) (Lib.bytesWorld w1 5 s) := Lib.run_convert_string_bytes w1 9 58 5 s Tryd.underlying9 Tryd.underlying58 Tryd.underlying5
  have hb3 := below_of HB1.out (bytesWorld_below w1 5 s)
  have HG := Lib.hid (getP T V s kd p r w1.heap.size 0 s.size (grownCap w1 s.size 0 5) A nk ck Bk _ (bytesWorld_rd w1 5 s) (hW.below hb3) (hT.below hb3) rfl hs (bytesCap w1 5 s) (hK.keep (.of_below hb3)) hkn hp hl)
  have HB3 := Lib.hid (bytesWorld_below w1 5 s)
  obtain ⟨w3, hw3⟩ : ∃ w3, Lib.bytesWorld w1 5 s = w3 := ⟨_, rfl⟩
  rw [hw3] at hcv HG HB3
  clear hW hT hK hp hl hb3
  go_enter Tryd.func10, Tryd.ntmps10
  go_wp2_with (first
    | (go_at_call 23; (with_reducible refine HG.out.mono ?_); rintro e w4 ⟨⟨A2, n2, c2, rfl, h1, h2, h3, -⟩, hb4⟩
       have hF2 := (HF1.out.below HB3.out).below hb4
       have q0 := hF2.c0
       have q1 := hF2.c1
       have q2 := hF2.c2
       have q3 := hF2.c3
       have e0 := hF2.f 0
       have e1 := hF2.f 1
       have e2 := hF2.f 2
       have e3 := hF2.f 3
       clear hF2
       obtain ⟨rr, hrr⟩ : ∃ rr, rawAt s r.kind r.b r.e = rr := ⟨_, rfl⟩
       rw [hrr] at h1 h3
       subst h1
       have hcv2 : (convert 58 9 (.slice A2 rr.size c2)).run Tryd.prog w4 = .ok (.string rr) w4 := h3.string Tryd.underlying58 Tryd.underlying5 Tryd.underlying9
       replace hrr := Lib.hid hrr
       replace hb4 := Lib.hid hb4
       replace h3 := Lib.hid h3))
  refine bodyPost_ret (v := .tuple #[.agg #[.string ⟨#[]⟩, .string rr, .int .i64 (jk r.kind : Int), .int .i64 (r.e : Int)], .bool true]) (by simp [results, Tryd.results10, go_sem, q0, q1, q2, q3]) rfl ?_
  refine ⟨by rw [hrr.out], ?_⟩
  iterate 4 with_reducible refine below_set ?_ (Nat.le_refl _) _
  exact below_of (below_of HB1.out HB3.out) hb4.out
end
end Go.Proofs.YtkdkdhcjpgmjdaaDoor.Jp
namespace Go.Proofs.YtkdkdhcjpgmjdaaDoor.Jp
section
open Go.RowKit L
set_option linter.unusedVariables false
set_option linter.unusedSimpArgs false

set_option maxRecDepth 100000 in
set_option maxHeartbeats 8000000 in
theorem lawP (T : Nat → TypeId) (V : Nat → Value) (s : ByteArray) (w : World) (hs0 : s.size ≤ 140737488351232) (hW : Wd T V w) (hT : Tb w) :
    Calls Tryd.prog 3 #[.string s] w fun e w' => e = .returned (.bool true) ∧ Below w.heap.size w w' := by
  have HW := Lib.hid hW
  have HT := Lib.hid hT
  clear hW hT
  by_cases hbig : 2147483647 < s.size
  · go_enter Tryd.func3, Tryd.ntmps3
    go_wp2
    go_ret
    exact ⟨rfl, Below.refl _ _⟩
  have hd1 : decide (2147483647 < (s.size : Int)) = false := by simp; omega
  by_cases hbig2 : 4096 < s.size
  · go_enter Tryd.func3, Tryd.ntmps3
    go_wp2
    go_ret
    exact ⟨rfl, Below.refl _ _⟩
  have hd2 : decide (4096 < (s.size : Int)) = false := by simp; omega
  go_enter Tryd.func3, Tryd.ntmps3
  go_upto_region 6 with (first
    | (go_at_call 5; refine (jpPlacesW s _ (by omega)).mono ?_; rintro e w1 ⟨hb1, ⟨p, hsz, hp, k, b', e', An, nn, cn, Ak, nk, ck, rfl, hPl⟩ | rfl⟩ <;> replace hb1 := Lib.hid hb1))
  · obtain ⟨rfl, rfl, rfl⟩ := plc_vals hPl
    have hm1 := pm_of_plc hPl
    obtain ⟨hval, -⟩ := places_val hp
    obtain ⟨hk6, hbe, hes⟩ := places_ok hp
    obtain ⟨w2, hw2⟩ : ∃ w2, w1.alloc (.cells #[.int .i64 (p.kind : Int), .int .i64 (p.b : Int), .int .i64 (p.e : Int), .slice An nn cn, .slice Ak nk ck] 25) = w2 := ⟨_, rfl⟩
    rw [hw2]
    have hb2 : Below w1.heap.size w1 w2 := by rw [← hw2]; exact below_alloc (Below.refl _ _) _
    have hp2 : B5 w2 w1.heap.size (.int .i64 (p.kind : Int)) (.int .i64 (p.b : Int)) (.int .i64 (p.e : Int)) (.slice An nn cn) (.slice Ak nk ck) := by rw [← hw2]; exact B5.new _ _ _ _ _ _
    have HM2 := Lib.hid (hm1.keep (Keeps.of_below hb2))
    have HP2 := Lib.hid hp2
    have HB2 := Lib.hid (below_of hb1.out hb2)
    have HP := Lib.hid hp
    have HV := Lib.hid hval
    have c0 := hp2.c0
    have c1 := hp2.c1
    have c2 := hp2.c2
    have c3 := hp2.c3
    have c4 := hp2.c4
    have HTREE := Lib.hid (treeW s hsz _ p _ An nn cn Ak nk ck w2 (Nat.lt_succ_self _) HV.out HM2.out)
    clear hPl hm1 hw2 hb2 hp2 hp hval
    go_upto_region 8 with (first
      | (go_at_call 7; (with_reducible refine HTREE.out.mono ?_); rintro e w3 ⟨nt, tk, tt, tA, tn, tc, uA, un, uc, rfl, hnd, hb3⟩
         have HUQ := Lib.hid (uniqueW _ nt _ tk tt tA tn tc uA un uc w3 (Nat.lt_succ_self _) hnd)
         clear hnd
         replace hb3 := Lib.hid hb3)
      | (go_at_call 6; (with_reducible refine HUQ.out.mono ?_); rintro e w4 ⟨⟨bu, rfl⟩, hb4⟩
         have hP4 := B5.below (B5.below HP2.out hb3.out) hb4
         have c0 := hP4.c0
         have c1 := hP4.c1
         have c2 := hP4.c2
         have c3 := hP4.c3
         have c4 := hP4.c4
         have HM4 := Lib.hid ((HM2.out.keep (Keeps.of_below hb3.out)).keep (Keeps.of_below hb4))
         have HB4 := Lib.hid (below_of (below_of HB2.out hb3.out) hb4)
         have HPA := Lib.hid (pathsW s hsz _ p _ An nn cn Ak nk ck w4 (Nat.lt_succ_self _) HV.out HM4.out)
         clear hP4
         replace hb4 := Lib.hid hb4
         cases bu))
    · go_ret
      exact ⟨rfl, HB4.out⟩
    · go_wp2_with (first
        | (go_at_call 8; (with_reducible refine HPA.out.mono ?_); rintro e w5 ⟨ps, PA, pc, xs, rfl, hrow, hks, hpn, hpk, hb5⟩
           have HROW := Lib.hid hrow
           have HKS := Lib.hid hks
           have HPK := Lib.hid hpk
           have HB5 := Lib.hid (below_of HB4.out hb5)
           clear hrow hks hpk hb5))
      clear c0 c1 c2 c3 c4
      go_loopg [35] (ps.length + 1) (fun d v35 wx => ∃ i : Nat, v35 = .int .i64 (i : Int) ∧ i ≤ ps.length ∧ ps.length < d + i ∧ Below w5.heap.size w5 wx)
      case atStart => exact ⟨0, rfl, by omega, by omega, Below.refl _ _⟩
      case round =>
        obtain ⟨i, rfl, hi, hd, hb6⟩ := hrel
        have HB6 := Lib.hid hb6
        have HBW := Lib.hid (below_of HB5.out hb6)
        clear hb6
        by_cases hlt : i < ps.length
        · obtain ⟨x, hx⟩ : ∃ x, ps[i]? = some x := ⟨_, List.getElem?_eq_getElem hlt⟩
          obtain ⟨ad, ak, xk, rfl, hab, hcx, hrx⟩ := ksAt (HROW.out.keep (.of_below HB6.out)) (HKS.out.keep (.of_below HB6.out)) hx
          have hxk := HPK.out x (List.mem_of_getElem? hx)
          have HXK := Lib.hid (show ∀ k ∈ x, k.size ≤ 2147483647 from fun k hk => by have := hxk.2 k hk; omega)
          have hxn : x.length ≤ 2147483647 := by have := hxk.1; omega
          have HRX := Lib.hid hrx
          have i1 : IntKind.i64.wrap ((i : Int) + 1) = (i : Int) + 1 := IntWalk.i64_in _ (by omega)
          clear hx hrx hxk
          go_upto_region 12 with (first
            | (go_at_call 9; (with_reducible refine (jpFoundW s x _ (some ak) x.length xk _ HRX.out HXK.out (by omega)).mono ?_); rintro e w6 ⟨hb7, ⟨root, r, Bn, dn, Bk, dk, hsz2, hpl, hld, hvr, rfl, hpm⟩ | rfl⟩ <;> replace hb7 := Lib.hid hb7))
          · obtain ⟨w7, hw7⟩ : ∃ w7, w6.alloc (.cells #[.int .i64 (r.kind : Int), .int .i64 (r.b : Int), .int .i64 (r.e : Int), .slice Bn r.names.length dn, .slice Bk r.kids.length dk] 25) = w7 := ⟨_, rfl⟩
            rw [hw7]
            have hb8 : Below w6.heap.size w6 w7 := by rw [← hw7]; exact below_alloc (Below.refl _ _) _
            have hp7 : B5 w7 w6.heap.size (.int .i64 (r.kind : Int)) (.int .i64 (r.b : Int)) (.int .i64 (r.e : Int)) (.slice Bn r.names.length dn) (.slice Bk r.kids.length dk) := by rw [← hw7]; exact B5.new _ _ _ _ _ _
            have HP7 := Lib.hid hp7
            have HB8 := Lib.hid (below_of hb7.out hb8)
            have HBW8 := Lib.hid (below_of HBW.out HB8.out)
            obtain ⟨nv, off, hrd⟩ := hvr
            have hrb : r.b < r.e := hrd.2.2.2.2.2.1
            have hre : r.e ≤ s.size := hrd.2.2.2.2.1
            have hrk : r.kind ≤ 6 := hrd.2.2.2.2.2.2.1
            have HS2 := Lib.hid hrd.2.2.2.2.2.2.2
            obtain ⟨rr, hrr⟩ : ∃ rr, rawAt s r.kind r.b r.e = rr := ⟨_, rfl⟩
            obtain ⟨kk, hkk⟩ : ∃ kk : Int, (jk r.kind : Int) = kk := ⟨_, rfl⟩
            have HKK := Lib.hid hkk.symm
            have HRR := Lib.hid hrr
            have HG := Lib.hid (show Calls Tryd.prog 10 #[.string s, .slice (some ak) x.length xk] w7 fun e w' => e = .returned (.tuple #[.agg #[.string ⟨#[]⟩, .string rr, .int .i64 kk, .int .i64 (r.e : Int)], .bool true]) ∧ Below w7.heap.size w7 w' from by
              rw [← hrr, ← hkk]
              exact jpGetP T V s x root r (some ak) x.length xk _ w7 (HW.out.below HBW8.out) (HT.out.below HBW8.out) (by omega) (HRX.out.keep (.of_below HB8.out)) hxn hpl hld)
            clear hb8 hp7 hw7 hpl hld hpm hrd hrr hkk
            go_upto_region 14 with (first
              | (go_at_call 10; (with_reducible refine HG.out.mono ?_); rintro e w8 ⟨rfl, hb9⟩
                 have HP8 := Lib.hid (B5.below HP7.out hb9)
                 have HBW9 := Lib.hid (below_of HBW8.out hb9)
                 have HB9 := Lib.hid (below_of HB8.out hb9)
                 clear hb9))
            obtain ⟨w9, hw9⟩ : ∃ w9, w8.alloc (.cells #[.string ⟨#[]⟩, .string rr, .int .i64 kk, .int .i64 (r.e : Int)] 38) = w9 := ⟨_, rfl⟩
            rw [hw9]
            have hb10 : Below w8.heap.size w8 w9 := by rw [← hw9]; exact below_alloc (Below.refl _ _) _
            have hF9 : F4 w9 w8.heap.size (.string ⟨#[]⟩) (.string rr) (.int .i64 kk) (.int .i64 (r.e : Int)) := by rw [← hw9]; exact F4.new _ _ _ _ _
            have hP9 := B5.below HP8.out hb10
            have HB10 := Lib.hid (below_of HB9.out hb10)
            have q0 := hF9.c0
            have q1 := hF9.c1
            have q2 := hF9.c2
            have q3 := hF9.c3
            have c0 := hP9.c0
            have c1 := hP9.c1
            have c2 := hP9.c2
            have c3 := hP9.c3
            have c4 := hP9.c4
            clear hb10 hF9 hP9 hw9
            go_wp2_with (first
              | (go_at_call 11; go_must (refine (toldYes s rr r.kind r.b r.e kk _ _ _ _ (by omega) hrb hre HS2.out hrk HRR.out HKK.out).mono ?_); rintro e w10 ⟨rfl, hb11⟩; replace hb11 := Lib.hid hb11))
            go_roundg (gk - 1)
            case measure => omega
            case rel => exact ⟨i + 1, by go_num, by omega, by omega, below_of HB6.out (below_of HB10.out hb11.out)⟩
          · go_wp2
            go_roundg (gk - 1)
            case measure => omega
            case rel => exact ⟨i + 1, by go_num, by omega, by omega, below_alloc (below_of HB6.out hb7.out) _⟩
        · go_wp2
          go_ret
          exact ⟨rfl, HBW.out⟩
  · go_wp2
    go_ret
    exact ⟨rfl, below_alloc hb1.out _⟩
end
end Go.Proofs.YtkdkdhcjpgmjdaaDoor.Jp
