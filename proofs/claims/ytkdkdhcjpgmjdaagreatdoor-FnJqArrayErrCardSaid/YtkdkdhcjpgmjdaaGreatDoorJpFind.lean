/- The walks of the reference's steps by keys. -/
import Derived.Test.YtkdkdhcjpgmjdaaGreatDoorJpFindP
import Derived.Test.YtkdkdhcjpgmjdaaGreatDoorJpTold
import Derived.Test.YtkdkdhcjpgmjdaaGreatDoorJpPl
namespace Go.Proofs.YtkdkdhcjpgmjdaaGreatDoor.Jp
open Go.RowKit L
set_option linter.unusedVariables false
set_option linter.unusedSimpArgs false

def namI : Option Nat → Int
  | none => -1
  | some k => (k : Int)
theorem named_no {s key : ByteArray} {x : Nat × Nat} (xs : List (Nat × Nat)) (h : ¬ nameOf s x = key) : namedN s key (x :: xs) = (namedN s key xs).map (· + 1) := by
  show (if nameOf s x = key then some 0 else (namedN s key xs).map (· + 1)) = _
  rw [if_neg h]
theorem named_yes {s key : ByteArray} {x : Nat × Nat} (xs : List (Nat × Nat)) (h : nameOf s x = key) : namedN s key (x :: xs) = some 0 := by
  show (if nameOf s x = key then some 0 else (namedN s key xs).map (· + 1)) = _
  rw [if_pos h]
theorem spv_get : ∀ (ns : List (Nat × Nat)) (k : Nat) (x : Nat × Nat), ns[k]? = some x → (spv ns)[k * 2 + 0]? = some (.int .i64 (x.1 : Int)) ∧ (spv ns)[k * 2 + 1]? = some (.int .i64 (x.2 : Int))
  | [], _, _, h => by cases h
  | y :: ys, 0, x, h => by
    simp only [List.getElem?_cons_zero, Option.some.injEq] at h
    subst h
    exact ⟨rfl, rfl⟩
  | y :: ys, k + 1, x, h => by
    rw [List.getElem?_cons_succ] at h
    obtain ⟨h1, h2⟩ := spv_get ys k x h
    have e : spv (y :: ys) = [.int .i64 (y.1 : Int), .int .i64 (y.2 : Int)] ++ spv ys := rfl
    rw [e, List.getElem?_append_right (by simp; omega), List.getElem?_append_right (by simp; omega)]
    simp only [List.length_cons, List.length_nil]
    rw [show (k + 1) * 2 + 0 - (0 + 1 + 1) = k * 2 + 0 by omega, show (k + 1) * 2 + 1 - (0 + 1 + 1) = k * 2 + 1 by omega]
    exact ⟨h1, h2⟩
/-- The two cells of name k. -/
theorem nameAt {w : World} {B : Nat → Prop} {A : Option Addr} {n c k : Nat} {ns : List (Nat × Nat)} {x : Nat × Nat} (hR : Row w B 2 A n c (spv ns)) (hn : n = ns.length) (hk : ns[k]? = some x) :
    ∃ ad, A = some ad ∧ ad.block < w.heap.size ∧ w.cell? (ad.add (k * 2)) = some (.int .i64 (x.1 : Int)) ∧ w.cell? ⟨(ad.add (k * 2)).block, (ad.add (k * 2)).off + 1, none⟩ = some (.int .i64 (x.2 : Int)) := by
  have hkl : k < ns.length := (List.getElem?_eq_some_iff.1 hk).1
  obtain ⟨h0, h1⟩ := spv_get ns k x hk
  obtain ⟨ad, rfl, hB, hlt, hc⟩ := hR.2.2.2 (by omega)
  refine ⟨ad, rfl, hlt, hc _ _ h0, ?_⟩
  rw [← add_off _ _ (by omega), add_add]
  exact hc _ _ h1
theorem keep4 {w2 w3 w4 : World} {a1 : Addr} {g : Nat} {r0 r1 p3 : Value} (h1 : a1.block < w2.heap.size) (hg : g < w2.heap.size)
    (h : w3.cell? a1 = some r0 ∧ w3.cell? ⟨a1.block, a1.off + 1, none⟩ = some r1 ∧ w3.cell? ⟨g, 3, none⟩ = some p3 ∧ Below w2.heap.size w2 w3) (hb : Below w3.heap.size w3 w4) :
    w4.cell? a1 = some r0 ∧ w4.cell? ⟨a1.block, a1.off + 1, none⟩ = some r1 ∧ w4.cell? ⟨g, 3, none⟩ = some p3 ∧ Below w2.heap.size w2 w4 := by
  obtain ⟨c0, c1, c2, hB⟩ := h
  have l1 : a1.block < w3.heap.size := Nat.lt_of_lt_of_le h1 hB.size
  have l3 : g < w3.heap.size := Nat.lt_of_lt_of_le hg hB.size
  exact ⟨(hb.cell l1).trans c0, (hb.cell (p := ⟨a1.block, a1.off + 1, none⟩) l1).trans c1, (hb.cell (p := ⟨g, 3, none⟩) l3).trans c2, below_of hB hb⟩
/-- A name of the text, unquoted. -/
theorem unqName (s nm : ByteArray) (x : Nat × Nat) (w : World) (hx : x.1 + 1 < x.2 ∧ x.2 ≤ s.size ∧ strAt s x.1 = some x.2) (hs : s.size ≤ 65536) (hn : nameOf s x = nm) :
    Calls Tryz.prog 30 #[.string (s.extract x.1 x.2)] w fun e w' => e = .returned (.string nm) ∧ Below w.heap.size w w' := by
  subst hn
  obtain ⟨h1, h2, h3⟩ := hx
  have hz : (s.extract x.1 x.2).size = x.2 - x.1 := by rw [size_ext]; omega
  exact unquoteW _ (s.extract (x.1 + 1) (x.2 - 1)) w (by rw [hz, ByteArray.extract_extract]; congr 1; omega) (by omega) (by omega) (name_ok h3)
theorem drop_cons2 {ns : List (Nat × Nat)} {k : Nat} {x : Nat × Nat} (h : ns[k]? = some x) : ns.drop k = x :: ns.drop (k + 1) := by
  have hl := (List.getElem?_eq_some_iff.1 h).1
  rw [List.drop_eq_getElem_cons hl]
  rw [List.getElem?_eq_getElem hl] at h
  rw [Option.some.inj h]
set_option maxRecDepth 100000 in
set_option maxHeartbeats 4000000 in
theorem namedW (s key : ByteArray) (ns : List (Nat × Nat)) (B : Nat → Prop) (An : Option Addr) (nn cn : Nat) (v0 v1 v2 v4 : Value) (y : Int) (w : World) (hN : Row w B 2 An nn cn (spv ns)) (hnn : nn = ns.length) (hs : s.size ≤ 65536)
    (hok : ∀ x ∈ ns, x.1 + 1 < x.2 ∧ x.2 ≤ s.size ∧ strAt s x.1 = some x.2) (hy : namI (namedN s key ns) = y) :
    Calls Tryz.prog 47 #[.string s, .agg #[v0, v1, v2, .slice An nn cn, v4], .string key] w fun e w' => e = .returned (.int .i64 y) ∧ Below w.heap.size w w' := by
  obtain ⟨w1, hw1⟩ : ∃ w1, w.alloc (.cells #[v0, v1, v2, .slice An nn cn, v4] 27) = w1 := ⟨_, rfl⟩
  have hb1 : Below w.heap.size w w1 := by rw [← hw1]; exact below_alloc (Below.refl _ _) _
  have hp5 : B5 w1 w.heap.size v0 v1 v2 (.slice An nn cn) v4 := by rw [← hw1]; exact B5.new _ _ _ _ _ _
  have HN := Lib.hid (hN.keep (Keeps.of_below hb1))
  have HP5 := Lib.hid hp5
  have HB1 := Lib.hid hb1
  have HNN := Lib.hid hnn
  have HOK := Lib.hid hok
  have HY := Lib.hid hy
  have hnm : nn ≤ 9223372036854775807 := by have := hN.2.1; have := hN.2.2.1; simp only [maxLen] at this; omega
  have q3 := hp5.c3
  clear hb1 hp5 hN hnn hok hy
  go_enter Tryz.func47, Tryz.ntmps47
  go_wp2
  go_loopg [7] nn (fun d v7 wx => ∃ k : Nat, v7 = .int .i64 (k : Int) ∧ k ≤ nn ∧ nn - k ≤ d ∧ namedN s key ns = (namedN s key (ns.drop k)).map (· + k) ∧ Below w1.heap.size w1 wx)
  case atStart => exact ⟨0, rfl, by omega, by omega, by rw [List.drop_zero]; cases namedN s key ns <;> rfl, Below.refl _ _⟩
  case round =>
    obtain ⟨k, rfl, hk, hd, hnk, hb⟩ := hrel
    have HD := Lib.hid hd
    have HNK := Lib.hid hnk
    have HB := Lib.hid hb
    have q3' : wr.cell? ⟨w.heap.size, 3, none⟩ = some (.slice An nn cn) := (hb.cell (p := ⟨w.heap.size, 3, none⟩) HP5.out.lt).trans q3
    clear hd hnk hb q3
    by_cases hlt : k < nn
    · obtain ⟨x, hx⟩ : ∃ x, ns[k]? = some x := ⟨_, List.getElem?_eq_getElem (by rw [← HNN.out]; exact hlt)⟩
      obtain ⟨ad, rfl, hlb, c0, c1⟩ := nameAt (HN.out.keep (Keeps.of_below HB.out)) HNN.out hx
      have hxo := HOK.out x (List.mem_of_getElem? hx)
      obtain ⟨o1, o2, o3⟩ := hxo
      have hlb2 : (ad.add (k * 2)).block < wr.heap.size := by rw [add_block]; exact hlb
      have hlb1 : w.heap.size < wr.heap.size := Nat.lt_of_lt_of_le HP5.out.lt HB.out.size
      have HO3 := Lib.hid o3
      have HDC := Lib.hid (drop_cons2 hx)
      obtain ⟨nm, hnm2⟩ : ∃ nm, nameOf s x = nm := ⟨_, rfl⟩
      have HNM := Lib.hid hnm2
      have hi0 : (0 : Int) ≤ (k : Int) := by omega
      have hi1 : (k : Int) < (nn : Int) := by omega
      have hi2 : (0 : Int) ≤ (x.1 : Int) := by omega
      have hi3 : (x.1 : Int) ≤ (x.2 : Int) := by omega
      have hi4 : (x.2 : Int) ≤ (s.size : Int) := by omega
      by_cases hkey : nm = key
      · have hq : (nm.toList == key.toList) = true := by rw [hkey]; exact beq_self_eq_true _
        have HR := Lib.hid (show y = (k : Int) by rw [← HY.out, HNK.out, HDC.out, named_yes _ (HNM.out.trans hkey)]; simp [namI])
        clear hx o3 hnm2 hkey
        go_wp2
        go_region_held3 (fun w3 => w3.cell? (ad.add (k * 2)) = some (.int .i64 (x.1 : Int)) ∧ w3.cell? ⟨(ad.add (k * 2)).block, (ad.add (k * 2)).off + 1, none⟩ = some (.int .i64 (x.2 : Int)) ∧ w3.cell? ⟨w.heap.size, 3, none⟩ = some (.slice (some ad) nn cn) ∧ Below wr.heap.size wr w3)
          (first | exact ⟨c0, c1, q3', ⟨rfl, rfl, rfl, Nat.le_refl _, fun _ _ => rfl⟩⟩ | assumption | exact keep4 hlb2 hlb1 ‹_› ‹_›)
          (first
            | (go_at_call 30; refine (unqName s nm x _ ⟨o1, o2, HO3.out⟩ hs HNM.out).mono ?_; rintro en w3 ⟨rfl, hb3⟩))
        all_goals
          rename_i hH
          have HH := Lib.hid hH
          clear hH
          go_wp2
          go_ret
          exact ⟨by rw [HR.out]; rfl, below_of HB1.out (below_of HB.out HH.out.2.2.2)⟩
      · have hq : (nm.toList == key.toList) = false := by
          rw [Bool.eq_false_iff]; intro e
          exact hkey (toList_inj (by simpa using e))
        have HR := Lib.hid (show namedN s key ns = (namedN s key (ns.drop (k + 1))).map (· + (k + 1)) by
          rw [HNK.out, HDC.out, named_no _ (by rw [HNM.out]; exact hkey)]
          cases namedN s key (ns.drop (k + 1)) with
          | none => rfl
          | some a => simp only [Option.map_some]; congr 1; omega)
        clear hx o3 hnm2 hkey
        go_wp2
        go_region_held3 (fun w3 => w3.cell? (ad.add (k * 2)) = some (.int .i64 (x.1 : Int)) ∧ w3.cell? ⟨(ad.add (k * 2)).block, (ad.add (k * 2)).off + 1, none⟩ = some (.int .i64 (x.2 : Int)) ∧ w3.cell? ⟨w.heap.size, 3, none⟩ = some (.slice (some ad) nn cn) ∧ Below wr.heap.size wr w3)
          (first | exact ⟨c0, c1, q3', ⟨rfl, rfl, rfl, Nat.le_refl _, fun _ _ => rfl⟩⟩ | assumption | exact keep4 hlb2 hlb1 ‹_› ‹_›)
          (first
            | (go_at_call 30; refine (unqName s nm x _ ⟨o1, o2, HO3.out⟩ hs HNM.out).mono ?_; rintro en w3 ⟨rfl, hb3⟩))
        all_goals
          rename_i hH
          have HH := Lib.hid hH
          clear hH
          go_wp2
          go_roundg (gk - 1)
          case measure => have := HD.out; omega
          case rel => exact ⟨k + 1, by go_num, by omega, by have := HD.out; omega, HR.out, below_of HB.out HH.out.2.2.2⟩
    · have HR := Lib.hid (show y = -1 by rw [← HY.out, HNK.out, List.drop_eq_nil_of_le (by rw [← HNN.out]; omega)]; rfl)
      go_wp2
      go_ret
      exact ⟨by rw [HR.out]; rfl, below_of HB1.out HB.out⟩
end Go.Proofs.YtkdkdhcjpgmjdaaGreatDoor.Jp
