/- ArrayEach over an array that is cut off: the walk of JpArrayEach. -/
import Derived.Test.YtcjgneomcnholaaDoorJpEach3
namespace Go.Proofs.YtcjgneomcnholaaDoor.Jp
open Go.RowKit L
set_option linter.unusedVariables false
set_option linter.unusedSimpArgs false

/-- What JpArrayEach answers over an array cut off. -/
def JpEachPost (S : ByteArray) (m : Nat) (kids : List Pl) (w : World) (e : Ending) (w' : World) : Prop :=
  ∃ (A : Option Addr) (n c : Nat) (x : Int) (xs : List Value), e = .returned (.tuple #[.slice A n c, .int .i64 x, .bool false]) ∧ Row w' (From w.heap.size) 4 A n c xs ∧ n ≤ 1000000 ∧ Had S m kids n xs ∧ Below w.heap.size w w'
set_option maxRecDepth 100000 in
set_option maxHeartbeats 4000000 in
theorem jpEachW (T : Nat → TypeId) (V : Nat → Value) (S t : ByteArray) (nf i E : Nat) (kids : List Pl) (w : World) (hW : Wd T V w)
    (htS : t = S.extract 0 t.size) (ht : tx t = (tx S).take t.size) (hS : S.size ≤ 65536) (hmS : t.size < E) (hES : E ≤ S.size)
    (hi : i = L.skip isBlank S 0) (hil : i < S.size) (h91 : bt S i = 91)
    (hkids : (kids = [] ∧ L.skip isBlank S (i + 1) + 1 = E) ∨ (bt S (L.skip isBlank S (i + 1)) ≠ 93 ∧ EChain S nf E (i + 1) kids)) :
    Calls Tryd.prog 15 #[.string t, .slice none 0 0] w (JpEachPost S t.size kids w) := by
  have hA : Ahead w.heap.size := ⟨hW.errs.e1.1, hW.errs.e2.1, hW.errs.e3.1, hW.errs.e4.1, hW.errs.e5.1, hW.errs.e6.1⟩
  obtain ⟨w1, hw1⟩ : ∃ w1, w.alloc (.cells #[.slice none 0 0] 33) = w1 := ⟨_, rfl⟩
  have hb1 : Below w.heap.size w w1 := by rw [← hw1]; exact below_alloc (Below.refl _ _) _
  have hG1 : w1.heap[w.heap.size]? = some (.cells #[.slice none 0 0] 33 (0, 0)) := by rw [← hw1]; exact heap_alloc_new w _
  have hz1 : w1.heap.size = w.heap.size + 1 := by rw [← hw1]; simp
  have hcv : (convert 9 77 (.string t)).run Tryd.prog w1 = .ok (.slice (some ⟨w1.heap.size, 0, none⟩) t.size (grownCap w1 t.size 0 5)) (Lib.bytesWorld w1 5 t) := Lib.run_convert_string_bytes w1 9 77 5 t Tryd.underlying9 Tryd.underlying77 Tryd.underlying5
  have hb2 := bytesWorld_below w1 5 t
  have HR2 := Lib.hid (bytesWorld_rd w1 5 t)
  have HC2 := Lib.hid (bytesCap w1 5 t)
  have HW2 := Lib.hid ((hW.below hb1).below hb2)
  have HG2 := Lib.hid ((hb2.block w.heap.size (by omega)).trans hG1)
  have HB2 := Lib.hid (below_of hb1 hb2)
  have hl2 : w.heap.size + 2 ≤ (Lib.bytesWorld w1 5 t).heap.size := by
    have h : (Lib.bytesWorld w1 5 t).heap.size = w1.heap.size + 1 := by rw [Lib.bytesWorld_size]
    omega
  have HL2 := Lib.hid hl2
  clear hl2
  obtain ⟨w2, hw2⟩ : ∃ w2, Lib.bytesWorld w1 5 t = w2 := ⟨_, rfl⟩
  rw [hw2] at hcv HR2 HW2 HG2 HB2 HL2
  obtain ⟨cc, hcc⟩ : ∃ cc, grownCap w1 t.size 0 5 = cc := ⟨_, rfl⟩
  rw [hcc] at hcv HC2
  rw [hz1] at hcv HR2
  have hmf : ∀ (fn : Fn) (first cap : Array Value) (w : World), (Instr.makeFunc fn first cap).run Tryd.prog w = .ok (.func fn first cap) w := fun _ _ _ _ => rfl
  have HNE := Lib.hid (show (⟨w.heap.size + 1, 0, none⟩ : Addr).block ≠ w.heap.size by show w.heap.size + 1 ≠ w.heap.size; omega)
  have HLT := Lib.hid (show (⟨w.heap.size + 1, 0, none⟩ : Addr).block < w2.heap.size by show w.heap.size + 1 < w2.heap.size; have := HL2.out; omega)
  have HTS := Lib.hid htS
  have HT := Lib.hid ht
  have HK := Lib.hid hkids
  have HI := Lib.hid hi
  clear hW hb1 hb2 hG1 htS ht hkids hi
  go_enter Tryd.func15, Tryd.ntmps15
  go_wp2_with (first
    | (go_at_call 39; refine (arrayEachW T V ⟨w.heap.size + 1, 0, none⟩ S t nf i E t.size cc kids w.heap.size w2 HR2.out HW2.out hA (by have := HL2.out; omega) HG2.out (HNE.out) (HLT.out) rfl HTS.out HT.out hS hmS hES HC2.out HI.out hil h91 HK.out).mono ?_; rintro e w5 ⟨x, ty, v, z, n, xs, rfl, hz, ⟨o1, o2, vv, o3, o4⟩, hn, hh, hk⟩
       obtain ⟨A5, c5, rfl, hrow⟩ := Row.of_own o4
       have hc5 : w5.cell? ⟨w.heap.size, 0, none⟩ = some (.slice A5 n c5) := cell_of_row w5 w.heap.size 0 _ _ _ o3
       replace hrow := Lib.hid hrow
       replace hh := Lib.hid hh
       replace hk := Lib.hid hk
       clear o1 o2 o3 o4))
  go_quiet (fail)
  go_wp2
  (try simp only [Exit.inBlock, Exit.then])
  refine bodyPost_ret (v := .tuple #[.slice A5 n c5, .int .i64 x, .bool false]) (by simp [results, Tryd.results15, go_sem]) rfl ?_
  refine ⟨A5, n, c5, x, xs, rfl, (hrow.out.mono fun j _ hj => ?_).keep ⟨Nat.le_refl _, fun _ _ _ => rfl⟩, hn, hh.out, ?_⟩
  · have := HL2.out; simp only [From] at hj ⊢; omega
  · refine below_drewN ⟨hk.out.os.trans HB2.out.os, hk.out.tape.trans HB2.out.tape, hk.out.output.trans HB2.out.output, by have := hk.out.size; have := HB2.out.size; omega, fun j hj => ?_⟩ _
    have := HL2.out
    exact (hk.out.block j ⟨by omega, by omega⟩ (by omega)).trans (HB2.out.block j hj)
end Go.Proofs.YtcjgneomcnholaaDoor.Jp
