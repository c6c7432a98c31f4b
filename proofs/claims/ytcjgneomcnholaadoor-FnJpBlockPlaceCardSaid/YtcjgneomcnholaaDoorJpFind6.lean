/- FnJpBlockPlace: the walk of the law. -/
import Derived.Test.YtcjgneomcnholaaDoorJpFind5
import Derived.Test.YtcjgneomcnholaaDoorJpType2
import Derived.Test.YtcjgneomcnholaaDoorJpType3
import Derived.Test.YtcjgneomcnholaaDoorJpGet2
namespace Go.Proofs.YtcjgneomcnholaaDoor.Jp
open Go.RowKit L
set_option linter.unusedVariables false
set_option linter.unusedSimpArgs false

/-- The package's configuration, as it is laid. -/
structure Dc (w : World) : Prop where
  lt : 0 < w.heap.size
  d0 : w.cell? ⟨0, 0, none⟩ = some (.bool false)
  d1 : w.cell? ⟨0, 1, none⟩ = some (.bool false)
  d2 : w.cell? ⟨0, 2, none⟩ = some (.int .i64 0)
theorem Dc.below {w w' : World} (h : Dc w) (hb : Below w.heap.size w w') : Dc w' :=
  ⟨Nat.lt_of_lt_of_le h.lt hb.size, (hb.cell (p := ⟨0, 0, none⟩) h.lt).trans h.d0, (hb.cell (p := ⟨0, 1, none⟩) h.lt).trans h.d1, (hb.cell (p := ⟨0, 2, none⟩) h.lt).trans h.d2⟩
set_option maxRecDepth 100000 in
set_option maxHeartbeats 4000000 in
theorem blockEndA (s : ByteArray) (o c : Int) (n : Nat) (w : World) (hW : Dc w) (hs : s.size ≤ 1000000)
    (hoc : (o = 91 ∧ c = 93 ∧ blk false 91 93 0 (tx s) = some n) ∨ (o = 123 ∧ c = 125 ∧ blk false 123 125 0 (tx s) = some n)) :
    Calls Tryd.prog 13 #[.string s, .int .u8 o, .int .u8 c] w fun e w' => e = .returned (.int .i64 (n : Int)) ∧ Below w.heap.size w w' := by
  have hcv : (convert 9 77 (.string s)).run Tryd.prog w = .ok (.slice (some ⟨w.heap.size, 0, none⟩) s.size (grownCap w s.size 0 5)) (Lib.bytesWorld w 5 s) := Lib.run_convert_string_bytes w 9 77 5 s Tryd.underlying9 Tryd.underlying77 Tryd.underlying5
  have HB0 := Lib.hid (bytesWorld_below w 5 s)
  have HR0 := Lib.hid (bytesWorld_rd w 5 s)
  have HC0 := Lib.hid (bytesCap w 5 s)
  have HW0 := Lib.hid (hW.below HB0.out)
  obtain ⟨wb, hwb⟩ : ∃ wb, Lib.bytesWorld w 5 s = wb := ⟨_, rfl⟩
  obtain ⟨cc, hcc⟩ : ∃ cc, grownCap w s.size 0 5 = cc := ⟨_, rfl⟩
  rw [hwb] at hcv HB0 HR0 HW0
  rw [hcc] at hcv HC0
  have hblk : Calls Tryd.prog 64 #[.slice (some ⟨w.heap.size, 0, none⟩) s.size cc, .int .u8 o, .int .u8 c] wb fun e w' => e = .returned (.int .i64 (n : Int)) ∧ Below wb.heap.size wb w' := by
    have d0 := HW0.out.d0
    have d1 := HW0.out.d1
    have d2 := HW0.out.d2
    rcases hoc with ⟨rfl, rfl, hb⟩ | ⟨rfl, rfl, hb⟩
    · have HBK := Lib.hid hb
      clear hb hcv
      go_enter Tryd.func64, Tryd.ntmps64
      go_wp2_with (first
        | (go_at_call 83; refine (blkArrW _ s _ _ _ _ _ _ HR0.out rfl hs HC0.out).mono ?_; rintro e w1 ⟨⟨z, rfl, ⟨m, hm, rfl⟩ | ⟨hm, -⟩⟩, hb1⟩; case inr => exact absurd (HBK.out.symm.trans hm) (by simp)
           obtain rfl : n = m := Option.some.inj (HBK.out.symm.trans hm)
           clear hm))
      go_ret
      exact ⟨rfl, hb1⟩
    · have HBK := Lib.hid hb
      clear hb hcv
      go_enter Tryd.func64, Tryd.ntmps64
      go_wp2_with (first
        | (go_at_call 83; refine (blkObjW _ s _ _ _ _ _ _ HR0.out rfl hs HC0.out).mono ?_; rintro e w1 ⟨⟨z, rfl, ⟨m, hm, rfl⟩ | ⟨hm, -⟩⟩, hb1⟩; case inr => exact absurd (HBK.out.symm.trans hm) (by simp)
           obtain rfl : n = m := Option.some.inj (HBK.out.symm.trans hm)
           clear hm))
      go_ret
      exact ⟨rfl, hb1⟩
  have HBL := Lib.hid hblk
  have hdoor : Calls Tryd.prog 37 #[.string s, .int .u8 o, .int .u8 c] w fun e w' => e = .returned (.int .i64 (n : Int)) ∧ Below w.heap.size w w' := by
    clear hblk hoc
    go_enter Tryd.func37, Tryd.ntmps37
    go_wp2_with (first
      | (go_at_call 64; refine HBL.out.mono ?_; rintro e w1 ⟨rfl, hb1⟩))
    go_ret
    exact ⟨rfl, below_of HB0.out hb1⟩
  have HDO := Lib.hid hdoor
  clear hblk hdoor hoc
  go_enter Tryd.func13, Tryd.ntmps13
  go_wp2_with (first
    | (go_at_call 37; refine HDO.out.mono ?_; rintro e w1 ⟨rfl, hb1⟩))
  go_ret
  exact ⟨rfl, hb1⟩
theorem blockEndZ (s : ByteArray) (o c : Int) (n : Nat) (z : Int) (w : World) (hz : z = (n : Int)) (hW : Dc w) (hs : s.size ≤ 1000000)
    (hoc : (o = 91 ∧ c = 93 ∧ blk false 91 93 0 (tx s) = some n) ∨ (o = 123 ∧ c = 125 ∧ blk false 123 125 0 (tx s) = some n)) :
    Calls Tryd.prog 13 #[.string s, .int .u8 o, .int .u8 c] w fun e w' => e = .returned (.int .i64 z) ∧ Below w.heap.size w w' := by
  subst hz; exact blockEndA s o c n w hW hs hoc
theorem keep_box {w2 w3 w4 : World} {g : Nat} {v0 v1 v2 v3 v4 : Value} (h : B5 w3 g v0 v1 v2 v3 v4 ∧ w3.cell? ⟨g, 1, none⟩ = some v1 ∧ w3.cell? ⟨g, 2, none⟩ = some v2 ∧ Below w2.heap.size w2 w3) (hb : Below w3.heap.size w3 w4) :
    B5 w4 g v0 v1 v2 v3 v4 ∧ w4.cell? ⟨g, 1, none⟩ = some v1 ∧ w4.cell? ⟨g, 2, none⟩ = some v2 ∧ Below w2.heap.size w2 w4 := by
  obtain ⟨h1, h2, h3, h4⟩ := h
  have h5 := B5.below h1 hb
  exact ⟨h5, h5.c1, h5.c2, below_of h4 hb⟩
set_option maxRecDepth 100000 in
set_option maxHeartbeats 4000000 in
theorem lawBlock (s tail : ByteArray) (ks : List ByteArray) (B : Nat → Prop) (A : Option Addr) (n c : Nat) (w : World) (hs0 : s.size ≤ 140737488351232) (ht0 : tail.size ≤ 140737488351232) (hR : Row w B 1 A n c (keysV ks)) (hks : ∀ k ∈ ks, k.size ≤ 9223372036854775807) (hW : Dc w) :
    Calls Tryd.prog 3 #[.string s, .slice A n c, .string tail] w fun e w' => e = .returned (.bool true) ∧ Below w.heap.size w w' := by
  have HW := Lib.hid hW
  have HR := Lib.hid hR
  have HKS := Lib.hid hks
  clear hW hR hks
  by_cases hbig : 2147483647 < s.size
  · go_enter Tryd.func3, Tryd.ntmps3
    go_wp2
    go_ret
    exact ⟨rfl, Below.refl _ _⟩
  by_cases htb : 2147483647 < tail.size
  · go_enter Tryd.func3, Tryd.ntmps3
    go_wp2_with (first
      | (go_at_call 11; refine (fits1W A n c ks B _ HR.out HKS.out).mono ?_; rintro e w1 ⟨rfl, b, rfl, hb⟩; clear hb; cases b))
    all_goals go_ret
    all_goals exact ⟨rfl, Below.refl _ _⟩
  have hd1 : decide (2147483647 < (s.size : Int)) = false := by simp; omega
  have hd2 : decide (2147483647 < (tail.size : Int)) = false := by simp; omega
  go_enter Tryd.func3, Tryd.ntmps3
  go_upto_region 3 with (first
    | (go_at_call 11; refine (fits1W A n c ks B _ HR.out HKS.out).mono ?_; rintro e w1 ⟨rfl, b, rfl, hb⟩; replace hb := Lib.hid hb; cases b))
  · go_ret
    exact ⟨rfl, Below.refl _ _⟩
  · go_upto_region 4 with (first
      | (go_at_call 12; go_must (refine (jpFoundW s ks B A n c _ HR.out (hb.out (by trivial)).2 (by omega)).mono ?_); rintro e w1 ⟨hb1, ⟨root, r, An, cn, Ak, ck, hsz, hpl, hld, hval, rfl, hpm⟩ | rfl⟩ <;> replace hb1 := Lib.hid hb1))
    · obtain ⟨w2, hw2⟩ : ∃ w2, w1.alloc (.cells #[.int .i64 (r.kind : Int), .int .i64 (r.b : Int), .int .i64 (r.e : Int), .slice An r.names.length cn, .slice Ak r.kids.length ck] 27) = w2 := ⟨_, rfl⟩
      rw [hw2]
      have hb2 : Below w1.heap.size w1 w2 := by rw [← hw2]; exact below_alloc (Below.refl _ _) _
      have hp2 : B5 w2 w1.heap.size (.int .i64 (r.kind : Int)) (.int .i64 (r.b : Int)) (.int .i64 (r.e : Int)) (.slice An r.names.length cn) (.slice Ak r.kids.length ck) := by rw [← hw2]; exact B5.new _ _ _ _ _ _
      have HP2 := Lib.hid hp2
      have HB2 := Lib.hid (below_of hb1.out hb2)
      have HW2 := Lib.hid (HW.out.below HB2.out)
      have c0 := hp2.c0
      have c1 := hp2.c1
      have c2 := hp2.c2
      obtain ⟨nv, off, hrd⟩ := hval
      have hvo := vok _ _ _ _ (by have := hrd.2.1; omega) hrd.2.2.1
      rw [← hrd.2.2.2.1] at hvo
      obtain ⟨v1, v2, -, -, -, v5, v6, -⟩ := hvo
      have hseg : tx (s.extract r.b r.e ++ tail) = seg s r.b r.e ++ tx tail := by
        unfold tx seg
        rw [ByteArray.data_append, Array.toList_append]
        congr 1
        exact tx_cut s r.b r.e
      have hi0 : (0 : Int) ≤ (r.b : Int) := by omega
      have hi1 : (r.b : Int) ≤ (r.e : Int) := by omega
      have hi2 : (r.e : Int) ≤ (s.size : Int) := by omega
      have hre : r.e ≤ 65536 := by omega
      clear hb2 hp2 hw2 hpl hld hpm hrd
      by_cases htl : 65536 < tail.size
      · go_wp2
        go_ret
        exact ⟨rfl, HB2.out⟩
      have hd3 : decide (65536 < (tail.size : Int)) = false := by simp; omega
      by_cases h6 : r.kind = 6
      · have k6 : ((r.kind : Int) == 6) = true := by rw [beq_iff_eq]; omega
        have HBK := Lib.hid (show blk false 123 125 0 (tx (s.extract r.b r.e ++ tail)) = some (r.e - r.b) by rw [hseg]; exact (v6 h6).2 _ _)
        clear v5 v6 hseg h6
        go_wp2
        have e1 : IntKind.i64.wrap ((r.e : Int) - (r.b : Int)) = (r.e : Int) - (r.b : Int) := IntWalk.i64_in _ (by omega)
        go_region_held3 (fun w3 => B5 w3 w1.heap.size (.int .i64 (r.kind : Int)) (.int .i64 (r.b : Int)) (.int .i64 (r.e : Int)) (.slice An r.names.length cn) (.slice Ak r.kids.length ck) ∧ w3.cell? ⟨w1.heap.size, 1, none⟩ = some (.int .i64 (r.b : Int)) ∧ w3.cell? ⟨w1.heap.size, 2, none⟩ = some (.int .i64 (r.e : Int)) ∧ Below w2.heap.size w2 w3)
          (first | exact ⟨HP2.out, c1, c2, ⟨rfl, rfl, rfl, Nat.le_refl _, fun _ _ => rfl⟩⟩ | assumption | exact keep_box ‹_› ‹_›)
          (first
            | (go_at_call 13; go_must (refine (blockEndZ (s.extract r.b r.e ++ tail) _ _ (r.e - r.b) ((r.e : Int) - (r.b : Int)) _ (by omega) (HW2.out.below (by first | assumption | exact ⟨rfl, rfl, rfl, Nat.le_refl _, fun _ _ => rfl⟩)) (by rw [ByteArray.size_append, size_ext]; omega) (.inr ⟨rfl, rfl, HBK.out⟩)).mono ?_); rintro en w3 ⟨rfl, hb3⟩))
        all_goals
          rename_i hH
          have HH := Lib.hid hH
          clear hH
          go_wp2
          go_ret
          exact ⟨rfl, below_of HB2.out HH.out.2.2.2⟩
      have k6 : ((r.kind : Int) == 6) = false := beq_eq_false_iff_ne.2 (by omega)
      by_cases h5 : r.kind = 5
      · have k5 : ((r.kind : Int) == 5) = true := by rw [beq_iff_eq]; omega
        have HBK := Lib.hid (show blk false 91 93 0 (tx (s.extract r.b r.e ++ tail)) = some (r.e - r.b) by rw [hseg]; exact (v5 h5).2 _ _)
        clear v5 v6 hseg h5 h6
        go_wp2
        have e1 : IntKind.i64.wrap ((r.e : Int) - (r.b : Int)) = (r.e : Int) - (r.b : Int) := IntWalk.i64_in _ (by omega)
        go_region_held3 (fun w3 => B5 w3 w1.heap.size (.int .i64 (r.kind : Int)) (.int .i64 (r.b : Int)) (.int .i64 (r.e : Int)) (.slice An r.names.length cn) (.slice Ak r.kids.length ck) ∧ w3.cell? ⟨w1.heap.size, 1, none⟩ = some (.int .i64 (r.b : Int)) ∧ w3.cell? ⟨w1.heap.size, 2, none⟩ = some (.int .i64 (r.e : Int)) ∧ Below w2.heap.size w2 w3)
          (first | exact ⟨HP2.out, c1, c2, ⟨rfl, rfl, rfl, Nat.le_refl _, fun _ _ => rfl⟩⟩ | assumption | exact keep_box ‹_› ‹_›)
          (first
            | (go_at_call 13; go_must (refine (blockEndZ (s.extract r.b r.e ++ tail) _ _ (r.e - r.b) ((r.e : Int) - (r.b : Int)) _ (by omega) (HW2.out.below (by first | assumption | exact ⟨rfl, rfl, rfl, Nat.le_refl _, fun _ _ => rfl⟩)) (by rw [ByteArray.size_append, size_ext]; omega) (.inl ⟨rfl, rfl, HBK.out⟩)).mono ?_); rintro en w3 ⟨rfl, hb3⟩))
        all_goals
          rename_i hH
          have HH := Lib.hid hH
          clear hH
          go_wp2
          go_ret
          exact ⟨rfl, below_of HB2.out HH.out.2.2.2⟩
      · have k5 : ((r.kind : Int) == 5) = false := beq_eq_false_iff_ne.2 (by omega)
        clear v5 v6 hseg
        go_wp2
        go_ret
        exact ⟨rfl, HB2.out⟩
    · go_wp2
      go_ret
      exact ⟨rfl, below_alloc hb1.out _⟩
end Go.Proofs.YtcjgneomcnholaaDoor.Jp
