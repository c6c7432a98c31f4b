/- Config.Get without keys; what a call keeps. -/
import Derived.Test.YtkdkdhcjpgmjdaaGreatDoorJpCutP
import Derived.Test.YtkdkdhcjpgmjdaaGreatDoorJpTold
namespace Go.Proofs.YtkdkdhcjpgmjdaaGreatDoor.Jp
open Go.RowKit L
set_option linter.unusedVariables false
set_option linter.unusedSimpArgs false

set_option maxRecDepth 100000 in
set_option maxHeartbeats 4000000 in
theorem cgetW (T : Nat → TypeId) (V : Nat → Value) (A : Option Addr) (s : ByteArray) (m c : Nat) (ca cb : Bool) (cn : Int) (w : World) (h : Rd w A s) (hE : Errs T V w) (hm : m = s.size) (hs : s.size ≤ 1000000) (hc : s.size ≤ c) :
    Calls Tryz.prog 105 #[.agg #[.bool ca, .bool cb, .int .i64 cn], .slice A m c, .slice none 0 0] w (GetPost T V s (getT ca (tx s)) w) := by
  subst hm
  have HB := Lib.hid (below_alloc (Below.refl w.heap.size w) (.cells #[.bool ca, .bool cb, .int .i64 cn] 97))
  have HR := Lib.hid (h.below HB.out)
  have HE := Lib.hid (hE.below HB.out)
  have hcf := CfgAt.new w ca cb cn
  have hg0 := hcf.c0
  have hg1 := hcf.c1
  have hg2 := hcf.c2
  clear h hE hcf
  obtain ⟨w0, hw0⟩ : ∃ w0, w.alloc (.cells #[.bool ca, .bool cb, .int .i64 cn] 97) = w0 := ⟨_, rfl⟩
  rw [hw0] at HB HR HE hg0 hg1 hg2
  obtain ⟨g, hg⟩ : ∃ g, getT ca (tx s) = g := ⟨_, rfl⟩
  rw [hg]
  have HG := Lib.hid hg
  clear hg
  rcases g with _ | ⟨d, ⟨dt, k⟩ | ⟨dt, err⟩⟩
  all_goals
    go_enter Tryz.func105, Tryz.ntmps105
  · go_wp2_with (first
      | (go_at_call 65; refine (igetW T V _ s _ _ ca cb cn _ HR.out HE.out rfl hs hc).mono ?_; rw [HG.out]; rintro e w1 ⟨rfl, hb1⟩; replace hb1 := Lib.hid hb1))
    (try simp only [Exit.inBlock, Exit.then])
    refine bodyPost_ret (results_tmp4 rfl _ _ _) rfl ?_
    exact ⟨rfl, below_of HB.out hb1.out⟩
  · go_wp2_with (first
      | (go_at_call 65; refine (igetW T V _ s _ _ ca cb cn _ HR.out HE.out rfl hs hc).mono ?_; rw [HG.out]; rintro e w1 ⟨⟨A2, n2, c2, rfl, h1, h2, h3, h4⟩, hb1⟩; replace hb1 := Lib.hid hb1; replace h1 := Lib.hid h1; replace h4 := Lib.hid h4))
    (try simp only [Exit.inBlock, Exit.then])
    refine bodyPost_ret (results_tmp4 rfl _ _ _) rfl ?_
    exact ⟨⟨A2, n2, c2, rfl, h1.out, h2, h3, h4.out⟩, below_of HB.out hb1.out⟩
  · go_wp2_with (first
      | (go_at_call 65; refine (igetW T V _ s _ _ ca cb cn _ HR.out HE.out rfl hs hc).mono ?_; rw [HG.out]; rintro e w1 ⟨rfl, hb1⟩; replace hb1 := Lib.hid hb1))
    (try simp only [Exit.inBlock, Exit.then])
    refine bodyPost_ret (results_tmp4 rfl _ _ _) rfl ?_
    exact ⟨rfl, below_of HB.out hb1.out⟩

/-- The blocks of B are as they were, and nothing was said or read. -/
structure Kp (B : Nat → Prop) (w w' : World) : Prop where
  os : w'.os = w.os
  tape : w'.tape = w.tape
  output : w'.output = w.output
  size : w.heap.size ≤ w'.heap.size
  block : ∀ j, B j → j < w.heap.size → w'.heap[j]? = w.heap[j]?
theorem Kp.refl (B : Nat → Prop) (w : World) : Kp B w w := ⟨rfl, rfl, rfl, Nat.le_refl _, fun _ _ _ => rfl⟩
theorem Kp.trans {B : Nat → Prop} {u v w : World} (h : Kp B u v) (k : Kp B v w) : Kp B u w :=
  ⟨k.os.trans h.os, k.tape.trans h.tape, k.output.trans h.output, Nat.le_trans h.size k.size, fun j hj hl => (k.block j hj (Nat.lt_of_lt_of_le hl h.size)).trans (h.block j hj hl)⟩
theorem Kp.of_below {B : Nat → Prop} {w w' : World} (h : Below w.heap.size w w') : Kp B w w' := ⟨h.os, h.tape, h.output, h.size, fun j _ hl => h.block j hl⟩
end Go.Proofs.YtkdkdhcjpgmjdaaGreatDoor.Jp
