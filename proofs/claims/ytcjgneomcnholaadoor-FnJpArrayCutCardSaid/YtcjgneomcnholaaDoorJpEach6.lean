/- The walk of jpSame. -/
import Derived.Test.YtcjgneomcnholaaDoorJpTold
namespace Go.Proofs.YtcjgneomcnholaaDoor.Jp
open Go.RowKit L
set_option linter.unusedVariables false
set_option linter.unusedSimpArgs false
set_option maxRecDepth 100000 in
set_option maxHeartbeats 4000000 in
/-- jpSame of what a place is. -/
theorem sameYes (s r : ByteArray) (k b e : Nat) (x y : Int) (v0 vn vk : Value) (w : World) (hs : s.size ≤ 1000000) (hbe : b < e) (he : e ≤ s.size) (h4 : k = 4 → b + 2 ≤ e) (hk : k ≤ 6) (hr : rawAt s k b e = r) (hx : x = (jk k : Int)) :
    Calls Tryd.prog 41 #[.agg #[v0, .string r, .int .i64 x, .int .i64 y], .string s, .agg #[.int .i64 (k : Int), .int .i64 (b : Int), .int .i64 (e : Int), vn, vk]] w fun en w' => en = .returned (.bool true) ∧ Below w.heap.size w w' := by
  have HX := Lib.hid hx
  have HR := Lib.hid hr
  clear hx hr
  obtain ⟨w1, hw1⟩ : ∃ w1, w.alloc (.cells #[v0, .string r, .int .i64 x, .int .i64 y] 41) = w1 := ⟨_, rfl⟩
  have HB1 := Lib.hid (show Below w.heap.size w w1 by rw [← hw1]; exact below_alloc (Below.refl _ _) _)
  have HF := Lib.hid (show F4 w1 w.heap.size v0 (.string r) (.int .i64 x) (.int .i64 y) by rw [← hw1]; exact F4.new _ _ _ _ _)
  have hz1 : w1.heap.size = w.heap.size + 1 := by rw [← hw1]; simp
  obtain ⟨w2, hw2⟩ : ∃ w2, w1.alloc (.cells #[.int .i64 (k : Int), .int .i64 (b : Int), .int .i64 (e : Int), vn, vk] 27) = w2 := ⟨_, rfl⟩
  have HB2 := Lib.hid (show Below w1.heap.size w1 w2 by rw [← hw2]; exact below_alloc (Below.refl _ _) _)
  have HP := Lib.hid (show B5 w2 w1.heap.size (.int .i64 (k : Int)) (.int .i64 (b : Int)) (.int .i64 (e : Int)) vn vk by rw [← hw2]; exact B5.new _ _ _ _ _ _)
  have HF2 := Lib.hid (HF.out.below HB2.out)
  have HZ1 := Lib.hid hz1
  clear hz1
  go_enter Tryd.func41, Tryd.ntmps41
  go_wp2
  have hxx : (x == x) = true := beq_self_eq_true x
  have hrr : (r.toList == r.toList) = true := beq_self_eq_true _
  have hee : ((e : Int) == (e : Int)) = true := beq_self_eq_true _
  go_region_held3 (fun w3 => w3.cell? ⟨w.heap.size, 1, none⟩ = some (.string r) ∧ w3.cell? ⟨w.heap.size, 2, none⟩ = some (.int .i64 x) ∧ w3.cell? ⟨w.heap.size, 3, none⟩ = some (.int .i64 y) ∧ w3.cell? ⟨w1.heap.size, 0, none⟩ = some (.int .i64 (k : Int)) ∧ w3.cell? ⟨w1.heap.size, 1, none⟩ = some (.int .i64 (b : Int)) ∧ w3.cell? ⟨w1.heap.size, 2, none⟩ = some (.int .i64 (e : Int)) ∧ w3.cell? ⟨w1.heap.size, 3, none⟩ = some vn ∧ w3.cell? ⟨w1.heap.size, 4, none⟩ = some vk ∧ Below w2.heap.size w2 w3)
    (first | exact ⟨HF2.out.c1, HF2.out.c2, HF2.out.c3, HP.out.c0, HP.out.c1, HP.out.c2, HP.out.c3, HP.out.c4, ⟨rfl, rfl, rfl, Nat.le_refl _, fun _ _ => rfl⟩⟩ | assumption | exact keep9 HF2.out.lt HP.out.lt ‹_› ‹_›)
    (first
      | (go_at_call 45; refine (kindX k _ x hk rfl HX.out _).mono ?_; rintro en w3 ⟨rfl, rfl⟩)
      | (go_at_call 46; refine (rawW s k b e vn vk _ hs hbe he h4 hk).mono ?_; rw [HR.out]; rintro en w3 ⟨rfl, hb3⟩))
  all_goals
    go_wp2
    go_ret
    rename_i hH
    exact ⟨rfl, below_of (below_of HB1.out HB2.out) hH.2.2.2.2.2.2.2.2⟩
end Go.Proofs.YtcjgneomcnholaaDoor.Jp
