/- FnFjQuoteAll: the law. -/
import Derived.Test.YtdcmiggpjjdocaaDoorFqN
import Derived.Test.YtdcmiggpjjdocaaDoorFqA
namespace Go.Proofs.YtdcmiggpjjdocaaDoor.L
open Go.RowKit
set_option linter.unusedVariables false
set_option linter.unusedSimpArgs false

theorem quote_parts (T : Lib.PrintTabs) (s : ByteArray) : Lib.quoteZ T s = 34 :: (Lib.quoteFrom T s.size s ++ [34]) := rfl
theorem wrap34 (m : List Int) : strOfNums (34 :: (m ++ [34])) = strOfNums [34] ++ strOfNums m ++ strOfNums [34] := by
  rw [show (34 :: (m ++ [34])) = [34] ++ m ++ [34] by simp, sON_append, sON_append]
theorem quote_len_le (T : Lib.PrintTabs) : ∀ (f : Nat) (s : ByteArray), s.size ≤ f → (Lib.quoteFrom T f s).length ≤ 10 * s.size
  | 0, s, h => by simp [Lib.quoteFrom]
  | f + 1, s, h => by
    by_cases h0 : 0 < s.size
    · rw [Lib.quoteFrom_step T (f + 1) s h0 h, List.length_append]
      have h1 := Lib.quoteStep_length_le T s
      have h2 : 1 ≤ (Utf8.decode s 0).2 := Lib.width_pos _ _
      have h3 := Lib.size_rest s (Utf8.decode s 0).2
      have h4 := quote_len_le T f (s.extract (Utf8.decode s 0).2 s.size) (by omega)
      rw [Nat.add_sub_cancel]
      omega
    · rw [Lib.quoteFrom_end T _ s h0]; simp
/-- Both sides, from any world behind. -/
theorem bothW (T : Lib.PrintTabs) (s : ByteArray) (w : World) (hs : s.size ≤ 1000) (hT : Ptab T w) (hU : Utab w) : ∃ q : ByteArray,
    (∀ w1, Below w.heap.size w w1 → w.heap.size ≤ w1.heap.size → Calls Tryd.prog 5 #[.string s] w1 fun e w' => e = .returned (.string q) ∧ Below w1.heap.size w1 w') ∧
    (∀ w1, Below w.heap.size w w1 → w.heap.size ≤ w1.heap.size → Calls Tryd.prog 6 #[.string s] w1 fun e w' => e = .returned (.string q) ∧ Below w1.heap.size w1 w') := by
  by_cases hsp : Special s
  · refine ⟨strOfNums (Lib.quoteZ T s), fun w1 hb hz => ?_, fun w1 hb hz => ?_⟩
    · have hT1 : Ptab T w1 := printTabs_below hT hb
      have hU1 : Utab w1 := Utf8Tabs_below hU hb
      refine fjQuoteW s (Lib.quoteFrom T s.size s) _ (by rw [quote_parts, wrap34]) w1 (Nat.le_trans (quote_len_le T _ s (Nat.le_refl _)) (by omega)) fun w2 hb2 hz2 => ?_
      exact escQuoteW T s w1 w2 (by omega) hsp hb2 hz2 (printTabs_below hT1 hb2) (Utf8Tabs_below hU1 hb2)
    · have hT1 : Ptab T w1 := printTabs_below hT hb
      have hU1 : Utab w1 := Utf8Tabs_below hU hb
      exact anewW s _ w1 (by omega) (fun _ => Tryd.strconv_Quote T s w1 (by omega) hT1 hU1) (fun h => absurd hsp h)
  · refine ⟨strOfNums (34 :: (bl s ++ [34])), fun w1 hb hz => ?_, fun w1 hb hz => ?_⟩
    · refine fjQuoteW s (bl s) _ (wrap34 _) w1 (by rw [bl_length]; omega) fun w2 hb2 hz2 => escBareW s w1 w2 (by omega) hsp
    · refine anewW s _ w1 (by omega) (fun h => absurd h hsp) (fun _ => ?_)
      rw [wrap34, bl_nums]
      rfl
set_option maxRecDepth 100000 in
set_option maxHeartbeats 4000000 in
theorem lawQ (T : Lib.PrintTabs) (s : ByteArray) (w : World) (hs0 : s.size ≤ 140737488351232) (hT : Ptab T w) (hU : Utab w) :
    Calls Tryd.prog 3 #[.string s] w fun e w' => e = .returned (.bool true) ∧ Below w.heap.size w w' := by
  by_cases h1 : 2147483647 < s.size
  · go_enter Tryd.func3, Tryd.ntmps3
    go_wp2
    go_ret
    exact ⟨rfl, Below.refl _ _⟩
  by_cases h2 : 1000 < s.size
  · have hd : decide ((1000 : Int) < (s.size : Int)) = true := by simp; omega
    go_enter Tryd.func3, Tryd.ntmps3
    go_wp2
    go_ret
    exact ⟨rfl, Below.refl _ _⟩
  have hd : decide ((1000 : Int) < (s.size : Int)) = false := by simp; omega
  obtain ⟨q, hF, hA⟩ := bothW T s w (by omega) hT hU
  have HF := Lib.hid hF
  have HA := Lib.hid hA
  clear hT hU hF hA
  go_enter Tryd.func3, Tryd.ntmps3
  go_wp2_with (first
    | (go_at_call 5; go_must (refine (HF.out _ (Below.refl _ _) (Nat.le_refl _)).mono ?_); rintro e w1 ⟨rfl, hb1⟩; replace hb1 := Lib.hid hb1)
    | (go_at_call 6; go_must (refine (HA.out _ hb1.out hb1.out.size).mono ?_); rintro e w2 ⟨rfl, hb2⟩; replace hb2 := Lib.hid hb2))
  go_ret
  exact ⟨rfl, below_step hb1.out hb2.out⟩
end Go.Proofs.YtdcmiggpjjdocaaDoor.L
