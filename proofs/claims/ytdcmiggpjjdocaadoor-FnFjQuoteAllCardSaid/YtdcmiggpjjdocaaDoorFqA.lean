/- spec.Anew, given what strconv.Quote gives. -/
import Derived.Test.YtdcmiggpjjdocaaDoorFqE
namespace Go.Proofs.YtdcmiggpjjdocaaDoor.L
open Go.RowKit
set_option linter.unusedVariables false
set_option linter.unusedSimpArgs false

set_option maxRecDepth 100000 in
set_option maxHeartbeats 4000000 in
theorem anewW (s q : ByteArray) (w : World) (hs : s.size ≤ 1000000) (hq : Special s → Calls Tryd.prog 12 #[.string s] w fun e w' => e = .returned (.string q) ∧ Below w.heap.size w w')
    (hp : ¬ Special s → (⟨#[34]⟩ : ByteArray) ++ s ++ ⟨#[34]⟩ = q) : Calls Tryd.prog 6 #[.string s] w fun e w' => e = .returned (.string q) ∧ Below w.heap.size w w' := by
  have HQ := Lib.hid hq
  have HP := Lib.hid hp
  clear hq hp
  go_enter Tryd.func6, Tryd.ntmps6
  go_wp2
  go_loopg [3] s.size (fun d v3 wr => ∃ i : Nat, v3 = .int .i64 (i : Int) ∧ s.size - i ≤ d ∧ (∀ k : Nat, k < i → ¬ Odd (bt s (k : Nat))) ∧ w = wr)
  case atStart => exact ⟨0, rfl, by omega, (fun k hk => absurd hk (by omega)), rfl⟩
  case round =>
    obtain ⟨i, rfl, hd, hall, rfl⟩ := hrel
    have HD := Lib.hid hd
    have HA := Lib.hid hall
    clear hd hall
    by_cases hlt : i < s.size
    · have x0 : ∀ h : i < s.size, ((s[i]'h).toNat : Int) = bt s i := bt_at s i
      have hr := bt_range s (i : Nat)
      obtain ⟨c, hc⟩ : ∃ c, bt s (i : Nat) = c := ⟨_, rfl⟩
      rw [hc] at x0 hr
      have HC := Lib.hid hc
      clear hc
      by_cases hodd : Odd c
      · have HCQ := Lib.hid (HQ.out ⟨i, hlt, by rw [HC.out]; exact hodd⟩)
        rcases (show c < 32 ∨ (¬ c < 32 ∧ c = 34) ∨ (¬ c < 32 ∧ ¬ c = 34 ∧ c = 92) by unfold Odd at hodd; omega) with h1 | ⟨h1, rfl⟩ | ⟨h1, h2, rfl⟩
        all_goals
          clear hodd
          go_wp2_with (first
            | (go_at_call 12; go_must (refine HCQ.out.mono ?_); rintro e w1 ⟨rfl, hb1⟩; replace hb1 := Lib.hid hb1))
          go_ret
          exact ⟨rfl, hb1.out⟩
      · have h1 : ¬ c < 32 := fun h => hodd (.inl h)
        have h2 : ¬ c = 34 := fun h => hodd (.inr (.inl h))
        have h3 : ¬ c = 92 := fun h => hodd (.inr (.inr h))
        have HO := Lib.hid hodd
        have b1 : decide (c < 32) = false := decide_eq_false h1
        have b2 : (c == 34) = false := by simp [h2]
        have b3 : (c == 92) = false := by simp [h3]
        clear hodd
        go_wp2
        go_roundg (gk - 1)
        case measure => have := HD.out; omega
        case rel => exact ⟨i + 1, by go_num, by have := HD.out; omega, (fun k hk => by
          by_cases e : k = i
          · rw [e, HC.out]; exact HO.out
          · exact HA.out k (by omega)), rfl⟩
    · have HS := Lib.hid (HP.out (by
        rintro ⟨k, hk, h⟩
        exact HA.out k (by omega) h))
      go_wp2
      go_ret
      exact ⟨by rw [← HS.out]; rfl, Below.refl _ _⟩
end Go.Proofs.YtdcmiggpjjdocaaDoor.L
