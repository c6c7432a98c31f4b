/- Texts with a byte that fastjson escapes: hasSpecialChars. -/
import Derived.Test.YtdcmiggpjjdocaaDoorFuN
namespace Go.Proofs.YtdcmiggpjjdocaaDoor.L
open Go.RowKit
set_option linter.unusedVariables false
set_option linter.unusedSimpArgs false

/-- A byte that is not written as it is. -/
def Odd (c : Int) : Prop := c < 32 ∨ c = 34 ∨ c = 92
def Special (s : ByteArray) : Prop := ∃ k : Nat, k < s.size ∧ Odd (bt s (k : Nat))
theorem atC (t : ByteArray) (c : Int) (h0 : 0 ≤ c) (h1 : c ≤ 255) (k : Nat) (hk : k < t.size) : t.data.toList[k]? = some (c.toNat.toUInt8) ↔ bt t (k : Nat) = c := by
  rw [← getD_bt, List.getD_eq_getElem?_getD]
  have hk' : k < t.data.toList.length := by simpa using hk
  rw [List.getElem?_eq_getElem hk', Option.getD_some, Option.some.injEq]
  have e : (c.toNat.toUInt8).toNat = c.toNat := by
    show c.toNat % 256 = c.toNat
    omega
  constructor
  · intro h; rw [h, e]; omega
  · intro h; exact UInt8.toNat_inj.1 (by rw [e]; omega)
/-- The search for one byte. -/
theorem idxC (t : ByteArray) (c : Int) (h0 : 0 ≤ c) (h1 : c ≤ 255) : (Lib.indexByte t.data.toList (c.toNat.toUInt8) = -1 ∧ ∀ k : Nat, k < t.size → bt t (k : Nat) ≠ c) ∨
    ∃ n : Nat, Lib.indexByte t.data.toList (c.toNat.toUInt8) = (n : Int) ∧ n < t.size ∧ bt t (n : Nat) = c := by
  have h := Lib.indexByte_ge t.data.toList (c.toNat.toUInt8)
  by_cases hm : Lib.indexByte t.data.toList (c.toNat.toUInt8) = -1
  · exact .inl ⟨hm, fun k hk e => Lib.indexByte_none hm k ((atC t c h0 h1 k hk).2 e)⟩
  · obtain ⟨n, hn⟩ : ∃ n : Nat, Lib.indexByte t.data.toList (c.toNat.toUInt8) = n := ⟨(Lib.indexByte t.data.toList (c.toNat.toUInt8)).toNat, by omega⟩
    obtain ⟨a, -⟩ := Lib.indexByte_some hn
    have hlt : n < t.size := by
      have := (List.getElem?_eq_some_iff.1 a).1
      simpa using this
    exact .inr ⟨n, hn, hlt, (atC t c h0 h1 n hlt).1 a⟩
theorem idxG (t : ByteArray) (c r : Int) (w : World) (h : Lib.indexByte t.data.toList (c.toNat.toUInt8) = r) : Calls Tryd.prog 33 #[.string t, .int .u8 c] w fun e w' => e = .returned (.int .i64 r) ∧ w = w' := by
  rw [← h]
  exact (Tryd.strings_IndexByte t c w).mono fun e w' h => ⟨h.1, h.2.symm⟩
/-- What the search for such a byte answers. -/
def SpPost (s : ByteArray) (w : World) (e : Ending) (w' : World) : Prop := (∃ b, e = .returned (.bool b) ∧ (b = true ↔ Special s)) ∧ w = w'
set_option maxRecDepth 100000 in
set_option maxHeartbeats 4000000 in
theorem specialW (s : ByteArray) (w : World) (hs : s.size ≤ 1000000) : Calls Tryd.prog 30 #[.string s] w (SpPost s w) := by
  rcases idxC s 34 (by decide) (by decide) with ⟨hi, hno⟩ | ⟨n, hi, hlt, hb⟩
  case inr =>
    have HI := Lib.hid hi
    have HS := Lib.hid (show Special s from ⟨n, hlt, .inr (.inl hb)⟩)
    clear hi hb
    go_enter Tryd.func30, Tryd.ntmps30
    go_wp2_with (first
      | (go_at_call 33; (with_reducible refine (idxG s 34 (n : Int) _ HI.out).mono ?_); rintro e w1 ⟨rfl, rfl⟩))
    go_ret
    exact ⟨⟨true, rfl, by simp [HS.out]⟩, rfl⟩
  have HI := Lib.hid hi
  have HNO := Lib.hid hno
  clear hi hno
  rcases idxC s 92 (by decide) (by decide) with ⟨hi, hno⟩ | ⟨n, hi, hlt, hb⟩
  case inr =>
    have HI2 := Lib.hid hi
    have HS := Lib.hid (show Special s from ⟨n, hlt, .inr (.inr hb)⟩)
    clear hi hb
    go_enter Tryd.func30, Tryd.ntmps30
    go_wp2_with (first
      | (go_at_call 33; (with_reducible refine (idxG s 34 (-1) _ HI.out).mono ?_); rintro e w1 ⟨rfl, rfl⟩)
      | (go_at_call 33; (with_reducible refine (idxG s 92 (n : Int) _ HI2.out).mono ?_); rintro e w1 ⟨rfl, rfl⟩))
    go_ret
    exact ⟨⟨true, rfl, by simp [HS.out]⟩, rfl⟩
  have HI2 := Lib.hid hi
  have HNO2 := Lib.hid hno
  clear hi hno
  go_enter Tryd.func30, Tryd.ntmps30
  go_wp2_with (first
    | (go_at_call 33; (with_reducible refine (idxG s 34 (-1) _ HI.out).mono ?_); rintro e w1 ⟨rfl, rfl⟩)
    | (go_at_call 33; (with_reducible refine (idxG s 92 (-1) _ HI2.out).mono ?_); rintro e w1 ⟨rfl, rfl⟩))
  go_loopg [14] s.size (fun d v14 wr => ∃ i : Nat, v14 = .int .i64 (i : Int) ∧ s.size - i ≤ d ∧ (∀ k : Nat, k < i → ¬ bt s (k : Nat) < 32) ∧ w = wr)
  case atStart => exact ⟨0, rfl, by omega, (fun k hk => absurd hk (by omega)), rfl⟩
  case round =>
    obtain ⟨i, rfl, hd, hall, rfl⟩ := hrel
    have HD := Lib.hid hd
    have HA := Lib.hid hall
    clear hd hall
    by_cases hlt : i < s.size
    · have x0 : ∀ h : i < s.size, ((s[i]'h).toNat : Int) = bt s i := bt_at s i
      have hr := bt_range s (i : Nat)
      obtain ⟨c, hc⟩ : ∃ c, bt s (i : Nat) = c := ⟨_, rfl⟩
      rw [hc] at x0 hr
      have HC := Lib.hid hc
      clear hc
      by_cases h32 : c < 32
      · have HS := Lib.hid (show Special s from ⟨i, hlt, .inl (by rw [HC.out]; exact h32)⟩)
        go_wp2
        go_ret
        exact ⟨⟨true, rfl, by simp [HS.out]⟩, rfl⟩
      · go_wp2
        go_roundg (gk - 1)
        case measure => have := HD.out; omega
        case rel => exact ⟨i + 1, by go_num, by have := HD.out; omega, (fun k hk => by
          by_cases e : k = i
          · rw [e, HC.out]; exact h32
          · exact HA.out k (by omega)), rfl⟩
    · have HS := Lib.hid (show ¬ Special s by
        rintro ⟨k, hk, h | h | h⟩
        · exact HA.out k (by omega) h
        · exact HNO.out k hk h
        · exact HNO2.out k hk h)
      go_wp2
      go_ret
      exact ⟨⟨false, rfl, by simp [HS.out]⟩, rfl⟩
end Go.Proofs.YtdcmiggpjjdocaaDoor.L
