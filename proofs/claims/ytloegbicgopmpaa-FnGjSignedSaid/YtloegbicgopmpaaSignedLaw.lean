/- FnGjSigned: the law's walk. -/
import Derived.Test.YtloegbicgopmpaaSigned
namespace Go.Proofs.Ytloegbicgopmpaa.Uint
open Go.RowKit Go.Proofs.YtloegbicgopmpaaW.PrintWords
set_option linter.unusedVariables false
set_option linter.unusedSimpArgs false

/-- What the law's loop has found of the first k bytes of a text. -/
def Seen (b : ByteArray) (k : Nat) (d : Bool) : Prop := d = true ↔ (0 < b.size ∧ AllDig b k)
theorem Seen.start {b : ByteArray} {d : Bool} (h : d = true ↔ 0 < b.size) : Seen b 0 d := by
  unfold Seen; rw [h]; exact ⟨fun h => ⟨h, AllDig.zero b⟩, fun h => h.1⟩
theorem Seen.yes {b : ByteArray} {k : Nat} (h : Seen b k true) (h1 : 48 ≤ bt b k) (h2 : bt b k ≤ 57) : Seen b (k + 1) true := by
  have := h.1 rfl
  exact ⟨fun _ => ⟨this.1, this.2.succ h1 h2⟩, fun _ => rfl⟩
theorem Seen.bad {b : ByteArray} {k : Nat} (h : ¬ (48 ≤ bt b k ∧ bt b k ≤ 57)) : Seen b (k + 1) false :=
  ⟨(fun e => by cases e), fun e => absurd (e.2 k (by omega)) h⟩
theorem Seen.no {b : ByteArray} {k : Nat} (h : Seen b k false) : Seen b (k + 1) false :=
  ⟨(fun e => by cases e), fun e => h.2 ⟨e.1, fun j hj => e.2 j (by omega)⟩⟩

theorem fin {s : ByteArray} {b : Bool} (h : b = true) : Ending.returned (.bool b) = .returned (.bool true) := by rw [h]

theorem seen0 (b : ByteArray) : Seen b 0 (!b.toList.isEmpty) := Seen.start (by
  by_cases hq : b.size = 0
  · rw [(nil_iff b).2 hq]; simp [hq]
  · have h1 : ¬ b.toList = [] := fun h => hq ((nil_iff b).1 h)
    simp [h1]; omega)

theorem end_yes {s b : ByteArray} (hb : body s = b) {k : Nat} (hk : ¬ k < b.size) (hk2 : k ≤ b.size) (h : Seen b k true) : good s := by
  obtain rfl : k = b.size := by omega
  unfold good; rw [hb]; exact h.1 rfl
theorem end_no {s b : ByteArray} (hb : body s = b) {k : Nat} (hk : ¬ k < b.size) (hk2 : k ≤ b.size) (h : Seen b k false) : ¬ good s := by
  obtain rfl : k = b.size := by omega
  unfold good; rw [hb]; intro hg; have := h.2 hg; cases this

set_option maxHeartbeats 8000000 in
theorem lawS (s : ByteArray) (w : World) (hs : s.size ≤ 140737488351232) (hbig : ¬ 2147483647 < s.size) (b : ByteArray) (hb : body s = b)
    (hc : (0 < s.size ∧ bt s 0 = 45 ∧ b = s.extract 1 s.size) ∨ (0 < s.size ∧ ¬ bt s 0 = 45 ∧ b = s) ∨ (¬ 0 < s.size ∧ b = s)) :
    Calls Try.prog 7 #[.string s] w fun e w' => e = .returned (.bool true) ∧ w' = w := by
  have HB := Lib.hid hb
  have hbz : b.size ≤ 2147483647 := by have := body_size s; rw [hb] at this; omega
  clear hb
  have hx : ∀ h : 0 < s.size, ((s[0]'h).toNat : Int) = bt s 0 := bt_at s 0
  rcases hc with ⟨hz, h45, hbe⟩ | ⟨hz, h45, hbe⟩ | ⟨hz, hbe⟩
  · have HE := Lib.hid hbe
    clear hbe
    have hE : ¬ s.toList = [] := by rw [nil_iff]; omega
    have hE2 : s.toList.isEmpty = false := by simpa using hE
    go_enter Try.func7, Try.ntmps7
    go_wp2
    rw [← HE.out]
    clear hE hE2 hz h45 hx HE
    have hE : Seen b 0 (!b.toList.isEmpty) := seen0 b
    generalize (!b.toList.isEmpty) = D0 at hE
    go_loop [4, 5] (fun d i => ∃ (k : Nat) (D : Bool), i = .int .i64 k ∧ d = .bool D ∧ k ≤ b.size ∧ Seen b k D) (fun _ i => b.size - (intOf i).toNat)
    case atStart => exact ⟨0, _, rfl, rfl, by omega, hE⟩
    case round =>
      obtain ⟨k, D, rfl, rfl, hk, hd⟩ := hrel
      by_cases hlt : k < b.size
      · have hx : ∀ h : k < b.size, ((b[k]'h).toNat : Int) = bt b k := bt_at _ k
        cases D
        · go_wp2
          go_round
          case rel => exact ⟨k + 1, false, by go_num, rfl, by omega, hd.no⟩
          case measure => simp [intOf]; omega
        · by_cases h1 : 48 ≤ bt b k
          · by_cases h2 : bt b k ≤ 57
            · go_wp2
              go_round
              case rel => exact ⟨k + 1, true, by go_num, by simp [h1, h2], by omega, hd.yes h1 h2⟩
              case measure => simp [intOf]; omega
            · go_wp2
              go_round
              case rel => exact ⟨k + 1, false, by go_num, by simp [h1, h2], by omega, Seen.bad (fun h => h2 h.2)⟩
              case measure => simp [intOf]; omega
          · go_wp2
            go_round
            case rel => exact ⟨k + 1, false, by go_num, by simp [h1], by omega, Seen.bad (fun h => h1 h.1)⟩
            case measure => simp [intOf]; omega
      · cases D
        · have HG := Lib.hid (end_no HB.out hlt hk hd)
          clear hd
          go_wp2_with fail
          refine (gjSigned s w (by omega)).mono ?_
          rintro e w' ⟨rfl, ⟨hg, n, hn, rfl⟩ | ⟨hg, rfl⟩⟩
          · exact absurd hg HG.out
          · clear hg
            go_wp2
            go_ret
            exact ⟨rfl, rfl⟩
        · have HG := Lib.hid (end_yes HB.out hlt hk hd)
          clear hd
          go_wp2_with fail
          refine (gjSigned s w (by omega)).mono ?_
          rintro e w' ⟨rfl, ⟨hg, n, hn, rfl⟩ | ⟨hg, rfl⟩⟩
          · have HN := Lib.hid hn
            clear hn hg
            go_wp2_with fail
            refine (specInt s w' (by omega)).mono ?_
            rintro e w' ⟨rfl, ⟨hg, rfl⟩ | ⟨hg, rfl⟩⟩
            · have hn := HN.out hg
              subst hn
              clear HN
              clear hg
              go_wp2
              go_ret
              exact ⟨by simp, rfl⟩
            · clear hg
              go_wp2
              go_ret
              exact ⟨by simp, rfl⟩
          · exact absurd HG.out hg
  · subst hbe
    have hE : ¬ b.toList = [] := by rw [nil_iff]; omega
    have hE2 : b.toList.isEmpty = false := by simpa using hE
    go_enter Try.func7, Try.ntmps7
    go_wp2
    have hE3 : Seen b 0 (!b.toList.isEmpty) := seen0 b
    rw [hE2] at hE3
    clear hE hE2 hz h45 hx
    have hE : Seen b 0 true := hE3
    clear hE3
    go_loop [4, 5] (fun d i => ∃ (k : Nat) (D : Bool), i = .int .i64 k ∧ d = .bool D ∧ k ≤ b.size ∧ Seen b k D) (fun _ i => b.size - (intOf i).toNat)
    case atStart => exact ⟨0, _, rfl, rfl, by omega, hE⟩
    case round =>
      obtain ⟨k, D, rfl, rfl, hk, hd⟩ := hrel
      by_cases hlt : k < b.size
      · have hx : ∀ h : k < b.size, ((b[k]'h).toNat : Int) = bt b k := bt_at _ k
        cases D
        · go_wp2
          go_round
          case rel => exact ⟨k + 1, false, by go_num, rfl, by omega, hd.no⟩
          case measure => simp [intOf]; omega
        · by_cases h1 : 48 ≤ bt b k
          · by_cases h2 : bt b k ≤ 57
            · go_wp2
              go_round
              case rel => exact ⟨k + 1, true, by go_num, by simp [h1, h2], by omega, hd.yes h1 h2⟩
              case measure => simp [intOf]; omega
            · go_wp2
              go_round
              case rel => exact ⟨k + 1, false, by go_num, by simp [h1, h2], by omega, Seen.bad (fun h => h2 h.2)⟩
              case measure => simp [intOf]; omega
          · go_wp2
            go_round
            case rel => exact ⟨k + 1, false, by go_num, by simp [h1], by omega, Seen.bad (fun h => h1 h.1)⟩
            case measure => simp [intOf]; omega
      · cases D
        · have HG := Lib.hid (end_no HB.out hlt hk hd)
          clear hd
          go_wp2_with fail
          refine (gjSigned b w (by omega)).mono ?_
          rintro e w' ⟨rfl, ⟨hg, n, hn, rfl⟩ | ⟨hg, rfl⟩⟩
          · exact absurd hg HG.out
          · clear hg
            go_wp2
            go_ret
            exact ⟨rfl, rfl⟩
        · have HG := Lib.hid (end_yes HB.out hlt hk hd)
          clear hd
          go_wp2_with fail
          refine (gjSigned b w (by omega)).mono ?_
          rintro e w' ⟨rfl, ⟨hg, n, hn, rfl⟩ | ⟨hg, rfl⟩⟩
          · have HN := Lib.hid hn
            clear hn hg
            go_wp2_with fail
            refine (specInt b w' (by omega)).mono ?_
            rintro e w' ⟨rfl, ⟨hg, rfl⟩ | ⟨hg, rfl⟩⟩
            · have hn := HN.out hg
              subst hn
              clear HN
              clear hg
              go_wp2
              go_ret
              exact ⟨by simp, rfl⟩
            · clear hg
              go_wp2
              go_ret
              exact ⟨by simp, rfl⟩
          · exact absurd HG.out hg
  · subst hbe
    have hE : b.toList = [] := by rw [nil_iff]; omega
    go_enter Try.func7, Try.ntmps7
    go_wp2
    have hE3 : Seen b 0 (!b.toList.isEmpty) := seen0 b
    rw [hE] at hE3
    clear hE hz hx
    have hE : Seen b 0 false := hE3
    clear hE3
    go_loop [4, 5] (fun d i => ∃ (k : Nat) (D : Bool), i = .int .i64 k ∧ d = .bool D ∧ k ≤ b.size ∧ Seen b k D) (fun _ i => b.size - (intOf i).toNat)
    case atStart => exact ⟨0, _, rfl, rfl, by omega, hE⟩
    case round =>
      obtain ⟨k, D, rfl, rfl, hk, hd⟩ := hrel
      by_cases hlt : k < b.size
      · have hx : ∀ h : k < b.size, ((b[k]'h).toNat : Int) = bt b k := bt_at _ k
        cases D
        · go_wp2
          go_round
          case rel => exact ⟨k + 1, false, by go_num, rfl, by omega, hd.no⟩
          case measure => simp [intOf]; omega
        · by_cases h1 : 48 ≤ bt b k
          · by_cases h2 : bt b k ≤ 57
            · go_wp2
              go_round
              case rel => exact ⟨k + 1, true, by go_num, by simp [h1, h2], by omega, hd.yes h1 h2⟩
              case measure => simp [intOf]; omega
            · go_wp2
              go_round
              case rel => exact ⟨k + 1, false, by go_num, by simp [h1, h2], by omega, Seen.bad (fun h => h2 h.2)⟩
              case measure => simp [intOf]; omega
          · go_wp2
            go_round
            case rel => exact ⟨k + 1, false, by go_num, by simp [h1], by omega, Seen.bad (fun h => h1 h.1)⟩
            case measure => simp [intOf]; omega
      · cases D
        · have HG := Lib.hid (end_no HB.out hlt hk hd)
          clear hd
          go_wp2_with fail
          refine (gjSigned b w (by omega)).mono ?_
          rintro e w' ⟨rfl, ⟨hg, n, hn, rfl⟩ | ⟨hg, rfl⟩⟩
          · exact absurd hg HG.out
          · clear hg
            go_wp2
            go_ret
            exact ⟨rfl, rfl⟩
        · have HG := Lib.hid (end_yes HB.out hlt hk hd)
          clear hd
          go_wp2_with fail
          refine (gjSigned b w (by omega)).mono ?_
          rintro e w' ⟨rfl, ⟨hg, n, hn, rfl⟩ | ⟨hg, rfl⟩⟩
          · have HN := Lib.hid hn
            clear hn hg
            go_wp2_with fail
            refine (specInt b w' (by omega)).mono ?_
            rintro e w' ⟨rfl, ⟨hg, rfl⟩ | ⟨hg, rfl⟩⟩
            · have hn := HN.out hg
              subst hn
              clear HN
              clear hg
              go_wp2
              go_ret
              exact ⟨by simp, rfl⟩
            · clear hg
              go_wp2
              go_ret
              exact ⟨by simp, rfl⟩
          · exact absurd HG.out hg

theorem law_big (s : ByteArray) (w : World) (hs : s.size ≤ 140737488351232) (hbig : 2147483647 < s.size) : Calls Try.prog 7 #[.string s] w fun e w' => e = .returned (.bool true) ∧ w' = w := by
  go_enter Try.func7, Try.ntmps7
  go_wp2
  go_ret
  exact ⟨rfl, rfl⟩

theorem law (s : ByteArray) (w : World) (hs : s.size ≤ 140737488351232) : Calls Try.prog 7 #[.string s] w fun e w' => e = .returned (.bool true) ∧ Below w.heap.size w w' := by
  have h : Calls Try.prog 7 #[.string s] w fun e w' => e = .returned (.bool true) ∧ w' = w := by
    by_cases hbig : 2147483647 < s.size
    · exact law_big s w hs hbig
    · refine lawS s w hs hbig (body s) rfl ?_
      by_cases hz : 0 < s.size
      · by_cases h45 : bt s 0 = 45
        · exact .inl ⟨hz, h45, body_neg (by simp [negB, hz, h45])⟩
        · exact .inr (.inl ⟨hz, h45, body_pos (by simp [negB, hz, h45])⟩)
      · exact .inr (.inr ⟨hz, body_pos (by simp [negB, hz])⟩)
  refine h.mono ?_
  rintro e w' ⟨rfl, rfl⟩
  exact ⟨rfl, Below.refl _ _⟩

end Go.Proofs.Ytloegbicgopmpaa.Uint
