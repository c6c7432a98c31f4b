/- FnGjSigned: the walks of the callees. -/
import Derived.Test.YtloegbicgopmpaaUint
import Derived.Laws.Closers25b
namespace Go.Proofs.Ytloegbicgopmpaa.Uint
open Go.RowKit Go.Proofs.YtloegbicgopmpaaW.PrintWords
set_option linter.unusedVariables false
set_option linter.unusedSimpArgs false

theorem nil_iff (s : ByteArray) : s.toList = [] ↔ s.size = 0 := by
  rw [toList_nil_iff_emptyBytes]
  constructor
  · rintro rfl; rfl
  · intro h
    apply ByteArray.ext
    exact Array.eq_empty_of_size_eq_zero h

/-- What spec.Uint64 answers. -/
def SpecUPost (s : ByteArray) (w : World) (e : Ending) (w' : World) : Prop :=
  w' = w ∧ ((0 < s.size ∧ AllDig s s.size ∧ valN s s.size ≤ 18446744073709551615 ∧ e = .returned (.tuple #[.int .u64 (valN s s.size), .bool true])) ∨
    (¬ (0 < s.size ∧ AllDig s s.size ∧ valN s s.size ≤ 18446744073709551615) ∧ e = .returned (.tuple #[.int .u64 0, .bool false])))

set_option maxHeartbeats 4000000 in
theorem specUint (s : ByteArray) (w : World) (hs : s.size ≤ 9223372036854775807) : Calls Try.prog 39 #[.string s] w (SpecUPost s w) := by
  by_cases hz : s.size = 0
  · have hE : s.toList = [] := by rw [nil_iff]; omega
    go_enter Try.func39, Try.ntmps39
    go_wp2
    go_ret2
    exact ⟨rfl, .inr ⟨fun h => absurd h.1 (by omega), by simp⟩⟩
  · have hE : ¬ s.toList = [] := by rw [nil_iff]; omega
    have hE2 : s.toList.isEmpty = false := by simpa using hE
    go_enter Try.func39, Try.ntmps39
    go_wp2
    go_loop [4, 5] (fun n i => ∃ (k : Nat), i = .int .i64 k ∧ n = .int .u64 (valN s k) ∧ valN s k ≤ 18446744073709551615 ∧ k ≤ s.size ∧ AllDig s k) (fun _ i => s.size - (intOf i).toNat)
    case atStart => exact ⟨0, rfl, rfl, by simp [valN], by omega, AllDig.zero s⟩
    case round =>
      obtain ⟨k, rfl, rfl, hm, hk, hd⟩ := hrel
      have hv0 := val_nonneg hd
      by_cases hlt : k < s.size
      · have hx : ∀ h : k < s.size, ((s[k]'h).toNat : Int) = bt s k := bt_at s k
        have hr := bt_range s k
        by_cases hdig : 48 ≤ bt s k ∧ bt s k ≤ 57
        · obtain ⟨h48, h57⟩ := hdig
          have hd1 : AllDig s (k + 1) := hd.succ h48 h57
          generalize hV : valN s k = V at hm hv0
          have HV := Lib.hid hV
          clear hV
          go_wp2
          · go_ret2
            refine ⟨rfl, .inr ⟨fun h => ?_, by simp⟩⟩
            have h1 := val_mono h.2.1 (show k + 1 ≤ s.size by omega)
            have h2 := h.2.2
            have h3 : valN s (k + 1) = valN s k * 10 + (bt s k - 48) := rfl
            have h4 := HV.out
            omega
          · have h4 := HV.out
            have h3 : valN s (k + 1) = V * 10 + (bt s k - 48) := by rw [← h4]; rfl
            refine ⟨⟨k + 1, by go_num, by rw [h3], by omega, by omega, hd1⟩, ?_⟩
            simp [intOf]; omega
        · by_cases h48 : 48 ≤ bt s k
          · go_wp2
            go_ret2
            exact ⟨rfl, .inr ⟨fun h => hdig (h.2.1 k hlt), by simp⟩⟩
          · go_wp2
            go_ret2
            exact ⟨rfl, .inr ⟨fun h => hdig (h.2.1 k hlt), by simp⟩⟩
      · go_wp2
        go_ret2
        have hkn : k = s.size := by omega
        subst hkn
        exact ⟨rfl, .inl ⟨by omega, hd, hm, by simp⟩⟩

def negB (s : ByteArray) : Bool := decide (0 < s.size) && decide (bt s 0 = 45)
def body (s : ByteArray) : ByteArray := if negB s = true then s.extract 1 s.size else s
def good (s : ByteArray) : Prop := 0 < (body s).size ∧ AllDig (body s) (body s).size
def val (s : ByteArray) : Int := valN (body s) (body s).size
def inRange (s : ByteArray) : Prop := good s ∧ val s ≤ (if negB s = true then 9223372036854775808 else 9223372036854775807)
def num (s : ByteArray) : Int := if negB s = true then - val s else val s

/-- What spec.Int64 answers. -/
def SpecIPost (s : ByteArray) (w : World) (e : Ending) (w' : World) : Prop :=
  w' = w ∧ ((inRange s ∧ e = .returned (.tuple #[.int .i64 (num s), .bool true])) ∨ (¬ inRange s ∧ e = .returned (.tuple #[.int .i64 0, .bool false])))

/-- What gjson's parseInt answers. -/
def IntPost (s : ByteArray) (w : World) (e : Ending) (w' : World) : Prop :=
  w' = w ∧ ((good s ∧ ∃ n : Int, (inRange s → n = num s) ∧ e = .returned (.tuple #[.int .i64 n, .bool true])) ∨ (¬ good s ∧ e = .returned (.tuple #[.int .i64 0, .bool false])))

theorem body_neg {s : ByteArray} (h : negB s = true) : body s = s.extract 1 s.size := by simp [body, h]
theorem body_pos {s : ByteArray} (h : ¬ negB s = true) : body s = s := by simp [body, h]
theorem body_size (s : ByteArray) : (body s).size ≤ s.size := by
  unfold body; split
  · rw [ByteArray.size_extract]; omega
  · omega

theorem val_nn {s : ByteArray} (h : good s) : 0 ≤ val s := val_nonneg h.2

theorem IntPost.no {s : ByteArray} {w : World} {e : Ending} (h : ¬ good s) (he : e = .returned (.tuple #[.int .i64 0, .bool false])) : IntPost s w e w := ⟨rfl, .inr ⟨h, he⟩⟩
theorem IntPost.yes {s : ByteArray} {w : World} {e : Ending} (n : Int) (h : good s) (hn : inRange s → n = num s) (he : e = .returned (.tuple #[.int .i64 n, .bool true])) : IntPost s w e w := ⟨rfl, .inl ⟨h, n, hn, he⟩⟩

set_option maxHeartbeats 1000000 in
theorem parseInt_neg (s : ByteArray) (w : World) (hs : s.size ≤ 9223372036854775807) (hz : 0 < s.size) (h45 : bt s 0 = 45) : Calls Try.prog 48 #[.string s] w (IntPost s w) := by
  have hx : ∀ h : 0 < s.size, ((s[0]'h).toNat : Int) = bt s 0 := bt_at s 0
  have HN := Lib.hid (show negB s = true by simp [negB, hz, h45])
  go_enter Try.func48, Try.ntmps48
  go_wp2_with fail
  refine (parseUint _ w (by rw [ByteArray.size_extract]; omega)).mono ?_
  rintro e w' ⟨rfl, ⟨h0, hd, n, hn0, hn1, hv, rfl⟩ | ⟨hno, rfl⟩⟩
  · have hv := Lib.hid hv
    go_wp2
    · go_ret2
      have hn := HN.out
      refine IntPost.yes (-9223372036854775808) (by unfold good; rw [body_neg hn]; exact ⟨h0, hd⟩) (fun hr => ?_) (by simp)
      have h1 := hr.2
      rw [if_pos hn] at h1
      unfold num val at *
      rw [if_pos hn]
      rw [body_neg hn] at *
      have h2 := hv.out
      omega
    · go_ret2
      have hn := HN.out
      refine IntPost.yes (-n) (by unfold good; rw [body_neg hn]; exact ⟨h0, hd⟩) (fun hr => ?_) ?_
      · have h1 := hr.2
        rw [if_pos hn] at h1
        unfold num val at *
        rw [if_pos hn]
        rw [body_neg hn] at *
        have h2 := hv.out
        omega
      · refine ret_two ?_ rfl
        first | rfl | ((try simp [IntKind.wrap_i64]); (try unfold wrap64); omega)
  · go_wp2
    go_ret2
    have hn := HN.out
    exact IntPost.no (by unfold good; rw [body_neg hn]; exact hno) (by simp)

set_option maxHeartbeats 1000000 in
theorem parseInt_pos (s : ByteArray) (w : World) (hs : s.size ≤ 9223372036854775807) (hc : ¬ 0 < s.size ∨ (0 < s.size ∧ ¬ bt s 0 = 45)) : Calls Try.prog 48 #[.string s] w (IntPost s w) := by
  have hx : ∀ h : 0 < s.size, ((s[0]'h).toNat : Int) = bt s 0 := bt_at s 0
  have HN := Lib.hid (show ¬ negB s = true by rcases hc with h | ⟨_, h⟩ <;> simp [negB, h])
  rcases hc with h | ⟨h, h45⟩
  · go_enter Try.func48, Try.ntmps48
    go_wp2_with fail
    refine (parseUint _ w (by omega)).mono ?_
    rintro e w' ⟨rfl, ⟨h0, hd, n, hn0, hn1, hv, rfl⟩ | ⟨hno, rfl⟩⟩
    · exact absurd h0 h
    · go_wp2
      go_ret2
      have hn := HN.out
      exact IntPost.no (by unfold good; rw [body_pos hn]; exact hno) (by simp)
  all_goals
    go_enter Try.func48, Try.ntmps48
    go_wp2_with fail
    refine (parseUint _ w (by omega)).mono ?_
    rintro e w' ⟨rfl, ⟨h0, hd, n, hn0, hn1, hv, rfl⟩ | ⟨hno, rfl⟩⟩
    · have hv := Lib.hid hv
      go_wp2
      · go_ret2
        have hn := HN.out
        refine IntPost.yes 9223372036854775807 (by unfold good; rw [body_pos hn]; exact ⟨h0, hd⟩) (fun hr => ?_) (by simp)
        have h1 := hr.2
        rw [if_neg hn] at h1
        unfold num val at *
        rw [if_neg hn]
        rw [body_pos hn] at *
        have h2 := hv.out
        omega
      · go_ret2
        have hn := HN.out
        refine IntPost.yes n (by unfold good; rw [body_pos hn]; exact ⟨h0, hd⟩) (fun hr => ?_) ?_
        · have h1 := hr.2
          rw [if_neg hn] at h1
          unfold num val at *
          rw [if_neg hn]
          rw [body_pos hn] at *
          have h2 := hv.out
          omega
        · refine ret_two ?_ rfl
          first | rfl | ((try simp [IntKind.wrap_i64]); (try unfold wrap64); omega)
    · go_wp2
      go_ret2
      have hn := HN.out
      exact IntPost.no (by unfold good; rw [body_pos hn]; exact hno) (by simp)

theorem parseInt (s : ByteArray) (w : World) (hs : s.size ≤ 9223372036854775807) : Calls Try.prog 48 #[.string s] w (IntPost s w) := by
  by_cases hz : 0 < s.size
  · by_cases h45 : bt s 0 = 45
    · exact parseInt_neg s w hs hz h45
    · exact parseInt_pos s w hs (.inr ⟨hz, h45⟩)
  · exact parseInt_pos s w hs (.inl hz)

theorem IntPost.again {s : ByteArray} {w : World} {e : Ending} {w' : World} (h : IntPost s w e w') : ∃ n b, e = .returned (.tuple #[.int .i64 n, .bool b]) ∧ w' = w ∧ IntPost s w (.returned (.tuple #[.int .i64 n, .bool b])) w := by
  obtain ⟨rfl, ⟨h1, n, h2, rfl⟩ | ⟨h1, rfl⟩⟩ := h
  · exact ⟨n, true, rfl, rfl, rfl, .inl ⟨h1, n, h2, rfl⟩⟩
  · exact ⟨0, false, rfl, rfl, rfl, .inr ⟨h1, rfl⟩⟩

theorem doorInt (s : ByteArray) (w : World) (hs : s.size ≤ 9223372036854775807) : Calls Try.prog 38 #[.string s] w (IntPost s w) := by
  go_enter Try.func38, Try.ntmps38
  go_wp2_with fail
  refine (parseInt s w hs).mono ?_
  intro e w' h
  obtain ⟨n, b, rfl, rfl, hp⟩ := h.again
  have HP := Lib.hid hp
  clear hp h
  go_wp2
  go_ret2
  exact HP.out

theorem gjSigned (s : ByteArray) (w : World) (hs : s.size ≤ 9223372036854775807) : Calls Try.prog 18 #[.string s] w (IntPost s w) := by
  go_enter Try.func18, Try.ntmps18
  go_wp2_with fail
  refine (doorInt s w hs).mono ?_
  intro e w' h
  obtain ⟨n, b, rfl, rfl, hp⟩ := h.again
  have HP := Lib.hid hp
  clear hp h
  go_wp2
  go_ret2
  exact HP.out

theorem SpecIPost.no {s : ByteArray} {w : World} {e : Ending} (h : ¬ inRange s) (he : e = .returned (.tuple #[.int .i64 0, .bool false])) : SpecIPost s w e w := ⟨rfl, .inr ⟨h, he⟩⟩
theorem SpecIPost.yes {s : ByteArray} {w : World} {e : Ending} (h : inRange s) (he : e = .returned (.tuple #[.int .i64 (num s), .bool true])) : SpecIPost s w e w := ⟨rfl, .inl ⟨h, he⟩⟩

set_option maxHeartbeats 1000000 in
theorem specInt_neg (s : ByteArray) (w : World) (hs : s.size ≤ 9223372036854775807) (hz : 0 < s.size) (h45 : bt s 0 = 45) : Calls Try.prog 19 #[.string s] w (SpecIPost s w) := by
  have hx : ∀ h : 0 < s.size, ((s[0]'h).toNat : Int) = bt s 0 := bt_at s 0
  have hE : ¬ s.toList = [] := by rw [nil_iff]; omega
  have hE2 : s.toList.isEmpty = false := by simpa using hE
  have HN := Lib.hid (show negB s = true by simp [negB, hz, h45])
  go_enter Try.func19, Try.ntmps19
  go_wp2_with fail
  refine (specUint _ w (by rw [ByteArray.size_extract]; omega)).mono ?_
  rintro e w' ⟨rfl, ⟨h0, hd, hv, rfl⟩ | ⟨hno, rfl⟩⟩
  · have hn0 := val_nonneg hd
    generalize hV : valN (s.extract 1 s.size) (s.extract 1 s.size).size = V at hv hn0
    have HV := Lib.hid hV
    clear hV
    go_wp2
    · go_ret2
      have hn := HN.out
      have hV := HV.out
      have hr : inRange s := by
        refine ⟨by unfold good; rw [body_neg hn]; exact ⟨h0, hd⟩, ?_⟩
        rw [if_pos hn]; unfold val; rw [body_neg hn, hV]; omega
      refine SpecIPost.yes hr (ret_two ?_ rfl)
      unfold num val
      rw [if_pos hn, body_neg hn, hV]
      first | rfl | (simp [IntKind.wrap_i64, IntKind.wrap_u64]; done) | ((try simp [IntKind.wrap_i64, IntKind.wrap_u64]); (try unfold wrap64); omega)
    · go_ret2
      have hn := HN.out
      have hV := HV.out
      refine SpecIPost.no (fun hr => ?_) (by simp)
      have h1 := hr.2
      rw [if_pos hn] at h1
      unfold val at h1
      rw [body_neg hn, hV] at h1
      omega
  · go_wp2
    go_ret2
    have hn := HN.out
    refine SpecIPost.no (fun hr => hno ?_) (by simp)
    have h1 := hr.2
    have h2 := hr.1
    rw [if_pos hn] at h1
    unfold val at h1
    unfold good at h2
    rw [body_neg hn] at h1 h2
    exact ⟨h2.1, h2.2, by omega⟩

set_option maxHeartbeats 1000000 in
theorem specInt_pos (s : ByteArray) (w : World) (hs : s.size ≤ 9223372036854775807) (hc : ¬ 0 < s.size ∨ (0 < s.size ∧ ¬ bt s 0 = 45)) : Calls Try.prog 19 #[.string s] w (SpecIPost s w) := by
  have hx : ∀ h : 0 < s.size, ((s[0]'h).toNat : Int) = bt s 0 := bt_at s 0
  have HN := Lib.hid (show ¬ negB s = true by rcases hc with h | ⟨_, h⟩ <;> simp [negB, h])
  rcases hc with h | ⟨h, h45⟩
  · have hE : s.toList = [] := by rw [nil_iff]; omega
    go_enter Try.func19, Try.ntmps19
    go_wp2_with fail
    refine (specUint _ w (by omega)).mono ?_
    rintro e w' ⟨rfl, ⟨h0, hd, hv, rfl⟩ | ⟨hno, rfl⟩⟩
    · exact absurd h0 h
    · go_wp2
      go_ret2
      have hn := HN.out
      refine SpecIPost.no (fun hr => ?_) (by simp)
      have h2 := hr.1.1
      rw [body_pos hn] at h2
      exact h h2
  all_goals
    have hE : ¬ s.toList = [] := by rw [nil_iff]; omega
    have hE2 : s.toList.isEmpty = false := by simpa using hE
    go_enter Try.func19, Try.ntmps19
    go_wp2_with fail
    refine (specUint _ w (by omega)).mono ?_
    rintro e w' ⟨rfl, ⟨h0, hd, hv, rfl⟩ | ⟨hno, rfl⟩⟩
    · have hn0 := val_nonneg hd
      generalize hV : valN s s.size = V at hv hn0
      have HV := Lib.hid hV
      clear hV
      go_wp2
      · go_ret2
        have hn := HN.out
        have hV := HV.out
        have hr : inRange s := by
          refine ⟨by unfold good; rw [body_pos hn]; exact ⟨h0, hd⟩, ?_⟩
          rw [if_neg hn]; unfold val; rw [body_pos hn, hV]; omega
        refine SpecIPost.yes hr (ret_two ?_ rfl)
        unfold num val
        rw [if_neg hn, body_pos hn, hV]
        all_goals first | rfl | (simp [IntKind.wrap_i64, IntKind.wrap_u64]; done) | ((try simp [IntKind.wrap_i64, IntKind.wrap_u64]); (try unfold wrap64); omega)
      · go_ret2
        have hn := HN.out
        have hV := HV.out
        refine SpecIPost.no (fun hr => ?_) (by simp)
        have h1 := hr.2
        rw [if_neg hn] at h1
        unfold val at h1
        rw [body_pos hn, hV] at h1
        omega
    · go_wp2
      go_ret2
      have hn := HN.out
      refine SpecIPost.no (fun hr => hno ?_) (by simp)
      have h1 := hr.2
      have h2 := hr.1
      rw [if_neg hn] at h1
      unfold val at h1
      unfold good at h2
      rw [body_pos hn] at h1 h2
      exact ⟨h2.1, h2.2, by omega⟩

theorem specInt (s : ByteArray) (w : World) (hs : s.size ≤ 9223372036854775807) : Calls Try.prog 19 #[.string s] w (SpecIPost s w) := by
  by_cases hz : 0 < s.size
  · by_cases h45 : bt s 0 = 45
    · exact specInt_neg s w hs hz h45
    · exact specInt_pos s w hs (.inr ⟨hz, h45⟩)
  · exact specInt_pos s w hs (.inl hz)

end Go.Proofs.Ytloegbicgopmpaa.Uint
