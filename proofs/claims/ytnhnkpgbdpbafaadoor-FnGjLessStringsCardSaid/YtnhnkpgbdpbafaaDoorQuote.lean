/- The walk of spec.Quote. -/
import Derived.Test.YtnhnkpgbdpbafaaDoorEsc
import Derived.Deep.DeepMust
namespace Go.Proofs.YtnhnkpgbdpbafaaDoor.L
open Go.RowKit
set_option linter.unusedVariables false
set_option linter.unusedSimpArgs false

theorem own_lit (w : World) (base : Nat) (q : TypeId) (xs : List Int) (h : ∀ x ∈ xs, 0 ≤ x ∧ x ≤ 255) (hb : base ≤ w.heap.size) (hm : xs.length ≤ maxLen) :
    Own (w.alloc (.cells (xs.map (Value.int .u8)).toArray q)) base (.slice (some ⟨w.heap.size, 0, none⟩) xs.length xs.length) (strOfNums xs) := by
  refine .inr ⟨w.heap.size, xs.length, _, q, by rw [strOfNums_size], hb, heap_alloc_new w _, by rw [strOfNums_size]; exact Nat.le_refl _, by simp, hm, ?_⟩
  apply List.ext_getElem?
  intro j
  rw [strOfNums_size, bv_get, strOfNums_size, List.getElem?_take]
  by_cases hj : j < xs.length
  · simp [hj]
    rw [bt_nums xs j hj (h _ (List.getElem_mem hj))]
  · simp [hj]

theorem hexd_range {d : Int} (h0 : 0 ≤ d) (h1 : d < 16) : 0 ≤ hexd d ∧ hexd d ≤ 255 := by unfold hexd; split <;> omega
theorem short_range {c l : Int} (h : Short c l) : 0 ≤ l ∧ l ≤ 255 ∧ c ≠ 47 ∧ 0 ≤ c ∧ c < 128 := by cases h <;> decide

theorem quote (s : ByteArray) (w : World) (hs : s.size ≤ 16384) : Calls Tryd.prog 6 #[.string s] w fun e w' => e = .returned (.string (esc s)) ∧ Below w.heap.size w w' := by
  go_enter Tryd.func6, Tryd.ntmps6
  go_wp2
  have hO : Own (w.alloc (.cells #[.int .u8 34] 5)) w.heap.size (.slice (some ⟨w.heap.size, 0, none⟩) 1 1) (escP s 0) := own_lit w w.heap.size 5 [34] (by decide) (Nat.le_refl _) (by decide)
  go_loopg [3, 4] s.size (fun d v3 v4 wr => ∃ k : Nat, v4 = .int .i64 k ∧ k + d = s.size ∧ Own wr w.heap.size v3 (escP s k) ∧ Below w.heap.size w wr)
  case atStart => exact ⟨0, rfl, by omega, hO, below_alloc (Below.refl _ _) _⟩
  case round =>
    obtain ⟨k, rfl, hd, hO, hB⟩ := hrel
    by_cases hlt : k < s.size
    · have hx : ∀ h : k < s.size, ((s[k]'h).toNat : Int) = bt s k := bt_at s k
      have hr := bt_range s k
      have HE := Lib.hid (show escP s (k + 1) = escP s k ++ strOfNums (eb (bt s k)) from rfl)
      have hz := escP_size s k
      generalize hc : bt s k = c at *
      clear hc
      have HD := Lib.hid hd
      clear hd
      rcases short_or c with ⟨l, hl⟩ | hn
      · have hl2 := short_range hl
        go_wp2_with (first
          | (go_at_call 10; refine (shortOf_yes hl _).mono ?_; rintro e w' ⟨rfl, rfl⟩)
          | (at_builtin; go_must (refine app_rd _ rfl (.tmp 33) (.tmp 35) rfl w.heap.size _ (escP s k) (strOfNums [92, l]) _ 2 2 rfl rfl (by rw [strOfNums_size]; rfl) (hO.alloc _) (rd_lit _ 5 [92, l] (by simp; omega)) (by rw [strOfNums_size]; simp; omega) (Nat.le_trans hB.size (by simp)) ?_); intro v' w' hO' hg' hat'))
        go_roundg (gk - 1)
        case measure => have := HD.out; omega
        case rel =>
          have hd := HD.out
          refine ⟨k + 1, by go_num, by omega, ?_, (below_alloc hB _).grown hg' (Nat.le_trans hB.size (by simp)) (fun j hj => (hO.block j hj).1)⟩
          rw [HE.out, eb_short hl]
          exact hO'
      · by_cases h32 : c < 32
        · have e16 : 0 ≤ c / 16 ∧ c / 16 ≤ 1 := by omega
          have h16 : 0 ≤ c % 16 ∧ c % 16 < 16 := by omega
          have hh := hexd_range h16.1 h16.2
          have h47 : c ≠ 47 := by omega
          go_wp2_with (first
            | (go_at_call 10; refine (shortOf_no hn h47 hr.1 hr.2 _).mono ?_; rintro e w' ⟨rfl, rfl⟩)
            | (go_at_call 11; refine (digitOf _ (by omega) (by omega) _).mono ?_; rintro e w' ⟨rfl, rfl⟩)
            | (at_builtin; go_must (refine app_rd _ rfl (.tmp 40) (.tmp 48) rfl w.heap.size _ (escP s k) (strOfNums [92, 117, 48, 48, 48 + c / 16, hexd (c % 16)]) _ 6 6 rfl rfl (by rw [strOfNums_size]; rfl) (hO.alloc _) (rd_lit _ 5 [92, 117, 48, 48, 48 + c / 16, hexd (c % 16)] (by simp; omega)) (by rw [strOfNums_size]; simp; omega) (Nat.le_trans hB.size (by simp)) ?_); intro v' w' hO' hg' hat'))
          go_roundg (gk - 1)
          case measure => have := HD.out; omega
          case rel =>
            have hd := HD.out
            refine ⟨k + 1, by go_num, by omega, ?_, (below_alloc hB _).grown hg' (Nat.le_trans hB.size (by simp)) (fun j hj => (hO.block j hj).1)⟩
            rw [HE.out, eb_low hn h32]
            exact hO'
        · by_cases h47 : c = 47
          · subst h47
            go_wp2_with (first
              | (go_at_call 10; refine (shortOf_slash _).mono ?_; rintro e w' ⟨rfl, rfl⟩)
              | (at_builtin; go_must (refine app_rd _ rfl (.tmp 23) (.tmp 25) rfl w.heap.size _ (escP s k) (strOfNums [47]) _ 1 1 rfl rfl (by rw [strOfNums_size]; rfl) (hO.alloc _) (rd_lit _ 5 [47] (by simp)) (by rw [strOfNums_size]; simp; omega) (Nat.le_trans hB.size (by simp)) ?_); intro v' w' hO' hg' hat'))
            go_roundg (gk - 1)
            case measure => have := HD.out; omega
            case rel =>
              have hd := HD.out
              refine ⟨k + 1, by go_num, by omega, ?_, (below_alloc hB _).grown hg' (Nat.le_trans hB.size (by simp)) (fun j hj => (hO.block j hj).1)⟩
              rw [HE.out, eb_plain hn (by omega)]
              exact hO'
          · go_wp2_with (first
              | (go_at_call 10; refine (shortOf_no hn h47 hr.1 hr.2 _).mono ?_; rintro e w' ⟨rfl, rfl⟩)
              | (at_builtin; go_must (refine app_rd _ rfl (.tmp 23) (.tmp 25) rfl w.heap.size _ (escP s k) (strOfNums [c]) _ 1 1 rfl rfl (by rw [strOfNums_size]; rfl) (hO.alloc _) (rd_lit _ 5 [c] (by simp; omega)) (by rw [strOfNums_size]; simp; omega) (Nat.le_trans hB.size (by simp)) ?_); intro v' w' hO' hg' hat'))
            go_roundg (gk - 1)
            case measure => have := HD.out; omega
            case rel =>
              have hd := HD.out
              refine ⟨k + 1, by go_num, by omega, ?_, (below_alloc hB _).grown hg' (Nat.le_trans hB.size (by simp)) (fun j hj => (hO.block j hj).1)⟩
              rw [HE.out, eb_plain hn (by omega)]
              exact hO'
    · have hk : k = s.size := by omega
      have HK := Lib.hid hk
      have HD := Lib.hid hd
      have hkl : k ≤ s.size := by omega
      clear hd hk
      have hz := escP_size s k
      go_wp2_with (first
        | (at_builtin; go_must (refine app_rd _ rfl (.tmp 50) (.tmp 51) rfl w.heap.size _ (escP s k) (strOfNums [34]) _ 1 1 rfl rfl (by rw [strOfNums_size]; rfl) (hO.alloc _) (rd_lit _ 5 [34] (by decide)) (by rw [strOfNums_size]; simp; omega) (Nat.le_trans hB.size (by simp)) ?_); intro v' w' hO' hg' hat'
           obtain ⟨r', HR', hO'⟩ : ∃ r', Hid (r' = escP s k ++ strOfNums [34]) ∧ Own w' w.heap.size v' r' := ⟨_, Lib.hid rfl, hO'⟩
           obtain ⟨A', c', rfl, hcc', hr'⟩ := hO'.rd
           have hcv := hr'.string (c := c') Tryd.underlying35 Tryd.underlying5 Tryd.underlying9
           clear hr' hcc'))
      go_ret
      have hk := HK.out
      subst hk
      have hR := HR'.out
      refine ⟨by rw [hR]; rfl, (below_alloc hB _).grown hg' (Nat.le_trans hB.size (by simp)) (fun j hj => (hO.block j hj).1)⟩
end Go.Proofs.YtnhnkpgbdpbafaaDoor.L
