/- parseUint of gjson: every text. -/
import Derived.Test.YtloegbicgopmpaaProg
import Derived.WalkKit
import Derived.Outline
import Derived.Lib.Hide
import Derived.ScopeJumps
import Derived.WalkMore
import Derived.Deep.LoopGhost
import Derived.Test.YtloegbicgopmpaaWWords
namespace Go.Proofs.Ytloegbicgopmpaa.Uint
open Go.RowKit Go.Proofs.YtloegbicgopmpaaW.PrintWords
set_option linter.unusedVariables false

def intOf : Value → Int | .int _ q => q | _ => 0
def AllDig (s : ByteArray) (n : Nat) : Prop := ∀ j : Nat, j < n → 48 ≤ bt s j ∧ bt s j ≤ 57
def valN (s : ByteArray) : Nat → Int
  | 0 => 0
  | k + 1 => valN s k * 10 + (bt s k - 48)

theorem AllDig.zero (s : ByteArray) : AllDig s 0 := fun j h => absurd h (by omega)
theorem AllDig.succ {s : ByteArray} {k : Nat} (h : AllDig s k) (h1 : 48 ≤ bt s k) (h2 : bt s k ≤ 57) : AllDig s (k + 1) := fun j hj => by
  by_cases e : j = k
  · subst e; exact ⟨h1, h2⟩
  · exact h j (by omega)
theorem val_nonneg {s : ByteArray} {n : Nat} (h : AllDig s n) : 0 ≤ valN s n := by
  induction n with
  | zero => simp [valN]
  | succ n ih =>
    have := ih (fun j hj => h j (by omega))
    have := h n (by omega)
    simp only [valN]; omega
theorem val_mono {s : ByteArray} {n : Nat} (h : AllDig s n) {k : Nat} (hk : k ≤ n) : valN s k ≤ valN s n := by
  induction n with
  | zero => have : k = 0 := by omega
            subst this; exact Int.le_refl _
  | succ n ih =>
    by_cases e : k = n + 1
    · subst e; exact Int.le_refl _
    · have h' : AllDig s n := fun j hj => h j (by omega)
      have := ih h' (by omega)
      have := val_nonneg h'
      have := h n (by omega)
      simp only [valN]; omega

/-- What parseUint answers. -/
def UintPost (s : ByteArray) (w : World) (e : Ending) (w' : World) : Prop :=
  w' = w ∧ ((0 < s.size ∧ AllDig s s.size ∧ ∃ n : Int, 0 ≤ n ∧ n ≤ 18446744073709551615 ∧ (valN s s.size ≤ 18446744073709551615 → n = valN s s.size) ∧ e = .returned (.tuple #[.int .u64 n, .bool true])) ∨
    (¬ (0 < s.size ∧ AllDig s s.size) ∧ e = .returned (.tuple #[.int .u64 0, .bool false])))

/-- The loop's own relation. -/
def Rel (s : ByteArray) (k : Nat) (N : Int) : Prop := k ≤ s.size ∧ AllDig s k ∧ (valN s k ≤ 18446744073709551615 → N = valN s k)

theorem ret_two {k : IntKind} {a b : Int} {c d : Bool} (h : a = b) (h2 : c = d) : Ending.returned (.tuple #[.int k a, .bool c]) = .returned (.tuple #[.int k b, .bool d]) := by rw [h, h2]

/-- What holds where the run jumps to the label. -/
def Jump (s : ByteArray) (w : World) (a : Act) (w' : World) : Prop :=
  w' = w ∧ ∃ (k : Nat) (u1 u2 u3 u5 u6 u7 u8 u9 u10 u11 u12 u13 u14 u15 u16 u17 u18 u19 u20 u21 u22 u23 u24 u25 u26 u27 u28 u29 u30 u31 u32 u33 u34 u35 u36 u37 u38 u39 u40 u41 u42 u43 u44 u45 u46 u47 u48 u49 u50 u51 u52 u53 u54 u55 : Value), k < s.size ∧ AllDig s k ∧ (AllDig s s.size → 18446744073709551615 < valN s s.size) ∧ a = { tmps := #[.string s, u1, u2, u3, .int .i64 k, u5, u6, u7, u8, u9, u10, u11, u12, u13, u14, u15, u16, u17, u18, u19, u20, u21, u22, u23, u24, u25, u26, u27, u28, u29, u30, u31, u32, u33, u34, u35, u36, u37, u38, u39, u40, u41, u42, u43, u44, u45, u46, u47, u48, u49, u50, u51, u52, u53, u54, u55], defers := [] }

theorem wrap_small {a : Int} (h0 : 0 ≤ a) (h : a ≤ 18446744073709551615) : IntKind.u64.wrap a = a := by rw [IntKind.wrap_u64]; omega
theorem wrap_range (a : Int) : 0 ≤ IntKind.u64.wrap a ∧ IntKind.u64.wrap a ≤ 18446744073709551615 := by rw [IntKind.wrap_u64]; omega

theorem next_exact {s : ByteArray} {k : Nat} {N : Int} (hN0 : 0 ≤ N) (hd : AllDig s (k + 1)) (hv : valN s k ≤ 18446744073709551615 → N = valN s k) (h : valN s (k + 1) ≤ 18446744073709551615) :
    IntKind.u64.wrap (IntKind.u64.wrap (N * 10) + (bt s k - 48)) = valN s (k + 1) ∧ N ≤ valN s (k + 1) := by
  have h2 := val_mono hd (show k ≤ k + 1 by omega)
  have e := hv (by omega)
  have hb := hd k (by omega)
  simp only [valN] at h h2 ⊢
  have h3 := val_nonneg (s := s) (n := k) (fun j hj => hd j (by omega))
  subst e
  rw [wrap_small (a := valN s k * 10) (by omega) (by omega), wrap_small (by omega) (by omega)]
  omega

set_option maxHeartbeats 4000000 in
theorem parseUint (s : ByteArray) (w : World) (hs : s.size ≤ 9223372036854775807) : Calls Try.prog 60 #[.string s] w (UintPost s w) := by
  by_cases hz : s.size = 0
  · go_enter Try.func60, Try.ntmps60
    go_wp2
    go_step3
    go_wp2
    rw [Exit.noGoto_ret]
    go_ret2
    exact ⟨rfl, .inr ⟨fun h => absurd h.1 (by omega), by simp⟩⟩
  · go_enter Try.func60, Try.ntmps60
    go_wp2
    refine wp_scope_jumps 0 (Jump s w) (fun a' _ => 0) rfl ?_ ?_
    · go_wp2
      go_loop [4, 5] (fun i n => ∃ (k : Nat) (N : Int), i = .int .i64 k ∧ n = .int .u64 N ∧ 0 ≤ N ∧ N ≤ 18446744073709551615 ∧ Rel s k N) (fun i _ => s.size - (intOf i).toNat)
      case atStart => exact ⟨0, 0, rfl, rfl, by omega, by omega, by omega, AllDig.zero s, fun _ => rfl⟩
      case round =>
        obtain ⟨k, N, rfl, rfl, hN0, hN1, hk, hd, hv⟩ := hrel
        by_cases hlt : k < s.size
        · have hx : ∀ h : k < s.size, ((s[k]'h).toNat : Int) = bt s k := bt_at s k
          have hr := bt_range s k
          go_wp2
          · simp only [Exit.jump]
            go_ret2
            refine ⟨rfl, .inr ⟨fun h => ?_, by simp⟩⟩
            have := h.2 k hlt
            omega
          · go_step3
            have hd1 : AllDig s (k + 1) := hd.succ (by omega) (by omega)
            refine ⟨rfl, rfl, k, ?_⟩
            have hbg : AllDig s s.size → 18446744073709551615 < valN s s.size := fun hall => by
              have hm := val_mono hall (show k + 1 ≤ s.size by omega)
              by_cases hle : valN s (k + 1) ≤ 18446744073709551615
              · have := next_exact hN0 hd1 hv hle
                omega
              · omega
            iterate 54 apply Exists.intro
            exact ⟨hlt, hd, hbg, rfl⟩
          · have hd1 : AllDig s (k + 1) := hd.succ (by omega) (by omega)
            have hw := wrap_range (IntKind.u64.wrap (N * 10) + (bt s k - 48))
            refine ⟨⟨_, _, _, _, ⟨k + 1, by go_num, _, rfl, hw.1, hw.2, by omega, hd1, fun hle => (next_exact hN0 hd1 hv hle).1⟩, rfl, rfl, rfl, rfl⟩, ?_⟩
            simp [intOf]; omega
          · simp only [Exit.jump]
            go_ret2
            refine ⟨rfl, .inr ⟨fun h => ?_, by simp⟩⟩
            have := h.2 k hlt
            omega
        · go_wp2
          simp only [Exit.jump]
          go_ret2
          have hkn : k = s.size := by have := hk; omega
          subst hkn
          exact ⟨rfl, .inl ⟨by omega, hd, N, hN0, hN1, hv, by simp⟩⟩
    · rintro a' w' ⟨rfl, k0, u1, u2, u3, u5, u6, u7, u8, u9, u10, u11, u12, u13, u14, u15, u16, u17, u18, u19, u20, u21, u22, u23, u24, u25, u26, u27, u28, u29, u30, u31, u32, u33, u34, u35, u36, u37, u38, u39, u40, u41, u42, u43, u44, u45, u46, u47, u48, u49, u50, u51, u52, u53, u54, u55, hk0, hd0, hbig, rfl⟩
      go_wp2
      go_loop [4] (fun i => ∃ (k : Nat), i = .int .i64 k ∧ k ≤ s.size ∧ AllDig s k) (fun i => s.size - (intOf i).toNat)
      case atStart => exact ⟨k0, rfl, by omega, hd0⟩
      case round =>
        obtain ⟨k, rfl, hk, hd⟩ := hrel
        by_cases hlt : k < s.size
        · have hx : ∀ h : k < s.size, ((s[k]'h).toNat : Int) = bt s k := bt_at s k
          have hr := bt_range s k
          go_wp2
          · simp only [Exit.jump]
            go_ret2
            refine ⟨rfl, .inr ⟨fun h => ?_, by simp⟩⟩
            have := h.2 k hlt
            omega
          · refine ⟨⟨k + 1, by go_num, by omega, hd.succ (by omega) (by omega)⟩, ?_⟩
            simp [intOf]; omega
          · simp only [Exit.jump]
            go_ret2
            refine ⟨rfl, .inr ⟨fun h => ?_, by simp⟩⟩
            have := h.2 k hlt
            omega
        · go_wp2
          simp only [Exit.jump]
          go_ret2
          have hkn : k = s.size := by omega
          subst hkn
          exact ⟨rfl, .inl ⟨by omega, hd, 18446744073709551615, by omega, by omega, fun h => absurd (hbig hd) (by omega), by simp⟩⟩
end Go.Proofs.Ytloegbicgopmpaa.Uint
