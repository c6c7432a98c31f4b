/- The walk of jpFound. -/
import Derived.Test.YtkdkdhcjpgmjdaaGreatDoorJpFind4
namespace Go.Proofs.YtkdkdhcjpgmjdaaGreatDoor.Jp
open Go.RowKit L
set_option linter.unusedVariables false
set_option linter.unusedSimpArgs false

theorem places_val {s : ByteArray} {p : Pl} (h : places s = some p) : IsVal s p ∧ Rdv s (s.size + 1) 0 p := by
  unfold places valAt at h
  split at h
  · cases h
  · rename_i j q hv
    split at h
    · injection h with h
      subst h
      obtain ⟨h1, h2⟩ := rdv_of (off := 0) (by omega) (skip_top isBlank s (i := 0) (by omega)) hv
      exact ⟨⟨_, _, h1⟩, h1⟩
    · cases h
theorem pm_of_plc {w : World} {B : Nat → Prop} {p : Pl} {k b e : Int} {An : Option Addr} {nn cn : Nat} {Ak : Option Addr} {nk ck : Nat} (h : PlC w B p [.int .i64 k, .int .i64 b, .int .i64 e, .slice An nn cn, .slice Ak nk ck]) : Pm w B p An nn cn Ak nk ck := by
  cases p with
  | mk kd b0 e0 ns ks =>
    simp only [PlC] at h
    obtain ⟨An', cn', Ak', ck', ys, he, h0, h1, h2⟩ := h
    simp only [List.cons.injEq, Value.slice.injEq, and_true] at he
    obtain ⟨-, -, -, ⟨rfl, rfl, rfl⟩, rfl, rfl, rfl⟩ := he
    exact ⟨rfl, rfl, h0, ys, h1, h2⟩
theorem found_cons {s : ByteArray} {p : Pl} {k : ByteArray} {ks : List ByteArray} : foundP s p (k :: ks) = if p.kind = 6 ∧ isIdx k = true then none else match stepP s p k with | none => none | some q => foundP s q ks := rfl
/-- What jpFound answers. -/
def FoundPost (s : ByteArray) (ks : List ByteArray) (w : World) (e : Ending) (w' : World) : Prop := Below w.heap.size w w' ∧
  ((∃ root r An cn Ak ck, s.size ≤ 65536 ∧ places s = some root ∧ Leads s root ks r ∧ IsVal s r ∧ e = .returned (.tuple #[Pg r An r.names.length cn Ak r.kids.length ck, .bool true]) ∧ Pm w' (From w.heap.size) r An r.names.length cn Ak r.kids.length ck) ∨
   e = .returned (.tuple #[Pz, .bool false]))
/-- jpFound stands at key j. -/
structure FoundAt (s : ByteArray) (g : Nat) (w1 : World) (o : Option Pl) (ks : List ByteArray) (j : Nat) (wr : World) (p : Pl) (An : Option Addr) (nn cn : Nat) (Ak : Option Addr) (nk ck : Nat) : Prop where
  val : IsVal s p
  mem : Pm wr (fun i => g < i ∧ i < w1.heap.size) p An nn cn Ak nk ck
  box : B5 wr w1.heap.size (.int .i64 (p.kind : Int)) (.int .i64 (p.b : Int)) (.int .i64 (p.e : Int)) (.slice An nn cn) (.slice Ak nk ck)
  zero : B5 wr g (.int .i64 0) (.int .i64 0) (.int .i64 0) (.slice none 0 0) (.slice none 0 0)
  bel : Below w1.heap.size w1 wr
  found : foundP s p (ks.drop j) = o
theorem FoundAt.below {s : ByteArray} {g : Nat} {w1 wr wx : World} {o : Option Pl} {ks : List ByteArray} {j : Nat} {p : Pl} {An : Option Addr} {nn cn : Nat} {Ak : Option Addr} {nk ck : Nat} (h : FoundAt s g w1 o ks j wr p An nn cn Ak nk ck) (hb : Below wr.heap.size wr wx) : FoundAt s g w1 o ks j wx p An nn cn Ak nk ck :=
  ⟨h.val, h.mem.keep (Keeps.of_below hb), B5.below h.box hb, B5.below h.zero hb, below_of h.bel hb, h.found⟩
theorem b5_other {w : World} {g g2 : Nat} (hne : g ≠ g2) {v0 v1 v2 v3 v4 u0 u1 u2 u3 u4 : Value} (h : B5 w g v0 v1 v2 v3 v4) : B5 (((((w.setCell ⟨g2, 0, none⟩ u0).setCell ⟨g2, 1, none⟩ u1).setCell ⟨g2, 2, none⟩ u2).setCell ⟨g2, 3, none⟩ u3).setCell ⟨g2, 4, none⟩ u4) g v0 v1 v2 v3 v4 := by
  unfold B5 at h ⊢
  iterate 5 rw [Below.heap_setCell _ _ _ g hne]
  exact h
theorem keep_other {g n g2 : Nat} {w : World} {u0 u1 u2 u3 u4 : Value} (hg : g2 ≤ g ∨ n ≤ g2) : Keeps (fun j => g < j ∧ j < n) w (((((w.setCell ⟨g2, 0, none⟩ u0).setCell ⟨g2, 1, none⟩ u1).setCell ⟨g2, 2, none⟩ u2).setCell ⟨g2, 3, none⟩ u3).setCell ⟨g2, 4, none⟩ u4) := by
  refine ⟨by simp [World.setCell], fun t ht _ => ?_⟩
  iterate 5 rw [Below.heap_setCell _ _ _ t (by simp; omega)]
end Go.Proofs.YtkdkdhcjpgmjdaaGreatDoor.Jp
