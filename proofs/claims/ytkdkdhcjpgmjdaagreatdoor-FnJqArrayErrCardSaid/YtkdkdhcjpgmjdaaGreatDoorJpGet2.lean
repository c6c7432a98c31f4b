/- The walks of internalGet, Get and Config.Get, without keys. -/
import Derived.Test.YtkdkdhcjpgmjdaaGreatDoorJpGet
namespace Go.Proofs.YtkdkdhcjpgmjdaaGreatDoor.Jp
open Go.RowKit L
set_option linter.unusedVariables false
set_option linter.unusedSimpArgs false

/-- The package's variables, as they are laid. -/
structure Wd (T : Nat → TypeId) (V : Nat → Value) (w : World) : Prop where
  errs : Errs T V w
  dl : 2 < w.heap.size
  d0 : w.cell? ⟨2, 0, none⟩ = some (.bool false)
  d1 : w.cell? ⟨2, 1, none⟩ = some (.bool false)
  d2 : w.cell? ⟨2, 2, none⟩ = some (.int .i64 0)
theorem Wd.below {T : Nat → TypeId} {V : Nat → Value} {w w' : World} (h : Wd T V w) (hb : Below w.heap.size w w') : Wd T V w' :=
  ⟨h.errs.below hb, Nat.lt_of_lt_of_le h.dl hb.size, (hb.cell h.dl).trans h.d0, (hb.cell h.dl).trans h.d1, (hb.cell h.dl).trans h.d2⟩
/-- What Get answers (no keys). -/
def GetPost (T : Nat → TypeId) (V : Nat → Value) (s : ByteArray) (g : Option (Nat × Gt)) (w : World) (e : Ending) (w' : World) : Prop :=
  (match g with
  | none => e = .returned (.tuple #[.slice none 0 0, .int .i64 0, .int .i64 (-1), .iface (T 3) (V 3)])
  | some (d, .ok dt k) => ∃ (A' : Option Addr) (n' c' : Nat), e = .returned (.tuple #[.slice A' n' c', .int .i64 (dt : Int), .int .i64 ((d + k : Nat) : Int), .nilIface]) ∧ n' = (rawOf s dt d k).size ∧ n' ≤ c' ∧ d + k ≤ s.size ∧ Rd w' A' (rawOf s dt d k)
  | some (d, .no dt err) => e = .returned (.tuple #[.slice none 0 0, .int .i64 (dt : Int), .int .i64 (d : Int), .iface (T err) (V err)])) ∧ Below w.heap.size w w'
set_option maxRecDepth 100000 in
set_option maxHeartbeats 4000000 in
theorem iget0 (T : Nat → TypeId) (V : Nat → Value) (A : Option Addr) (s : ByteArray) (m c : Nat) (w : World) (h : Rd w A s) (hW : Wd T V w) (hm : m = s.size) (hs : s.size ≤ 1000000) (hc : s.size ≤ c) :
    Calls Tryz.prog 79 #[.slice A m c, .slice none 0 0] w (IgPost T V s (getT false (tx s)) w) := by
  subst hm
  have HR := Lib.hid h
  have HW := Lib.hid hW
  have d0 := hW.d0
  have d1 := hW.d1
  have d2 := hW.d2
  clear h hW
  obtain ⟨g, hg⟩ : ∃ g, getT false (tx s) = g := ⟨_, rfl⟩
  rw [hg]
  have HG := Lib.hid hg
  clear hg
  rcases g with _ | ⟨d, ⟨dt, k⟩ | ⟨dt, err⟩⟩
  all_goals
    go_enter Tryz.func79, Tryz.ntmps79
  · go_wp2_with (first
      | (go_at_call 65; refine (igetW T V _ s _ _ false false 0 _ HR.out HW.out.errs rfl hs hc).mono ?_; rw [HG.out]; rintro e w1 ⟨rfl, hb1⟩; replace hb1 := Lib.hid hb1))
    (try simp only [Exit.inBlock, Exit.then])
    refine bodyPost_ret (results_tmp5 rfl _ _ _) rfl ?_
    exact ⟨rfl, hb1.out⟩
  · go_wp2_with (first
      | (go_at_call 65; refine (igetW T V _ s _ _ false false 0 _ HR.out HW.out.errs rfl hs hc).mono ?_; rw [HG.out]; rintro e w1 ⟨⟨A2, n2, c2, rfl, h1, h2, h3, h4⟩, hb1⟩; replace hb1 := Lib.hid hb1; replace h1 := Lib.hid h1; replace h4 := Lib.hid h4))
    (try simp only [Exit.inBlock, Exit.then])
    refine bodyPost_ret (results_tmp5 rfl _ _ _) rfl ?_
    exact ⟨⟨A2, n2, c2, rfl, h1.out, h2, h3, h4.out⟩, hb1.out⟩
  · go_wp2_with (first
      | (go_at_call 65; refine (igetW T V _ s _ _ false false 0 _ HR.out HW.out.errs rfl hs hc).mono ?_; rw [HG.out]; rintro e w1 ⟨rfl, hb1⟩; replace hb1 := Lib.hid hb1))
    (try simp only [Exit.inBlock, Exit.then])
    refine bodyPost_ret (results_tmp5 rfl _ _ _) rfl ?_
    exact ⟨rfl, hb1.out⟩
set_option maxRecDepth 100000 in
set_option maxHeartbeats 4000000 in
theorem getW (T : Nat → TypeId) (V : Nat → Value) (A : Option Addr) (s : ByteArray) (m c : Nat) (w : World) (h : Rd w A s) (hW : Wd T V w) (hm : m = s.size) (hs : s.size ≤ 1000000) (hc : s.size ≤ c) :
    Calls Tryz.prog 54 #[.slice A m c, .slice none 0 0] w (GetPost T V s (getT false (tx s)) w) := by
  subst hm
  have HR := Lib.hid h
  have HW := Lib.hid hW
  clear h hW
  obtain ⟨g, hg⟩ : ∃ g, getT false (tx s) = g := ⟨_, rfl⟩
  rw [hg]
  have HG := Lib.hid hg
  clear hg
  rcases g with _ | ⟨d, ⟨dt, k⟩ | ⟨dt, err⟩⟩
  all_goals
    go_enter Tryz.func54, Tryz.ntmps54
  · go_wp2_with (first
      | (go_at_call 79; refine (iget0 T V _ s _ _ _ HR.out HW.out rfl hs hc).mono ?_; rw [HG.out]; rintro e w1 ⟨rfl, hb1⟩; replace hb1 := Lib.hid hb1))
    (try simp only [Exit.inBlock, Exit.then])
    refine bodyPost_ret (results_tmp4 rfl _ _ _) rfl ?_
    exact ⟨rfl, hb1.out⟩
  · go_wp2_with (first
      | (go_at_call 79; refine (iget0 T V _ s _ _ _ HR.out HW.out rfl hs hc).mono ?_; rw [HG.out]; rintro e w1 ⟨⟨A2, n2, c2, rfl, h1, h2, h3, h4⟩, hb1⟩; replace hb1 := Lib.hid hb1; replace h1 := Lib.hid h1; replace h4 := Lib.hid h4))
    (try simp only [Exit.inBlock, Exit.then])
    refine bodyPost_ret (results_tmp4 rfl _ _ _) rfl ?_
    exact ⟨⟨A2, n2, c2, rfl, h1.out, h2, h3, h4.out⟩, hb1.out⟩
  · go_wp2_with (first
      | (go_at_call 79; refine (iget0 T V _ s _ _ _ HR.out HW.out rfl hs hc).mono ?_; rw [HG.out]; rintro e w1 ⟨rfl, hb1⟩; replace hb1 := Lib.hid hb1))
    (try simp only [Exit.inBlock, Exit.then])
    refine bodyPost_ret (results_tmp4 rfl _ _ _) rfl ?_
    exact ⟨rfl, hb1.out⟩
/-- A Found in a block of its own. -/
def F4 (w : World) (g : Nat) (v0 v1 v2 v3 : Value) : Prop := w.heap[g]? = some (.cells #[v0, v1, v2, v3] 35 (0, 0))
section
variable {w w' : World} {g : Nat} {v0 v1 v2 v3 : Value}
theorem F4.new (w : World) (v0 v1 v2 v3 : Value) : F4 (w.alloc (.cells #[v0, v1, v2, v3] 35)) w.heap.size v0 v1 v2 v3 := heap_alloc_new w _
theorem F4.lt (h : F4 w g v0 v1 v2 v3) : g < w.heap.size := (Array.getElem?_eq_some_iff.1 h).1
theorem F4.c0 (h : F4 w g v0 v1 v2 v3) : w.cell? ⟨g, 0, none⟩ = some v0 := cell_of_row w g 0 _ _ _ h
theorem F4.c1 (h : F4 w g v0 v1 v2 v3) : w.cell? ⟨g, 1, none⟩ = some v1 := cell_of_row w g 1 _ _ _ h
theorem F4.c2 (h : F4 w g v0 v1 v2 v3) : w.cell? ⟨g, 2, none⟩ = some v2 := cell_of_row w g 2 _ _ _ h
theorem F4.c3 (h : F4 w g v0 v1 v2 v3) : w.cell? ⟨g, 3, none⟩ = some v3 := cell_of_row w g 3 _ _ _ h
theorem F4.f (h : F4 w g v0 v1 v2 v3) (j : Nat) : w.frozen? ⟨g, j, none⟩ = false := by unfold F4 at h; simp [World.frozen?, h]
theorem F4.below (h : F4 w g v0 v1 v2 v3) (hb : Below w.heap.size w w') : F4 w' g v0 v1 v2 v3 := (hb.block g h.lt).trans h
end
theorem below_set {a w : World} (h : Below a.heap.size a w) {p : Addr} (hp : a.heap.size ≤ p.block) (u : Value) : Below a.heap.size a (w.setCell p u) := h.setCell hp u
end Go.Proofs.YtkdkdhcjpgmjdaaGreatDoor.Jp
