/- The walks of internalGet, Get and Config.Get, without keys. -/
import Derived.Test.YtkdkdhcjpgmjdaaDoorJpGet
namespace Go.Proofs.YtkdkdhcjpgmjdaaDoor.Jp
open Go.RowKit L
set_option linter.unusedVariables false
set_option linter.unusedSimpArgs false

/-- The package's variables, as they are laid. -/
structure Wd (T : Nat → TypeId) (V : Nat → Value) (w : World) : Prop where
  errs : Errs T V w
  dl : 0 < w.heap.size
  d0 : w.cell? ⟨0, 0, none⟩ = some (.bool false)
  d1 : w.cell? ⟨0, 1, none⟩ = some (.bool false)
  d2 : w.cell? ⟨0, 2, none⟩ = some (.int .i64 0)
theorem Wd.below {T : Nat → TypeId} {V : Nat → Value} {w w' : World} (h : Wd T V w) (hb : Below w.heap.size w w') : Wd T V w' :=
  ⟨h.errs.below hb, Nat.lt_of_lt_of_le h.dl hb.size, (hb.cell h.dl).trans h.d0, (hb.cell h.dl).trans h.d1, (hb.cell h.dl).trans h.d2⟩
/-- What Get answers (no keys). -/
def GetPost (T : Nat → TypeId) (V : Nat → Value) (s : ByteArray) (g : Option (Nat × Gt)) (w : World) (e : Ending) (w' : World) : Prop :=
  (match g with
  | none => e = .returned (.tuple #[.slice none 0 0, .int .i64 0, .int .i64 (-1), .iface (T 3) (V 3)])
  | some (d, .ok dt k) => ∃ (A' : Option Addr) (n' c' : Nat), e = .returned (.tuple #[.slice A' n' c', .int .i64 (dt : Int), .int .i64 ((d + k : Nat) : Int), .nilIface]) ∧ n' = (rawOf s dt d k).size ∧ n' ≤ c' ∧ d + k ≤ s.size ∧ Rd w' A' (rawOf s dt d k)
  | some (d, .no dt err) => e = .returned (.tuple #[.slice none 0 0, .int .i64 (dt : Int), .int .i64 (d : Int), .iface (T err) (V err)])) ∧ Below w.heap.size w w'
set_option maxRecDepth 100000 in
set_option maxHeartbeats 4000000 in
theorem iget0 (T : Nat → TypeId) (V : Nat → Value) (A : Option Addr) (s : ByteArray) (m c : Nat) (w : World) (h : Rd w A s) (hW : Wd T V w) (hm : m = s.size) (hs : s.size ≤ 1000000) (hc : s.size ≤ c) :
    Calls Tryd.prog 39 #[.slice A m c, .slice none 0 0] w (IgPost T V s (getT false (tx s)) w) := by
  subst hm
  have HR := Lib.hid h
  have HW := Lib.hid hW
  have d0 := hW.d0
  have d1 := hW.d1
  have d2 := hW.d2
  clear h hW
  obtain ⟨g, hg⟩ : ∃ g, getT false (tx s) = g := ⟨_, rfl⟩
  rw [hg]
  have HG := Lib.hid hg
  clear hg
  rcases g with _ | ⟨d, ⟨dt, k⟩ | ⟨dt, err⟩⟩
  all_goals
    go_enter Tryd.func39, Tryd.ntmps39
  · go_wp2_with (first
      | (go_at_call 51; refine (igetW T V _ s _ _ false false 0 _ HR.out HW.out.errs rfl hs hc).mono ?_; rw [HG.out]; rintro e w1 ⟨rfl, hb1⟩; replace hb1 := Lib.hid hb1))
    (try simp only [Exit.inBlock, Exit.then])
    refine bodyPost_ret (results_tmp5 rfl _ _ _) rfl ?_
    exact ⟨rfl, hb1.out⟩
  · go_wp2_with (first
      | (go_at_call 51; refine (igetW T V _ s _ _ false false 0 _ HR.out HW.out.errs rfl hs hc).mono ?_; rw [HG.out]; rintro e w1 ⟨⟨A2, n2, c2, rfl, h1, h2, h3, h4⟩, hb1⟩; replace hb1 := Lib.hid hb1; replace h1 := Lib.hid h1; replace h4 := Lib.hid h4))
    (try simp only [Exit.inBlock, Exit.then])
    refine bodyPost_ret (results_tmp5 rfl _ _ _) rfl ?_
    exact ⟨⟨A2, n2, c2, rfl, h1.out, h2, h3, h4.out⟩, hb1.out⟩
  · go_wp2_with (first
      | (go_at_call 51; refine (igetW T V _ s _ _ false false 0 _ HR.out HW.out.errs rfl hs hc).mono ?_; rw [HG.out]; rintro e w1 ⟨rfl, hb1⟩; replace hb1 := Lib.hid hb1))
    (try simp only [Exit.inBlock, Exit.then])
    refine bodyPost_ret (results_tmp5 rfl _ _ _) rfl ?_
    exact ⟨rfl, hb1.out⟩
set_option maxRecDepth 100000 in
set_option maxHeartbeats 4000000 in
theorem getW (T : Nat → TypeId) (V : Nat → Value) (A : Option Addr) (s : ByteArray) (m c : Nat) (w : World) (h : Rd w A s) (hW : Wd T V w) (hm : m = s.size) (hs : s.size ≤ 1000000) (hc : s.size ≤ c) :
    Calls Tryd.prog 23 #[.slice A m c, .slice none 0 0] w (GetPost T V s (getT false (tx s)) w) := by
  subst hm
  have HR := Lib.hid h
  have HW := Lib.hid hW
  clear h hW
  obtain ⟨g, hg⟩ : ∃ g, getT false (tx s) = g := ⟨_, rfl⟩
  rw [hg]
  have HG := Lib.hid hg
  clear hg
  rcases g with _ | ⟨d, ⟨dt, k⟩ | ⟨dt, err⟩⟩
  all_goals
    go_enter Tryd.func23, Tryd.ntmps23
  · go_wp2_with (first
      | (go_at_call 39; refine (iget0 T V _ s _ _ _ HR.out HW.out rfl hs hc).mono ?_; rw [HG.out]; rintro e w1 ⟨rfl, hb1⟩; replace hb1 := Lib.hid hb1))
    (try simp only [Exit.inBlock, Exit.then])
    refine bodyPost_ret (results_tmp4 rfl _ _ _) rfl ?_
    exact ⟨rfl, hb1.out⟩
  · go_wp2_with (first
      | (go_at_call 39; refine (iget0 T V _ s _ _ _ HR.out HW.out rfl hs hc).mono ?_; rw [HG.out]; rintro e w1 ⟨⟨A2, n2, c2, rfl, h1, h2, h3, h4⟩, hb1⟩; replace hb1 := Lib.hid hb1; replace h1 := Lib.hid h1; replace h4 := Lib.hid h4))
    (try simp only [Exit.inBlock, Exit.then])
    refine bodyPost_ret (results_tmp4 rfl _ _ _) rfl ?_
    exact ⟨⟨A2, n2, c2, rfl, h1.out, h2, h3, h4.out⟩, hb1.out⟩
  · go_wp2_with (first
      | (go_at_call 39; refine (iget0 T V _ s _ _ _ HR.out HW.out rfl hs hc).mono ?_; rw [HG.out]; rintro e w1 ⟨rfl, hb1⟩; replace hb1 := Lib.hid hb1))
    (try simp only [Exit.inBlock, Exit.then])
    refine bodyPost_ret (results_tmp4 rfl _ _ _) rfl ?_
    exact ⟨rfl, hb1.out⟩
/-- A Found in a block of its own. -/
def F4 (w : World) (g : Nat) (v0 v1 v2 v3 : Value) : Prop := w.heap[g]? = some (.cells #[v0, v1, v2, v3] 38 (0, 0))
section
variable {w w' : World} {g : Nat} {v0 v1 v2 v3 : Value}
theorem F4.new (w : World) (v0 v1 v2 v3 : Value) : F4 (w.alloc (.cells #[v0, v1, v2, v3] 38)) w.heap.size v0 v1 v2 v3 := heap_alloc_new w _
theorem F4.lt (h : F4 w g v0 v1 v2 v3) : g < w.heap.size := (Array.getElem?_eq_some_iff.1 h).1
theorem F4.c0 (h : F4 w g v0 v1 v2 v3) : w.cell? ⟨g, 0, none⟩ = some v0 := cell_of_row w g 0 _ _ _ h
theorem F4.c1 (h : F4 w g v0 v1 v2 v3) : w.cell? ⟨g, 1, none⟩ = some v1 := cell_of_row w g 1 _ _ _ h
theorem F4.c2 (h : F4 w g v0 v1 v2 v3) : w.cell? ⟨g, 2, none⟩ = some v2 := cell_of_row w g 2 _ _ _ h
theorem F4.c3 (h : F4 w g v0 v1 v2 v3) : w.cell? ⟨g, 3, none⟩ = some v3 := cell_of_row w g 3 _ _ _ h
theorem F4.f (h : F4 w g v0 v1 v2 v3) (j : Nat) : w.frozen? ⟨g, j, none⟩ = false := by unfold F4 at h; simp [World.frozen?, h]
theorem F4.below (h : F4 w g v0 v1 v2 v3) (hb : Below w.heap.size w w') : F4 w' g v0 v1 v2 v3 := (hb.block g h.lt).trans h
end
theorem below_set {a w : World} (h : Below a.heap.size a w) {p : Addr} (hp : a.heap.size ≤ p.block) (u : Value) : Below a.heap.size a (w.setCell p u) := h.setCell hp u
set_option maxRecDepth 100000 in
set_option maxHeartbeats 4000000 in
/-- JpGet's answer: a place of a text. -/
theorem jpGetYes (T : Nat → TypeId) (V : Nat → Value) (s : ByteArray) (w : World) (hW : Wd T V w) (hs : s.size ≤ 1000000) {d dt k : Nat} (hg : getT false (tx s) = some (d, .ok dt k)) :
    Calls Tryd.prog 10 #[.string s, .slice none 0 0] w fun e w' => e = .returned (.tuple #[.agg #[.string ⟨#[]⟩, .string (rawOf s dt d k), .int .i64 (dt : Int), .int .i64 ((d + k : Nat) : Int)], .bool true]) ∧ Below w.heap.size w w' := by
  have HB1 := Lib.hid (below_alloc (Below.refl w.heap.size w) (.cells #[.string ⟨#[]⟩, .string ⟨#[]⟩, .int .i64 0, .int .i64 0] 38))
  have HF1 := Lib.hid (F4.new w (.string ⟨#[]⟩) (.string ⟨#[]⟩) (.int .i64 0) (.int .i64 0))
  have HZ := Lib.hid (show (w.alloc (.cells #[.string ⟨#[]⟩, .string ⟨#[]⟩, .int .i64 0, .int .i64 0] 38)).heap.size = w.heap.size + 1 by simp)
  have HW1 := Lib.hid (hW.below HB1.out)
  have HG := Lib.hid hg
  clear hW hg
  obtain ⟨w1, hw1⟩ : ∃ w1, w.alloc (.cells #[.string ⟨#[]⟩, .string ⟨#[]⟩, .int .i64 0, .int .i64 0] 38) = w1 := ⟨_, rfl⟩
  rw [hw1] at HB1 HF1 HW1 HZ
  have hcv : (convert 9 58 (.string s)).run Tryd.prog w1 = .ok (.slice (some ⟨w1.heap.size, 0, none⟩) s.size (grownCap w1 s.size 0 5)) (Lib.bytesWorld w1 5 s) := Lib.run_convert_string_bytes w1 9 58 5 s Tryd.underlying9 Tryd.underlying58 Tryd.underlying5
  have HB0 := Lib.hid (bytesWorld_below w1 5 s)
  have HR0 := Lib.hid (bytesWorld_rd w1 5 s)
  have HC0 := Lib.hid (bytesCap w1 5 s)
  go_enter Tryd.func10, Tryd.ntmps10
  go_wp2_with (first
    | (go_at_call 23; refine (getW T V _ s _ _ _ HR0.out (HW1.out.below HB0.out) rfl hs HC0.out).mono ?_; rw [HG.out]; rintro e w2 ⟨⟨A2, n2, c2, rfl, h1, h2, h3, h4⟩, hb1⟩
       have hF2 := (HF1.out.below HB0.out).below hb1
       have q0 := hF2.c0
       have q1 := hF2.c1
       have q2 := hF2.c2
       have q3 := hF2.c3
       have e0 := hF2.f 0
       have e1 := hF2.f 1
       have e2 := hF2.f 2
       have e3 := hF2.f 3
       clear hF2
       obtain ⟨r, hr⟩ : ∃ r, rawOf s dt d k = r := ⟨_, rfl⟩
       rw [hr] at h1 h4
       subst h1
       have hcv2 : (convert 58 9 (.slice A2 r.size c2)).run Tryd.prog w2 = .ok (.string r) w2 := h4.string Tryd.underlying58 Tryd.underlying5 Tryd.underlying9
       replace hr := Lib.hid hr
       replace hb1 := Lib.hid hb1
       replace h4 := Lib.hid h4))
  refine bodyPost_ret (v := .tuple #[.agg #[.string ⟨#[]⟩, .string r, .int .i64 (dt : Int), .int .i64 ((d + k : Nat) : Int)], .bool true]) (by simp [results, Tryd.results10, go_sem, q0, q1, q2, q3]) rfl ?_
  refine ⟨by rw [hr.out], ?_⟩
  iterate 4 with_reducible refine below_set ?_ (Nat.le_refl _) _
  exact below_of (below_of HB1.out HB0.out) hb1.out
end Go.Proofs.YtkdkdhcjpgmjdaaDoor.Jp
