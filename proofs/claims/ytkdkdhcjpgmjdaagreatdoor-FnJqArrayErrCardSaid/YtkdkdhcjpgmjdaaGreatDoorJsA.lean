/- jsonparser's search: its frame, equalStr, and what a member's name is held against. -/
import Derived.Test.YtkdkdhcjpgmjdaaGreatDoorJuY
import Derived.Test.YtkdkdhcjpgmjdaaGreatDoorJpFind5
import Derived.Test.YtkdkdhcjpgmjdaaGreatDoorJpKeyP2
import Derived.Test.YtkdkdhcjpgmjdaaGreatDoorJsX
import Derived.Test.YtkdkdhcjpgmjdaaGreatDoorJsY
import Derived.Test.YtkdkdhcjpgmjdaaGreatDoorShelf
import Derived.Deep.DeepCutAuto
import Derived.Deep.CutBlock
import Derived.Deep.RegionHeld3
import Derived.Deep.LoopGhost
import Derived.Deep.Light
import Derived.Laws.BytesArg
namespace Go.Proofs.YtkdkdhcjpgmjdaaGreatDoor.Jp
open Go.RowKit L
set_option linter.unusedVariables false
set_option linter.unusedSimpArgs false

/-- What the search answers: a place with blanks alone ahead of the value. -/
def SeaPost (S : ByteArray) (o : Nat) (r : Pl) (w : World) (e : Ending) (w' : World) : Prop := (∃ x : Nat, e = .returned (.int .i64 (x : Int)) ∧ o + x ≤ r.b ∧ L.skip isBlank S (o + x) = r.b) ∧ Below w.heap.size w w'
/-- The search's own blocks. -/
structure Fr (w : World) (a b : Bool) (cn : Int) (bi i0 c n g3 g4 g5 : Nat) (wx : World) : Prop where
  cf : CfgAt wx g3 a b cn
  dt : wx.heap[g4]? = some (.cells #[.slice (some ⟨bi, i0, none⟩) n c] 59 (0, 0))
  sb : ∃ cur : List Value, wx.heap[g5]? = some (.cells cur.toArray 133 (0, 0)) ∧ cur.length = 64
  bel : Below w.heap.size w wx
  o3 : w.heap.size ≤ g3
  o4 : g3 < g4
  o5 : g4 < g5
theorem Fr.lt {w : World} {a b : Bool} {cn : Int} {bi i0 c n g3 g4 g5 : Nat} {wx : World} (h : Fr w a b cn bi i0 c n g3 g4 g5 wx) : g5 < wx.heap.size := by
  obtain ⟨cur, h1, -⟩ := h.sb
  exact (Array.getElem?_eq_some_iff.1 h1).1
theorem Fr.below {w : World} {a b : Bool} {cn : Int} {bi i0 c n g3 g4 g5 : Nat} {wx w' : World} (h : Fr w a b cn bi i0 c n g3 g4 g5 wx) (hb : Below wx.heap.size wx w') : Fr w a b cn bi i0 c n g3 g4 g5 w' := by
  have hl := h.lt
  have h4 := h.o4
  have h5 := h.o5
  obtain ⟨cur, h1, h2⟩ := h.sb
  exact ⟨h.cf.below hb, (hb.block g4 (by omega)).trans h.dt, ⟨cur, (hb.block g5 hl).trans h1, h2⟩, h.bel.trans (hb.mono h.bel.size), h.o3, h.o4, h.o5⟩
theorem Fr.set {w : World} {a b : Bool} {cn : Int} {bi i0 c n g3 g4 g5 g : Nat} {wx : World} (h : Fr w a b cn bi i0 c n g3 g4 g5 wx) (hg : g5 < g) (v : Value) : Fr w a b cn bi i0 c n g3 g4 g5 (wx.setCell ⟨g, 0, none⟩ v) := by
  have h3 := h.o3
  have h4 := h.o4
  have h5 := h.o5
  obtain ⟨cur, h1, h2⟩ := h.sb
  exact ⟨(Below.heap_setCell _ _ _ g3 (show g3 ≠ g by omega)).trans h.cf, (Below.heap_setCell _ _ _ g4 (show g4 ≠ g by omega)).trans h.dt, ⟨cur, (Below.heap_setCell _ _ _ g5 (show g5 ≠ g by omega)).trans h1, h2⟩, h.bel.setCell (show w.heap.size ≤ g by omega) _, h.o3, h.o4, h.o5⟩
/-- The name's bytes, behind its escapes, in a box. -/
def NmRel (S : ByteArray) (y : Nat × Nat) (w : World) (a b : Bool) (cn : Int) (bi i0 c n g3 g4 g5 g : Nat) (wx : World) : Prop :=
  ∃ (h7 o7 n7 c7 : Nat) (l : List Int), wx.cell? ⟨g, 0, none⟩ = some (.slice (some ⟨h7, o7, none⟩) n7 c7) ∧ n7 = l.length ∧ Ints wx h7 o7 l ∧ strOfNums l = nameOf S y ∧ Fr w a b cn bi i0 c n g3 g4 g5 wx
set_option maxRecDepth 100000 in
set_option maxHeartbeats 4000000 in
/-- equalStr. -/
theorem eqStrW (g h o n c : Nat) (l : List Int) (key : ByteArray) (w : World) (hg : w.cell? ⟨g, 0, none⟩ = some (.slice (some ⟨h, o, none⟩) n c)) (hn : n = l.length) (hl : Ints w h o l) :
    Calls Tryz.prog 95 #[.pointer (some ⟨g, 0, none⟩), .string key] w fun e w' => e = .returned (.bool (decide (strOfNums l = key))) ∧ w = w' := by
  subst hn
  have hcv := run_convert_bytes_arg w 59 5 Tryz.underlying59 Tryz.underlying5 h o l.length c l rfl hl 9 Tryz.underlying9
  go_enter Tryz.func95, Tryz.ntmps95
  go_wp2
  go_ret
  refine ⟨?_, rfl⟩
  have e : ((strOfNums l).toList == key.toList) = decide (strOfNums l = key) := by
    by_cases he : strOfNums l = key
    · rw [he]; simp
    · rw [decide_eq_false he, beq_eq_false_iff_ne]
      exact fun h2 => he (toList_inj h2)
  rw [← e]
  rfl
/-- A frame of which some slots are given. -/
theorem frame_intro {R : (Nat → Value) → Prop} {a : Act} {F : (Nat → Value) → Act} (h : R (fun i => a.tmps.getD i undef)) (e : a = F (fun i => a.tmps.getD i undef)) : ∃ us, R us ∧ a = F us := ⟨_, h, e⟩
/-- A window of a text. -/
theorem win_bt {S : ByteArray} {o W : Nat} (hW : W ≤ S.size) {j : Nat} (hj : o + j < W) : bt (S.extract o W) (j : Nat) = bt S ((o + j : Nat) : Int) := by
  rw [bt_ext _ _ _ _ (by omega) (by rw [size_ext]; omega)]
  congr 1
theorem win_size {S : ByteArray} {o W : Nat} (hW : W ≤ S.size) : (S.extract o W).size = W - o := by rw [size_ext]; omega
theorem nls_mono {s : ByteArray} {i j k : Nat} (h : Nls s i k) (hij : i ≤ j) : Nls s j k := fun m a b => h m (by omega) b
theorem cell_rd {w : World} {bi i0 j : Nat} {t : ByteArray} (h : Rd w (some ⟨bi, i0, none⟩) t) (hj : j < t.size) : w.cell? ⟨bi, i0 + j, none⟩ = some (.int .u8 (bt t (j : Nat))) := by
  have e1 : (⟨bi, i0, none⟩ : Addr).add j = ⟨bi, i0 + j, none⟩ := by unfold Addr.add; split <;> simp_all
  rw [← e1]
  obtain ⟨ad, e, -, hc⟩ := h (by omega)
  injection e with e
  subst e
  exact hc j hj
theorem rd_in {w : World} {bi i0 c k o W : Nat} {S : ByteArray} (h : Rd w (some ⟨bi, i0, none⟩) (S.extract o W)) (hW : W ≤ S.size) (hc : W - o ≤ c) (hk : ¬ c = k) (ho : o + k ≤ W) : Rd w (some ⟨bi, i0 + k, none⟩) (S.extract (o + k) W) := by
  have := rd_ite (c := c) (k := k) h (by rw [win_size hW]; omega) (by rw [if_neg hk])
  rwa [win_size hW, ByteArray.extract_extract, show min (o + (W - o)) W = W by omega] at this
theorem win_cell {w : World} {bi i0 o W k : Nat} {S : ByteArray} (h : Rd w (some ⟨bi, i0, none⟩) (S.extract o W)) (hW : W ≤ S.size) (hk : o + k < W) : w.cell? ⟨bi, i0 + k, none⟩ = some (.int .u8 (bt S ((o + k : Nat) : Int))) := by
  have := cell_rd h (j := k) (by rw [win_size hW]; omega)
  rwa [win_bt hW hk] at this
/-- Five boxes. -/
theorem five {w3 w8 : World} {v1 v2 v3 v4 v5 : Value} {t1 t2 t3 t4 t5 : TypeId} (h : (((((w3.alloc (.cells #[v1] t1)).alloc (.cells #[v2] t2)).alloc (.cells #[v3] t3)).alloc (.cells #[v4] t4)).alloc (.cells #[v5] t5)) = w8) :
    Below w3.heap.size w3 w8 ∧ w8.heap[w3.heap.size]? = some (.cells #[v1] t1 (0, 0)) ∧ w8.heap[w3.heap.size + 1]? = some (.cells #[v2] t2 (0, 0)) ∧ w8.heap[w3.heap.size + 1 + 1]? = some (.cells #[v3] t3 (0, 0)) ∧
      w8.heap[w3.heap.size + 1 + 1 + 1]? = some (.cells #[v4] t4 (0, 0)) ∧ w8.heap[w3.heap.size + 1 + 1 + 1 + 1]? = some (.cells #[v5] t5 (0, 0)) ∧ w8.heap.size = w3.heap.size + 5 := by
  obtain ⟨u4, h4⟩ : ∃ u, w3.alloc (.cells #[v1] t1) = u := ⟨_, rfl⟩
  obtain ⟨u5, h5⟩ : ∃ u, u4.alloc (.cells #[v2] t2) = u := ⟨_, rfl⟩
  obtain ⟨u6, h6⟩ : ∃ u, u5.alloc (.cells #[v3] t3) = u := ⟨_, rfl⟩
  obtain ⟨u7, h7⟩ : ∃ u, u6.alloc (.cells #[v4] t4) = u := ⟨_, rfl⟩
  rw [h4, h5, h6, h7] at h
  have z4 : u4.heap.size = w3.heap.size + 1 := by rw [← h4]; simp
  have z5 : u5.heap.size = w3.heap.size + 1 + 1 := by rw [← h5]; simp [z4]
  have z6 : u6.heap.size = w3.heap.size + 1 + 1 + 1 := by rw [← h6]; simp [z5]
  have z7 : u7.heap.size = w3.heap.size + 1 + 1 + 1 + 1 := by rw [← h7]; simp [z6]
  have z8 : w8.heap.size = w3.heap.size + 5 := by rw [← h]; simp [z7]
  have b4 : Below w3.heap.size w3 u4 := by rw [← h4]; exact below_alloc (Below.refl _ _) _
  have b5 : Below u4.heap.size u4 u5 := by rw [← h5]; exact below_alloc (Below.refl _ _) _
  have b6 : Below u5.heap.size u5 u6 := by rw [← h6]; exact below_alloc (Below.refl _ _) _
  have b7 : Below u6.heap.size u6 u7 := by rw [← h7]; exact below_alloc (Below.refl _ _) _
  have b8 : Below u7.heap.size u7 w8 := by rw [← h]; exact below_alloc (Below.refl _ _) _
  have c5 : u5.heap[w3.heap.size + 1]? = some (.cells #[v2] t2 (0, 0)) := by rw [← z4, ← h5]; exact heap_alloc_new _ _
  have c6 : u6.heap[w3.heap.size + 1 + 1]? = some (.cells #[v3] t3 (0, 0)) := by rw [← z5, ← h6]; exact heap_alloc_new _ _
  have c7 : u7.heap[w3.heap.size + 1 + 1 + 1]? = some (.cells #[v4] t4 (0, 0)) := by rw [← z6, ← h7]; exact heap_alloc_new _ _
  have c8 : w8.heap[w3.heap.size + 1 + 1 + 1 + 1]? = some (.cells #[v5] t5 (0, 0)) := by rw [← z7, ← h]; exact heap_alloc_new _ _
  have c4 : u4.heap[w3.heap.size]? = some (.cells #[v1] t1 (0, 0)) := by rw [← h4]; exact heap_alloc_new _ _
  have d78 : Below u6.heap.size u6 w8 := below_of b7 b8
  have d68 : Below u5.heap.size u5 w8 := below_of b6 d78
  have d58 : Below u4.heap.size u4 w8 := below_of b5 d68
  exact ⟨below_of b4 d58, (d58.block _ (by omega)).trans c4, (d68.block _ (by omega)).trans c5, (d78.block _ (by omega)).trans c6, (b8.block _ (by omega)).trans c7, c8, z8⟩
/-- The search over fewer keys. -/
def IH (T : Nat → TypeId) (V : Nat → Value) (S : ByteArray) (r : Pl) (a b : Bool) (cn : Int) (N : Nat) : Prop :=
  ∀ (W o : Nat) (kd : List ByteArray) (bi i0 c n : Nat) (A : Option Addr) (nk ck : Nat) (Bk : Nat → Prop) (w : World), kd.length < N → Rd w (some ⟨bi, i0, none⟩) (S.extract o W) → n = W - o → W ≤ S.size → n ≤ c → Row w Bk 1 A nk ck (keysV kd) → Tb w → Errs T V w → Stand S W kd r 0 0 true o →
    Calls Tryz.prog 78 #[.agg #[.bool a, .bool b, .int .i64 cn], .slice (some ⟨bi, i0, none⟩) n c, .slice A nk ck] w (SeaPost S o r w)
set_option maxRecDepth 100000 in
set_option maxHeartbeats 4000000 in
/-- The search without keys. -/
theorem sea0W (a b : Bool) (cn : Int) (B A : Option Addr) (n c ck : Nat) (w : World) :
    Calls Tryz.prog 78 #[.agg #[.bool a, .bool b, .int .i64 cn], .slice B n c, .slice A 0 ck] w fun e w' => e = .returned (.int .i64 0) ∧ Below w.heap.size w w' := by
  go_enter Tryz.func78, Tryz.ntmps78
  go_wp2
  go_ret
  refine ⟨rfl, ?_⟩
  exact below_of (below_alloc (Below.refl _ _) _) (below_alloc (Below.refl _ _) _)
set_option maxRecDepth 100000 in
set_option maxHeartbeats 16000000 in
theorem seaW (T : Nat → TypeId) (V : Nat → Value) (S : ByteArray) (W o : Nat) (kd : List ByteArray) (r : Pl) (a b : Bool) (cn : Int) (bi i0 c n : Nat) (A : Option Addr) (nk ck : Nat) (Bk : Nat → Prop) (w : World)
    (hR : Rd w (some ⟨bi, i0, none⟩) (S.extract o W)) (hn : n = W - o) (hS : S.size ≤ 1000000) (hWS : W ≤ S.size) (hc : n ≤ c) (hK : Row w Bk 1 A nk ck (keysV kd)) (hT : Tb w) (hE : Errs T V w) (hIH : IH T V S r a b cn kd.length) (hkn : kd.length ≤ 2147483647) (h0 : Stand S W kd r 0 0 true o) :
    Calls Tryz.prog 78 #[.agg #[.bool a, .bool b, .int .i64 cn], .slice (some ⟨bi, i0, none⟩) n c, .slice A nk ck] w (SeaPost S o r w) := by
  have hln : nk = kd.length := (keys_len hK).1
  have HLN := Lib.hid hln
  have HN := Lib.hid hn
  have HKN := Lib.hid hkn
  have hl0 : 0 < kd.length := by
    obtain ⟨c0, -, -, h⟩ := h0
    cases h with
    | path h => exact h
  have hnz : ((nk : Int) == 0) = false := by rw [beq_eq_false_iff_ne]; omega
  have how : o < W := by obtain ⟨c0, h1, -, h⟩ := h0; have := core_lt h; omega
  obtain ⟨w1, hw1⟩ : ∃ w1, w.alloc (.cells #[.bool a, .bool b, .int .i64 cn] 97) = w1 := ⟨_, rfl⟩
  obtain ⟨w2, hw2⟩ : ∃ w2, w1.alloc (.cells #[.slice (some ⟨bi, i0, none⟩) n c] 59) = w2 := ⟨_, rfl⟩
  have hb1 : Below w.heap.size w w1 := by rw [← hw1]; exact below_alloc (Below.refl _ _) _
  have hb2 : Below w1.heap.size w1 w2 := by rw [← hw2]; exact below_alloc (Below.refl _ _) _
  have hz1 : w.heap.size < w1.heap.size := by rw [← hw1]; simp
  have hz2 : w1.heap.size < w2.heap.size := by rw [← hw2]; simp
  have hcf1 : CfgAt w1 w.heap.size a b cn := by rw [← hw1]; exact CfgAt.new _ _ _ _
  have hdt2 : w2.heap[w1.heap.size]? = some (.cells #[.slice (some ⟨bi, i0, none⟩) n c] 59 (0, 0)) := by rw [← hw2]; exact heap_alloc_new _ _
  have hF : ∀ Z : List Value, Z.length = 64 → Fr w a b cn bi i0 c n w.heap.size w1.heap.size w2.heap.size (w2.alloc (.cells Z.toArray 133)) := fun Z hZ => by
    have hb3 := below_alloc (Below.refl w2.heap.size w2) (.cells Z.toArray 133)
    exact ⟨(hcf1.below hb2).below hb3, (hb3.block _ hz2).trans hdt2, ⟨Z, heap_alloc_new _ _, hZ⟩, below_of (below_of hb1 hb2) hb3, Nat.le_refl _, hz1, hz2⟩
  have HF := Lib.hid hF
  have HR := Lib.hid hR
  have HK := Lib.hid hK
  have HT := Lib.hid hT
  have HE := Lib.hid hE
  have HIH := Lib.hid hIH
  have H0 := Lib.hid h0
  have hdc2 : w2.cell? ⟨w1.heap.size, 0, none⟩ = some (.slice (some ⟨bi, i0, none⟩) n c) := cell_of_row w2 w1.heap.size 0 _ _ _ hdt2
  have h0n : 0 < nk := by omega
  have hn1 : o + n ≤ W := by omega
  have hn2 : W ≤ o + n := by omega
  clear hln hn hkn hF hR hK hT hE hIH h0 hb1 hb2 hcf1 hdt2
  go_enter Tryz.func78, Tryz.ntmps78
  go_wp2
  refine wp_loop_ghost_k (fun d a' wx => ∃ us : Nat → Value, (∃ (kl l x : Nat) (lm : Bool), us 7 = .int .i64 (kl : Int) ∧ us 8 = .int .i64 (l : Int) ∧ us 9 = .int .i64 (x : Int) ∧ us 12 = .bool lm ∧ Stand S W kd r l kl lm (o + x) ∧ W - (o + x) ≤ d ∧ Fr w a b cn bi i0 c n w.heap.size w1.heap.size w2.heap.size wx) ∧
    a' = ⟨#[us 0, us 1, .slice A nk ck, .pointer (some ⟨w.heap.size, 0, none⟩), .pointer (some ⟨w1.heap.size, 0, none⟩), us 5, us 6, us 7, us 8, us 9, .int .i64 (n : Int), .int .i64 (nk : Int), us 12, .pointer (some ⟨w2.heap.size, 0, none⟩), us 14, us 15, us 16, us 17, us 18, us 19, us 20, us 21, us 22, us 23, us 24, us 25, us 26, us 27, us 28, us 29, us 30, us 31, us 32, us 33, us 34, us 35, us 36, us 37, us 38, us 39, us 40, us 41, us 42, us 43, us 44, us 45, us 46, us 47, us 48, us 49, us 50, us 51, us 52, us 53, us 54, us 55, us 56, us 57, us 58, us 59, us 60, us 61, us 62, us 63, us 64, us 65, us 66, us 67, us 68, us 69, us 70, us 71, us 72, us 73, us 74, us 75, us 76, us 77, us 78, us 79, us 80, us 81, us 82, us 83, us 84, us 85, us 86, us 87, us 88, us 89, us 90, us 91, us 92, us 93, us 94, us 95, us 96, us 97, us 98, us 99, us 100, us 101, us 102, us 103, us 104, us 105, us 106, us 107, us 108, us 109, us 110, us 111, us 112, us 113, us 114, us 115, us 116, us 117, us 118, us 119, us 120, us 121, us 122, us 123, us 124, us 125, us 126, us 127, us 128, us 129, us 130, us 131, us 132, us 133, us 134, us 135, us 136, us 137, us 138, us 139, us 140, us 141, us 142, us 143, us 144, us 145, us 146, us 147, us 148, us 149, us 150, us 151, us 152, us 153, us 154, us 155, us 156, us 157, us 158, us 159, us 160, us 161, us 162, us 163, us 164, us 165, us 166, us 167, us 168, us 169, us 170, us 171, us 172, us 173, us 174, us 175, us 176, us 177, us 178, us 179, us 180, us 181, us 182, us 183, us 184, us 185, us 186, us 187, us 188, us 189, us 190, us 191, us 192, us 193, us 194, us 195, us 196, us 197, us 198, us 199, us 200, us 201, us 202, us 203, us 204, us 205, us 206, us 207, us 208, us 209, us 210, us 211, us 212, us 213, us 214, us 215, us 216, us 217, us 218, us 219, us 220, us 221, us 222, us 223, us 224, us 225, us 226, us 227, us 228, us 229, us 230, us 231, us 232, us 233, us 234, us 235, us 236, us 237, us 238, us 239, us 240, us 241, us 242, us 243, us 244, us 245, us 246, us 247, us 248, us 249, us 250, us 251, us 252, us 253, us 254, us 255, us 256, us 257, us 258, us 259, us 260, us 261, us 262, us 263, us 264, us 265, us 266, us 267, us 268, us 269, us 270, us 271, us 272, us 273, us 274, us 275, us 276, us 277, us 278, us 279, us 280, us 281, us 282], []⟩) (n + 1) ?atStart ?round
  case atStart => exact frame_intro ⟨0, 0, 0, true, rfl, rfl, rfl, rfl, H0.out, by omega, HF.out (List.replicate 64 (.int .u8 0)) rfl⟩ (by kernel_rfl)
  case round =>
    intro gk _ wr hinv
    obtain ⟨us, ⟨kl, l, x, lm, hu7, hu8, hu9, hu12, hst, hd, hfr⟩, ha⟩ := hinv
    rw [hu7, hu8, hu9, hu12] at ha
    subst ha
    (try dsimp only)
    intro _ _ _ _
    clear hu7 hu8 hu9 hu12
    obtain ⟨cc, hac, hnl, hco⟩ := hst
    have hcw := core_lt hco
    have HNL := Lib.hid hnl
    have HCO := Lib.hid hco
    have HD := Lib.hid hd
    have HFR := Lib.hid hfr
    have HRr := Lib.hid (HR.out.below hfr.bel)
    have hdt := hfr.dt
    have hdc : wr.cell? ⟨w1.heap.size, 0, none⟩ = some (.slice (some ⟨bi, i0, none⟩) n c) := cell_of_row wr w1.heap.size 0 _ _ _ hdt
    have hxn : (x : Int) < (n : Int) := by (go_light; omega)
    clear hnl hco hd hfr hdt
    go_upto_block 2 with (fail)
    go_cut [9] (fun v9 wx => ∃ j : Nat, v9 = .int .i64 (j : Int) ∧ wr = wx ∧ x ≤ j ∧ o + j ≤ cc)
    case first =>
      as_aux_lemma =>
        go_wp2_with (fail)
        go_loopg [9] (n + 1) (fun d v9 wx => ∃ j : Nat, v9 = .int .i64 (j : Int) ∧ wr = wx ∧ x ≤ j ∧ o + j ≤ cc ∧ n - j ≤ d)
        case atStart => exact ⟨x, rfl, rfl, Nat.le_refl _, hac, by (go_light; omega)⟩
        case round =>
          obtain ⟨j, rfl, hwx, hxj, hjc, hjd⟩ := hrel
          subst hwx
          have HJD := Lib.hid hjd
          clear hjd
          have hjn : (j : Int) < (n : Int) := by (go_light; omega)
          have hj0 : (0 : Int) ≤ (j : Int) := by (go_light; omega)
          have hcell := cell_rd HRr.out (j := j) (by rw [win_size hWS]; (go_light; omega))
          rw [win_bt hWS (by (go_light; omega))] at hcell
          have hbr := bt_range S ((o + j : Nat) : Int)
          have hbq : o + j < cc → nln (bt S ((o + j : Nat) : Int)) = true := fun h => HNL.out _ (by (go_light; omega)) h
          obtain ⟨z, hz⟩ : ∃ z, bt S ((o + j : Nat) : Int) = z := ⟨_, rfl⟩
          rw [hz] at hcell hbr hbq
          have hzc : ¬ o + j < cc → z = 34 ∨ z = 91 ∨ z = 123 := fun h => by
            have e : o + j = cc := by (go_light; omega)
            rw [e] at hz
            rcases core_inv hWS HCO.out with ⟨-, -, p, n, off, hp⟩ | ⟨-, y, key, hy⟩ | ⟨-, -, e2, k, k4, k6, hv⟩
            · rcases hp.two with h5 | h6
              · right; left
                rw [← hz]
                have hv := vok _ _ _ _ (by have := hp.rd.2.1; (go_light; omega)) hp.rd.2.2.1
                rw [← hp.rd.2.2.2.1, hp.b] at hv
                exact (hv.2.2.2.2.2.1 h5).1
              · right; right
                rw [← hz]; exact (hp.obj h6).1
            · left; rw [← hz]; exact hy.q
            · rcases (by (go_light; omega) : k = 4 ∨ k = 5 ∨ k = 6) with rfl | rfl | rfl
              · left; rw [← hz]; exact (hv.str rfl).1
              · right; left; rw [← hz]; exact (hv.arr rfl).1
              · right; right; rw [← hz]; exact (hv.obj rfl).1
          have HBQ := Lib.hid hbq
          have HZC := Lib.hid hzc
          clear hz hbq hzc
          by_cases h32 : z ≤ 32
          · have hlt : o + j < cc := by
              rcases Nat.lt_or_ge (o + j) cc with h | h
              · exact h
              · have := HZC.out (by (go_light; omega)); (go_light; omega)
            go_wp2
            go_roundg (gk - 1)
            case measure => have := HJD.out; (go_light; omega)
            case rel => exact ⟨j + 1, by go_num, rfl, by (go_light; omega), by (go_light; omega), by have := HJD.out; (go_light; omega)⟩
          · by_cases h92 : 92 < z
            · by_cases h123 : z = 123
              · subst h123
                go_wp2
                go_meet
                case rel => exact ⟨j, rfl, rfl, hxj, hjc⟩
              · by_cases h125 : z = 125
                · subst h125
                  go_wp2
                  go_meet
                  case rel => exact ⟨j, rfl, rfl, hxj, hjc⟩
                · have hlt : o + j < cc := by
                    rcases Nat.lt_or_ge (o + j) cc with h | h
                    · exact h
                    · have := HZC.out (by (go_light; omega)); (go_light; omega)
                  have g1 : (z != 123) = true := bne_iff_ne.2 h123
                  have g2 : (z != 125) = true := bne_iff_ne.2 h125
                  go_wp2
                  go_roundg (gk - 1)
                  case measure => have := HJD.out; (go_light; omega)
                  case rel => exact ⟨j + 1, by go_num, rfl, by (go_light; omega), by (go_light; omega), by have := HJD.out; (go_light; omega)⟩
            · go_wp2
              go_meet
              case rel => exact ⟨j, rfl, rfl, hxj, hjc⟩
    case rest =>
      obtain ⟨j, rfl, hwx, hxj, hjc⟩ := hcut
      subst hwx
      have hjn : (j : Int) < (n : Int) := by (go_light; omega)
      have hj0 : (0 : Int) ≤ (j : Int) := by (go_light; omega)
      have hcell := cell_rd HRr.out (j := j) (by rw [win_size hWS]; (go_light; omega))
      rw [win_bt hWS (by (go_light; omega))] at hcell
      have hcf := HFR.out.cf
      have j0 := hcf.c0
      have j1 := hcf.c1
      have j2 := hcf.c2
      have e1 : IntKind.i64.wrap ((j : Int) + 1) = (j : Int) + 1 := IntWalk.i64_in _ (by (go_light; omega))
      clear hcf
      by_cases hlt : o + j < cc
      · have hz := HNL.out _ (by (go_light; omega)) hlt
        as_aux_lemma =>
          simp only [nln, Bool.and_eq_true, decide_eq_true_eq] at hz
          obtain ⟨z, hzz⟩ : ∃ z, bt S ((o + j : Nat) : Int) = z := ⟨_, rfl⟩
          rw [hzz] at hcell hz
          clear hzz
          obtain ⟨⟨⟨⟨⟨z34, z39⟩, z91⟩, z58⟩, z123⟩, z125⟩ := hz
          have b34 : (z == 34) = false := beq_eq_false_iff_ne.2 z34
          have b39 : (z == 39) = false := beq_eq_false_iff_ne.2 z39
          have b91 : (z == 91) = false := beq_eq_false_iff_ne.2 z91
          have b58 : (z == 58) = false := beq_eq_false_iff_ne.2 z58
          have b123 : (z == 123) = false := beq_eq_false_iff_ne.2 z123
          have b125 : (z == 125) = false := beq_eq_false_iff_ne.2 z125
          go_wp2
          refine Handed.intro (gk - 1) ?measure ?_
          rotate_left
          go_step
          refine frame_intro ?rel (by kernel_rfl)
          case measure => have := HD.out; (go_light; omega)
          case rel => exact ⟨kl, l, j + 1, lm, rfl, rfl, rfl, rfl, ⟨cc, by (go_light; omega), nls_mono HNL.out (by (go_light; omega)), HCO.out⟩, by have := HD.out; (go_light; omega), HFR.out⟩
      have hcj : o + j = cc := by (go_light; omega)
      rcases core_inv hWS HCO.out with ⟨hl, hlm2, p, pn, poff, hp⟩ | ⟨hl, y, key, hy⟩ | ⟨hl, hlm2, e2, k, k4, k6, hv⟩
      · rcases hp.two with h5 | h6
        · skip
          as_aux_lemma =>
            obtain ⟨key, i, q, nf, a1, a2, a3, a4, a5, a6, a7, a8, a9, a10, a11, a12, a13, a14, a15, hrS⟩ := path_arr hWS hp h5
            subst hl hlm2
            rw [hcj, a4] at hcell
            obtain ⟨b1, b2, b3, b4, b5⟩ := atoi_brk a2 (by clear a5; (go_light; omega))
            obtain ⟨adk, rfl, hadl, hkc⟩ := keyAt HK.out a1
            have hll := (List.getElem?_eq_some_iff.1 a1).1
            have hkl2 : (l : Int) < (nk : Int) := by have := HLN.out; clear a5; (go_light; omega)
            have hkl0 : (0 : Int) ≤ (l : Int) := by clear a5; (go_light; omega)
            have hki : wr.cell? (adk.add l) = some (.string key) := ((HFR.out.bel).cell (p := adk.add l) (by rw [add_block]; exact hadl)).trans hkc
            have x0 : ∀ h : 0 < key.size, ((key[0]'h).toNat : Int) = 91 := fun h => (bt_at key 0 h).trans b3
            have x1 : ∀ h : key.size - 1 < key.size, ((key[key.size - 1]'h).toNat : Int) = 93 := fun h => (bt_at key (key.size - 1) h).trans b4
            have hA5 := Lib.hid a5
            have hA6 := Lib.hid a6
            have hA13 := Lib.hid a13
            have hA14 := Lib.hid a14
            have hA15 := Lib.hid a15
            have hA3 := Lib.hid a3
            have hA4 := Lib.hid a4
            have hATO := Lib.hid (fun W' => Tryz.strconv_Atoi (key.extract 1 (key.size - 1)) (i : Int) (by rw [size_ext]; (go_light; omega)) b5 W')
            clear a1 a2 a3 a4 a5 a6 a13 a14 a15 b3 b4 b5 hkc hp h5
            have d1 : ((key.size : Int) - 1).toNat = key.size - 1 := by (go_light; omega)
            have d2 : (0 : Int) ≤ (key.size : Int) - 1 := by (go_light; omega)
            have d3 : (key.size : Int) - 1 < (key.size : Int) := by (go_light; omega)
            have d4 : (key.size : Int) - 1 ≤ (key.size : Int) := by (go_light; omega)
            have d5 : (1 : Int) ≤ (key.size : Int) - 1 := by (go_light; omega)
            have d6 : key.size - 1 < key.size := by (go_light; omega)
            have d7 : 0 < key.size := by (go_light; omega)
            go_upto_region 78 with (first
              | (go_at_call 96; (with_reducible refine (hATO.out _).mono ?_); rintro e w3 ⟨rfl, t3, hw3⟩; replace hw3 := Lib.hid hw3))
            have hbw : Below wr.heap.size wr w3 := by rw [hw3.out]; exact bytesWorld_below _ _ _
            have h5w := HFR.out.lt
            have h3w : wr.heap.size ≤ w3.heap.size := hbw.size
            have hwr : w.heap.size ≤ wr.heap.size := HFR.out.bel.size
            have hbiw : bi < w.heap.size := by
              obtain ⟨ad, e, hl, -⟩ := HR.out (by rw [win_size hWS]; (go_light; omega))
              injection e with e
              subst e
              exact hl
            obtain ⟨w8, hw8⟩ : ∃ w8, (((((w3.alloc (.cells #[.int .i64 (i : Int)] 3)).alloc (.cells #[.int .i64 0] 3)).alloc (.cells #[.slice none 0 0] 59)).alloc (.cells #[.int .i64 0] 3)).alloc (.cells #[.int .i64 (j : Int)] 3)) = w8 := ⟨_, rfl⟩
            obtain ⟨f0, f1, f2, f3, f4, f5, f6⟩ := five hw8
            have hb8 : Below wr.heap.size wr w8 := below_of hbw f0
            have hfr8 := HFR.out.below hb8
            have HFR8 := Lib.hid hfr8
            have hcf8 := hfr8.cf
            have j0 := hcf8.c0
            have j1 := hcf8.c1
            have j2 := hcf8.c2
            have hdc8 : w8.cell? ⟨w1.heap.size, 0, none⟩ = some (.slice (some ⟨bi, i0, none⟩) n c) := cell_of_row w8 w1.heap.size 0 _ _ _ hfr8.dt
            have hRd8 := HR.out.below hfr8.bel
            obtain ⟨gA, hgA⟩ : ∃ g, w3.heap.size = g := ⟨_, rfl⟩
            obtain ⟨gI, hgI⟩ : ∃ g, w3.heap.size + 1 = g := ⟨_, rfl⟩
            obtain ⟨gF, hgF⟩ : ∃ g, w3.heap.size + 1 + 1 = g := ⟨_, rfl⟩
            obtain ⟨gO, hgO⟩ : ∃ g, w3.heap.size + 1 + 1 + 1 = g := ⟨_, rfl⟩
            obtain ⟨gC, hgC⟩ : ∃ g, w3.heap.size + 1 + 1 + 1 + 1 = g := ⟨_, rfl⟩
            rw [hgC] at f5
            rw [hgO] at f4
            rw [hgF] at f3
            rw [hgI] at f2
            rw [hgA] at f1
            have o12 : gA < gI := by (go_light; omega)
            have o23 : gI < gF := by (go_light; omega)
            have o34 : gF < gO := by (go_light; omega)
            have o45 : gO < gC := by (go_light; omega)
            have o56 : gC < w8.heap.size := by (go_light; omega)
            have o01 : w2.heap.size < gA := by (go_light; omega)
            have oo1 := hfr8.o4
            have oo2 := hfr8.o5
            have HRj := Lib.hid (show Rd w8 (some ⟨bi, i0 + j, none⟩) (S.extract cc W) by
              have := rd_ite (c := c) (k := j) hRd8 (by rw [win_size hWS]; (go_light; omega)) (by rw [if_neg (by (go_light; omega))])
              rwa [win_size hWS, ByteArray.extract_extract, hcj, show min (o + (W - o)) W = W by (go_light; omega)] at this)
            have HBEL8 := Lib.hid hfr8.bel
            have HEk := Lib.hid (show ∀ w', Kp (NX gI gF gO) w8.drew w' → Errs T V w' from fun w' hk => by
              have hg : ∀ (g : Nat) (t : TypeId) (v : Value), Gl w g t v → Gl w' g t v := fun g t v h =>
                ⟨by have := h.1; have := hk.size; have h2 : w8.drew.heap.size = w8.heap.size := rfl; (go_light; omega),
                  (World.cell?_of_block ((hk.block g (show NX gI gF gO g from ⟨by have := h.1; (go_light; omega), by have := h.1; (go_light; omega), by have := h.1; (go_light; omega)⟩) (by have := h.1; have h2 : w8.drew.heap.size = w8.heap.size := rfl; (go_light; omega))).trans (HBEL8.out.block g h.1))).trans h.2⟩
              exact ⟨hg _ _ _ HE.out.e1, hg _ _ _ HE.out.e2, hg _ _ _ HE.out.e3, hg _ _ _ HE.out.e4, hg _ _ _ HE.out.e5, hg _ _ _ HE.out.e6⟩)
            have HCB0 := Lib.hid (show Cb S cc i gI gF gO q 0 w8.drew from ⟨f2, ⟨0, f4, fun h => absurd h (by (go_light; omega))⟩, ⟨.slice none 0 0, f3, fun _ => rfl, fun h => absurd h (by (go_light; omega))⟩⟩)
            have HEW := Lib.hid (show Calls Tryz.prog 97 #[.agg #[.bool a, .bool b, .int .i64 cn], .slice (some ⟨bi, i0 + j, none⟩) (n - j) (c - j), .func (.func 98) #[] #[.pointer (some ⟨gI, 0, none⟩), .pointer (some ⟨gA, 0, none⟩), .pointer (some ⟨gF, 0, none⟩), .pointer (some ⟨gO, 0, none⟩), .pointer (some ⟨w1.heap.size, 0, none⟩), .pointer (some ⟨gC, 0, none⟩)], .slice none 0 0] w8.drew
                fun e w' => (∃ v, e = .returned v) ∧ Cb S cc i gI gF gO q p.kids.length w' ∧ Kp (NX gI gF gO) w8.drew w' from
              eachW T V S cc W p.e nf p.kids q i gI gA gF gO w1.heap.size gC bi i0 n c j (i0 + j) (n - j) (c - j) a b cn w8.drew hS hWS (by (go_light; omega)) rfl rfl (by (go_light; omega)) hc (by (go_light; omega)) (by (go_light; omega))
                hA4.out hA5.out hA6.out (by (go_light; omega)) (by (go_light; omega)) HRj.out.drew (HEk.out _ (Kp.refl _ _)) HEk.out
                (cell_of_row w8 gA 0 _ _ _ f1) hdc8 (cell_of_row w8 gC 0 _ _ _ f5) (by (go_light; omega)) (by (go_light; omega)) (by (go_light; omega))
                ⟨by (go_light; omega), by (go_light; omega), by (go_light; omega)⟩ ⟨by (go_light; omega), by (go_light; omega), by (go_light; omega)⟩ ⟨by (go_light; omega), by (go_light; omega), by (go_light; omega)⟩ ⟨by (go_light; omega), by (go_light; omega), by (go_light; omega)⟩
                (show gA < w8.heap.size by (go_light; omega)) (show w1.heap.size < w8.heap.size by (go_light; omega)) o56 (show gI < w8.heap.size by (go_light; omega)) (show gF < w8.heap.size by (go_light; omega)) (show gO < w8.heap.size by (go_light; omega)) HCB0.out hA3.out)
            have hcn : ¬ c = j := by (go_light; omega)
            have hjle : (j : Int) ≤ (n : Int) := by (go_light; omega)
            clear f0 f1 f2 f3 f4 f5 hcf8 hfr8 hb8 hbw hRd8
            rw [hgC, hgO, hgF, hgI, hgA, hw8]
            clear hgC hgO hgF hgI hgA hw8
            go_cut [33] (fun v33 wx => Cb S cc i gI gF gO q p.kids.length wx ∧ Kp (NX gI gF gO) w8 wx)
            case first =>
              as_aux_lemma =>
                go_region_with (first
                  | (go_at_call 97; (with_reducible refine HEW.out.mono ?_); rintro e w9 ⟨⟨v, rfl⟩, hcb9, hk9⟩; replace hcb9 := Lib.hid hcb9; replace hk9 := Lib.hid hk9))
                all_goals
                  go_wp2_with (fail)
                  (try simp only [Act.put, List.getElem_toArray, List.getElem_cons_succ, List.getElem_cons_zero, List.setIfInBounds_toArray, List.set_cons_zero, List.set_cons_succ])
                  go_meet
                  case rel => exact ⟨hcb9.out, hk9.out.drew⟩
            case rest =>
              obtain ⟨hcb9, hk9⟩ := hcut
              obtain ⟨w9, hw9⟩ : ∃ x, x = wc := ⟨_, rfl⟩
              subst hw9
              have hikl := (List.getElem?_eq_some_iff.1 hA3.out).1
              obtain ⟨vf, hvf, -, hvf2⟩ := hcb9.f
              obtain ⟨b', i', n', c', rfl, hn', hc', hb', -, -, -, hr9⟩ := hvf2 hikl
              obtain ⟨xo, hxo, hxo2⟩ := hcb9.o
              obtain ⟨dq, hdq⟩ : ∃ dq, q.b - cc = dq := ⟨_, rfl⟩
              rw [hdq] at hxo2
              obtain rfl := hxo2 hikl
              have hcF : w9.cell? ⟨gF, 0, none⟩ = some (.slice (some ⟨b', i', none⟩) n' c') := cell_of_row w9 gF 0 _ _ _ hvf
              have hdqe : cc + dq = q.b := by (go_light; omega)
              have hbel9 : Below w.heap.size w w9 := ⟨hk9.os.trans HBEL8.out.os, hk9.tape.trans HBEL8.out.tape, hk9.output.trans HBEL8.out.output, Nat.le_trans HBEL8.out.size hk9.size, fun g hg => (hk9.block g (show NX gI gF gO g from ⟨by (go_light; omega), by (go_light; omega), by (go_light; omega)⟩) (Nat.lt_of_lt_of_le hg HBEL8.out.size)).trans (HBEL8.out.block g hg)⟩
              have hcf9 : CfgAt w9 w.heap.size a b cn := (hk9.block _ (show NX gI gF gO w.heap.size from ⟨by (go_light; omega), by (go_light; omega), by (go_light; omega)⟩) (by (go_light; omega))).trans HFR8.out.cf
              have j0 := hcf9.c0
              have j1 := hcf9.c1
              have j2 := hcf9.c2
              have HXO := Lib.hid hxo
              have HBEL9 := Lib.hid hbel9
              obtain ⟨A2, hA2⟩ : ∃ A2, (if ck = l + 1 then some adk else some (⟨adk.block, adk.off + (l + 1), none⟩ : Addr)) = A2 := ⟨_, rfl⟩
              have hqS : q.e ≤ S.size := by (go_light; omega)
              have HSUB := Lib.hid (show Calls Tryz.prog 78 #[.agg #[.bool a, .bool b, .int .i64 cn], .slice (some ⟨b', i', none⟩) n' c', .slice A2 (nk - (l + 1)) (ck - (l + 1))] w9.drew
                  fun e w' => (∃ y : Nat, e = .returned (.int .i64 (y : Int)) ∧ q.b + y ≤ r.b ∧ L.skip isBlank S (q.b + y) = r.b) ∧ Below w9.heap.size w9 w' from by
                by_cases hlast : kd.drop (l + 1) = []
                · have hz : nk - (l + 1) = 0 := by
                    have h1 := congrArg List.length hlast
                    have h2 := HLN.out
                    rw [List.length_drop] at h1
                    simp only [List.length_nil] at h1
                    (go_light; omega)
                  rw [hz]
                  refine (sea0W a b cn _ _ _ _ _ _).mono ?_
                  rintro e w' ⟨rfl, hb⟩
                  have hrq := hA14.out hlast
                  exact ⟨⟨0, rfl, by rw [hrq]; exact Nat.le_refl _, by rw [hrq, Nat.add_zero]; exact hA15.out⟩, below_drew_one hb⟩
                · have hlen : l + 1 < kd.length := by
                    rcases Nat.lt_or_ge (l + 1) kd.length with h | h
                    · exact h
                    · exact absurd (List.drop_eq_nil_of_le h) hlast
                  have hkt := keysTail (l := l) (HK.out.keep (.of_below HBEL9.out)) (by have := HLN.out; (go_light; omega))
                  have hnck : ¬ ck = l + 1 := by have h1 := HK.out.2.1; have h2 := HLN.out; (go_light; omega)
                  rw [if_neg hnck] at hkt hA2
                  rw [← hA2, ← add_off _ _ (by omega)]
                  refine (HIH.out q.e q.b (kd.drop (l + 1)) b' i' c' n' _ _ _ Bk w9.drew (by rw [List.length_drop]; omega) hr9.drew hn' hqS hc' (hkt.keep (.drewN _ _ 1)) (HT.out.below (w' := w9.drew) ⟨hbel9.os, hbel9.tape, hbel9.output, hbel9.size, hbel9.block⟩) (HEk.out w9.drew ⟨hk9.os, hk9.tape, hk9.output, hk9.size, hk9.block⟩) (hA13.out hlast)).mono ?_
                  rintro e w' ⟨h1, hb⟩
                  exact ⟨h1, below_drew_one hb⟩)
              have m1 : (0 : Int) ≤ (l : Int) + 1 := by (go_light; omega)
              have m2 : (l : Int) + 1 ≤ (nk : Int) := by (go_light; omega)
              have m3 : ((l : Int) + 1).toNat = l + 1 := by (go_light; omega)
              have m4 : IntKind.i64.wrap ((l : Int) + 1) = (l : Int) + 1 := IntWalk.i64_in _ (by have := HKN.out; have := HLN.out; (go_light; omega))
              clear hcb9 hk9 hvf hvf2 hxo hxo2 hn' hr9 hbel9 hcf9
              have heqn : (binOp .eql 59 (.slice (some ⟨b', i', none⟩) n' c') (.slice none 0 0)).run Tryz.prog w9 = .ok (.bool false) w9 := rfl
              go_upto_region 81 with (fail)
              go_cut [33] (fun v33 wx => ∃ y : Nat, v33 = .int .i64 (y : Int) ∧ q.b + y ≤ r.b ∧ L.skip isBlank S (q.b + y) = r.b ∧ Below w9.heap.size w9 wx)
              case first =>
                as_aux_lemma =>
                  go_region_with (first
                    | (go_at_call 78; (with_reducible refine HSUB.out.mono ?_); rintro e w10 ⟨⟨y, rfl, hy1, hy2⟩, hb10⟩; replace hb10 := Lib.hid hb10; replace hy2 := Lib.hid hy2))
                  all_goals
                    go_wp2_with (fail)
                    (try simp only [Act.put, List.getElem_toArray, List.getElem_cons_succ, List.getElem_cons_zero, List.setIfInBounds_toArray, List.set_cons_zero, List.set_cons_succ])
                    go_meet
                    case rel => exact ⟨y, rfl, hy1, hy2.out, hb10.out⟩
              case rest =>
                obtain ⟨y, rfl, hy1, hy2, hb10⟩ := hcut
                obtain ⟨w10, hw10⟩ : ∃ x, x = wc := ⟨_, rfl⟩
                subst hw10
                have hcO : w10.cell? ⟨gO, 0, none⟩ = some (.int .i64 (dq : Int)) := cell_of_row w10 gO 0 _ _ _ ((hb10.block _ (Array.getElem?_eq_some_iff.1 HXO.out).1).trans HXO.out)
                obtain ⟨y1, hy1e⟩ : ∃ y1, j + dq = y1 := ⟨_, rfl⟩
                obtain ⟨y2, hy2e⟩ : ∃ y2, y1 + y = y2 := ⟨_, rfl⟩
                have n1 : IntKind.i64.wrap ((j : Int) + (dq : Int)) = (y1 : Int) := by rw [IntWalk.i64_in _ (by (go_light; omega))]; (go_light; omega)
                have n2 : IntKind.i64.wrap ((y1 : Int) + (y : Int)) = (y2 : Int) := by rw [IntWalk.i64_in _ (by (go_light; omega))]; (go_light; omega)
                have hyS : o + y2 = q.b + y := by (go_light; omega)
                have HY2 := Lib.hid hy2
                have hb11 := Lib.hid (below_of HBEL9.out hb10)
                have HYS := Lib.hid hyS
                clear hy2 hb10 hy1e hy2e hyS
                go_wp2
                go_ret
                exact ⟨⟨y2, rfl, by rw [HYS.out]; exact hy1, by rw [HYS.out]; exact HY2.out⟩, hb11.out⟩
        · skip
          as_aux_lemma =>
            subst hl hlm2
            obtain ⟨ho1, ho2⟩ := hp.obj h6
            have hlt2 := hp.lt
            have e2 : IntKind.i64.wrap ((l : Int) + 1) = (l : Int) + 1 := IntWalk.i64_in _ (by have := HKN.out; (go_light; omega))
            rw [hcj, ho1] at hcell
            have HO2 := Lib.hid ho2
            clear ho1 ho2 hp h6 hlt2
            go_wp2
            refine Handed.intro (gk - 1) ?measure ?_
            rotate_left
            go_step
            refine frame_intro ?rel (by kernel_rfl)
            case measure => have := HD.out; (go_light; omega)
            case rel => exact ⟨l, l + 1, j + 1, true, rfl, rfl, rfl, rfl, by have := HO2.out; rwa [show o + (j + 1) = cc + 1 by (go_light; omega)], by have := HD.out; (go_light; omega), HFR.out⟩
      · skip
        as_aux_lemma =>
          subst hl
          have s1 := hy.q
          have s2 : strAt S cc = some y.2 := hy.str
          have s3 := hy.colon
          have hvl := hy.lt
          have hes := hy.le
          have hle := hy.lw
          have hyk := hy.ky
          have hyh := Lib.hid hy.hit
          have hym := Lib.hid hy.miss
          rw [hcj, s1] at hcell
          have hnm : nameOf S y = strOfNums (unq (S.extract (cc + 1) (y.2 - 1)) 0) := by unfold nameOf; rw [hy.at_]
          have hno : EscOk (S.extract (cc + 1) (y.2 - 1)) 0 := name_ok (x := (cc, y.2)) s2
          have HNO := Lib.hid hno
          obtain ⟨adk, rfl, hadl, hkc⟩ := keyAt HK.out hyk
          have HKC := Lib.hid hkc
          have hkl : kl < kd.length := (List.getElem?_eq_some_iff.1 hyk).1
          have hkn1 : (kl : Int) + 1 ≤ (nk : Int) := by have := HLN.out; (go_light; omega)
          have hkn2 : (kl : Int) < (nk : Int) := by (go_light; omega)
          have hkb := HKN.out
          have g1 : IntKind.i64.wrap ((kl : Int) + 1 - 1) = (kl : Int) := by rw [IntWalk.i64_in _ (by (go_light; omega))]; (go_light; omega)
          have g3 : IntKind.i64.wrap (kl : Int) = (kl : Int) := IntWalk.i64_in _ (by (go_light; omega))
          have g2 : IntKind.i64.wrap ((kl : Int) + 1) = (kl : Int) + 1 := IntWalk.i64_in _ (by (go_light; omega))
          have HNMZ := Lib.hid hnm
          clear hy hyk hno hkc hnm hkb
          obtain ⟨u0, u1, u2⟩ := str_win s1 s2 (W := W) (by (go_light; omega)) hWS
          obtain ⟨q, hq⟩ : ∃ q, y.2 - (cc + 1) = q := ⟨_, rfl⟩
          obtain ⟨p2, hp2⟩ : ∃ p2, j + 1 + q = p2 := ⟨_, rfl⟩
          obtain ⟨q2, hq2⟩ : ∃ q2, L.skip isBlank S y.2 - y.2 = q2 := ⟨_, rfl⟩
          obtain ⟨p3, hp3⟩ : ∃ p3, p2 + q2 = p3 := ⟨_, rfl⟩
          rw [hq] at u1
          have hop2 : o + p2 = y.2 := by (go_light; omega)
          have hop3 : o + p3 = L.skip isBlank S y.2 := by (go_light; omega)
          have hnt : nxt (tx (S.extract y.2 W)) = some q2 := by rw [← hq2]; exact nxt_win hWS hle (by (go_light; omega))
          have hc3 := win_cell (k := p3) HRr.out hWS (by (go_light; omega))
          rw [hop3, s3] at hc3
          have HRa := Lib.hid (show Rd wr (some ⟨bi, i0 + (j + 1), none⟩) (S.extract (cc + 1) W) by
            have := rd_in (k := j + 1) HRr.out hWS (by (go_light; omega)) (c := c) (by (go_light; omega)) (by (go_light; omega))
            rwa [show o + (j + 1) = cc + 1 by (go_light; omega)] at this)
          have HRb := Lib.hid (show Rd wr (some ⟨bi, i0 + p2, none⟩) (S.extract y.2 W) by
            have := rd_in (k := p2) HRr.out hWS (by (go_light; omega)) (c := c) (by (go_light; omega)) (by (go_light; omega))
            rwa [hop2] at this)
          have HU1 := Lib.hid u1
          have HU2 := Lib.hid u2
          have HNT := Lib.hid hnt
          have hca : ¬ c = j + 1 := by (go_light; omega)
          have hcb : ¬ c = p2 := by (go_light; omega)
          have a1 : (0 : Int) ≤ (j : Int) + 1 := by (go_light; omega)
          have a2 : (j : Int) + 1 ≤ (n : Int) := by (go_light; omega)
          have a3 : ((j : Int) + 1).toNat = j + 1 := by (go_light; omega)
          have a4 : (0 : Int) ≤ (p2 : Int) := by (go_light; omega)
          have a5 : (p2 : Int) ≤ (n : Int) := by (go_light; omega)
          have f1 : IntKind.i64.wrap ((j : Int) + 1 + (q : Int)) = (p2 : Int) := by rw [IntWalk.i64_in _ (by (go_light; omega))]; (go_light; omega)
          have f2 : IntKind.i64.wrap ((p2 : Int) - 1) = (p2 : Int) - 1 := IntWalk.i64_in _ (by (go_light; omega))
          have f3 : IntKind.i64.wrap ((p2 : Int) + (q2 : Int)) = (p3 : Int) := by rw [IntWalk.i64_in _ (by (go_light; omega))]; (go_light; omega)
          have f4 : IntKind.i64.wrap ((p3 : Int) - 1) = (p3 : Int) - 1 := IntWalk.i64_in _ (by (go_light; omega))
          have f5 : IntKind.i64.wrap ((p3 : Int) - 1 + 1) = (p3 : Int) := by rw [IntWalk.i64_in _ (by (go_light; omega))]; (go_light; omega)
          have f6 : (p3 : Int) < (n : Int) := by (go_light; omega)
          have f7 : (0 : Int) ≤ (p3 : Int) := by (go_light; omega)
          have hqn : ((q : Int) == -1) = false := by rw [beq_eq_false_iff_ne]; (go_light; omega)
          have hqn2 : ((q2 : Int) == -1) = false := by rw [beq_eq_false_iff_ne]; (go_light; omega)
          have hxp : x ≤ p3 := by (go_light; omega)
          have HQ := Lib.hid hq
          have HP2 := Lib.hid hp2
          have f7 : IntKind.i64.wrap ((p3 : Int) + 1) = (p3 : Int) + 1 := IntWalk.i64_in _ (by (go_light; omega))
          have b1 : ((p2 : Int) - 1).toNat = p2 - 1 := by (go_light; omega)
          have b2 : (j : Int) + 1 ≤ (p2 : Int) - 1 := by (go_light; omega)
          have b3 : (p2 : Int) - 1 ≤ (c : Int) := by (go_light; omega)
          have b4 : (0 : Int) ≤ (p2 : Int) - 1 := by (go_light; omega)
          obtain ⟨m0, hm0⟩ : ∃ m0, p2 - 1 - (j + 1) = m0 := ⟨_, rfl⟩
          obtain ⟨c1, hc1⟩ : ∃ c1, c - (j + 1) = c1 := ⟨_, rfl⟩
          have hmr : (S.extract (cc + 1) (y.2 - 1)).size = m0 := by rw [size_ext]; (go_light; omega)
          have hHRn := fun (W' : World) (hr : Rd W' (some ⟨bi, i0, none⟩) (S.extract o W)) => (show Rd W' (some ⟨bi, i0 + (j + 1), none⟩) (S.extract (cc + 1) (y.2 - 1)) from by
            have h1 := rd_in (k := j + 1) hr hWS (by (go_light; omega)) (c := c) (by (go_light; omega)) (by (go_light; omega))
            rw [show o + (j + 1) = cc + 1 by (go_light; omega)] at h1
            intro h0
            obtain ⟨ad, e, hl, hcc⟩ := h1 (by rw [win_size hWS]; (go_light; omega))
            injection e with e
            subst e
            refine ⟨_, rfl, hl, fun k hk => ?_⟩
            rw [hmr] at hk
            rw [hcc k (by rw [win_size hWS]; (go_light; omega)), win_bt hWS (by (go_light; omega)), win_bt (by (go_light; omega)) (by (go_light; omega))])
          have HRN := Lib.hid hHRn
          clear hHRn u1 u2 hnt s1 s2 hes hq hq2 hp2 hp3
          have HSE := Lib.hid (strQ _ (S.extract (cc + 1) W) (n - (j + 1)) c1 q a b _ cn wr HRa.out (by go_light; rw [win_size hWS]; omega) (by go_light; rw [win_size hWS]; omega) (by go_light; rw [win_size hWS]; omega) HU1.out HU2.out)
          have hbiw : bi < w.heap.size := by
            obtain ⟨ad, e, hl, -⟩ := HR.out (by rw [win_size hWS]; (go_light; omega))
            injection e with e
            subst e
            exact hl
          go_upto_region 25 with (fail)
          go_cut [17, 18] (fun v17 v18 wx => v17 = .int .i64 (q : Int) ∧ v18 = .bool (esc (tx (S.extract (cc + 1) (y.2 - 1)))) ∧ Below wr.heap.size wr wx)
          case first =>
            as_aux_lemma =>
              go_region_with (first
                | (go_at_call 89; (with_reducible refine HSE.out.mono ?_); rintro e w4 ⟨rfl, hb4⟩; replace hb4 := Lib.hid hb4))
              all_goals
                go_wp2_with (fail)
                (try simp only [Act.put, List.getElem_toArray, List.getElem_cons_succ, List.getElem_cons_zero, List.setIfInBounds_toArray, List.set_cons_zero, List.set_cons_succ])
                go_meet
                case rel => exact ⟨rfl, rfl, hb4.out⟩
          case rest =>
            obtain ⟨rfl, rfl, hb4⟩ := hcut
            have hfr4 := HFR.out.below hb4
            have hcf4 := hfr4.cf
            have j0 := hcf4.c0
            have j1 := hcf4.c1
            have j2 := hcf4.c2
            have hdc : wc.cell? ⟨w1.heap.size, 0, none⟩ = some (.slice (some ⟨bi, i0, none⟩) n c) := cell_of_row wc w1.heap.size 0 _ _ _ hfr4.dt
            have HFR4 := Lib.hid hfr4
            have HRb4 := Lib.hid (HRb.out.below hb4)
            clear hcf4 hfr4 hb4
            have HNX5 := Lib.hid (nextQ _ (S.extract y.2 W) (n - p2) (c - p2) q2 a b cn wc HRb4.out (by go_light; rw [win_size hWS]; omega) (by go_light; rw [win_size hWS]; omega) (by go_light; rw [win_size hWS]; omega) HNT.out)
            obtain ⟨w4, hw4⟩ : ∃ x, x = wc := ⟨_, rfl⟩
            subst hw4
            go_upto_region 30 with (fail)
            go_cut [20] (fun v20 wx => v20 = .int .i64 (q2 : Int) ∧ Below w4.heap.size w4 wx)
            case first =>
              as_aux_lemma =>
                go_region_with (first
                  | (go_at_call 71; (with_reducible refine HNX5.out.mono ?_); rintro e w5 ⟨rfl, hb5⟩; replace hb5 := Lib.hid hb5))
                all_goals
                  go_wp2_with (fail)
                  (try simp only [Act.put, List.getElem_toArray, List.getElem_cons_succ, List.getElem_cons_zero, List.setIfInBounds_toArray, List.set_cons_zero, List.set_cons_succ])
                  go_meet
                  case rel => exact ⟨rfl, hb5.out⟩
            case rest =>
              obtain ⟨rfl, hb5⟩ := hcut
              obtain ⟨w5, hw5⟩ : ∃ x, x = wc := ⟨_, rfl⟩
              subst hw5
              have hfr5 := HFR4.out.below hb5
              have hcf5 := hfr5.cf
              have j0 := hcf5.c0
              have j1 := hcf5.c1
              have j2 := hcf5.c2
              have hdc : w5.cell? ⟨w1.heap.size, 0, none⟩ = some (.slice (some ⟨bi, i0, none⟩) n c) := cell_of_row w5 w1.heap.size 0 _ _ _ hfr5.dt
              have hc3 : w5.cell? ⟨bi, i0 + p3, none⟩ = some (.int .u8 58) := by
                have h5 := win_cell (k := p3) (HR.out.below hfr5.bel) hWS (by (go_light; omega))
                rwa [hop3, s3] at h5
              have HFR5 := Lib.hid hfr5
              clear hcf5 hfr5 hb5 hqn hcb
              have hz5 : w.heap.size ≤ w5.heap.size := HFR5.out.bel.size
              go_upto_if 129 with (fail)
              obtain ⟨w6, hw6⟩ : ∃ w6, w5.alloc (.cells #[.slice none 0 0] 59) = w6 := ⟨_, rfl⟩
              have hb6 : Below w5.heap.size w5 w6 := by rw [← hw6]; exact below_alloc (Below.refl _ _) _
              have hz6 : w5.heap.size < w6.heap.size := by rw [← hw6]; simp
              have hg6 : w6.heap[w5.heap.size]? = some (.cells #[.slice none 0 0] 59 (0, 0)) := by rw [← hw6]; exact heap_alloc_new _ _
              have hfr6 := HFR5.out.below hb6
              have HG6 := Lib.hid hg6
              have HFR6 := Lib.hid hfr6
              have k6 : w6.cell? ⟨w5.heap.size, 0, none⟩ = some (.slice none 0 0) := cell_of_row _ _ 0 _ _ _ hg6
              have f66 : w6.frozen? ⟨w5.heap.size, 0, none⟩ = false := by simp [World.frozen?, hg6]
              have hcf6 := hfr6.cf
              have j0 := hcf6.c0
              have j1 := hcf6.c1
              have j2 := hcf6.c2
              have h5lt := HFR5.out.lt
              have ho4 := hfr6.o4
              have ho5 := hfr6.o5
              rw [hw6]
              clear hb6 hg6 hfr6 hcf6 hw6 hc3
              go_cut [18, 23, 24] (fun v18 v23 v24 wx => NmRel S y w a b cn bi i0 c n w.heap.size w1.heap.size w2.heap.size w5.heap.size wx)
              case first =>
                cases hes5 : esc (tx (S.extract (cc + 1) (y.2 - 1))) with
                | false =>
                  as_aux_lemma =>
                    go_wp2
                    go_meet
                    case rel =>
                      refine ⟨bi, i0 + (j + 1), m0, c1, bl (S.extract (cc + 1) (y.2 - 1)), World.cell?_setCell_same _ _ _ k6, by rw [bl_length, hmr], ?_, by rw [HNMZ.out, esc_bl hes5], HFR6.out.set h5lt _⟩
                      have hii := rd_ints (HRN.out w6 (HR.out.below HFR6.out.bel))
                      exact fun q hq => (World.cell?_setCell_other _ _ _ _ (by intro e; injection e with e; (go_light; omega))).trans (hii q hq)
                | true =>
                  as_aux_lemma =>
                    obtain ⟨cur, hs6, hl6⟩ := HFR6.out.sb
                    have hG22 : w2.heap.size ≠ w5.heap.size := by (go_light; omega)
                    have hTG := HT.out.lt
                    have HSB6 := Lib.hid hs6
                    have HG22 := Lib.hid hG22
                    have HUN2 := Lib.hid (show Calls Tryz.prog 86 #[.agg #[.bool a, .bool b, .int .i64 cn], .slice (some ⟨bi, i0 + (j + 1), none⟩) m0 c1, .slice (some ⟨w2.heap.size, 0, none⟩) 64 64] w6.drew (UnP (S.extract (cc + 1) (y.2 - 1)) bi w2.heap.size cur.length 133 w.heap.size w w6.drew) from unescW a b cn bi (i0 + (j + 1)) m0 c1 w2.heap.size 64 64 (S.extract (cc + 1) (y.2 - 1)) cur 133 w.heap.size w w6.drew (HRN.out w6.drew (HR.out.below (w1 := w6.drew) ⟨HFR6.out.bel.os, HFR6.out.bel.tape, HFR6.out.bel.output, HFR6.out.bel.size, HFR6.out.bel.block⟩)) hmr.symm (by (go_light; omega)) (by (go_light; omega)) HNO.out HSB6.out hl6.symm (by (go_light; omega)) ⟨HFR6.out.bel.os, HFR6.out.bel.tape, HFR6.out.bel.output, HFR6.out.bel.size, HFR6.out.bel.block⟩ HFR6.out.bel.size (by (go_light; omega)) (Nat.lt_of_lt_of_le hbiw HFR6.out.bel.size) (HT.out.below (w' := w6.drew) ⟨HFR6.out.bel.os, HFR6.out.bel.tape, HFR6.out.bel.output, HFR6.out.bel.size, HFR6.out.bel.block⟩) (by (go_light; omega)))
                    clear hs6 hG22 k6 f66
                    go_upto_region 41 with (fail)
                    go_region_with (first
                      | (go_at_call 86; go_must (refine HUN2.out.mono ?_); rintro e w7 ⟨⟨h7, o7, n7, c7, rfl, hn7, hc7, hi7, hw7⟩, ⟨cur', hs7, hl7⟩, hb7, hk7⟩
                         replace hn7 := Lib.hid hn7
                         replace hi7 := Lib.hid hi7
                         replace hs7 := Lib.hid hs7
                         replace hb7 := Lib.hid hb7
                         replace hl7 := Lib.hid hl7
                         replace hw7 := Lib.hid hw7
                         replace hk7 := Lib.hid (show Kp (fun j => j ≠ w2.heap.size) w6 w7 from ⟨hk7.os, hk7.tape, hk7.output, hk7.size, hk7.block⟩)))
                    all_goals
                      have hzz : w6.heap.size ≤ w7.heap.size := hk7.out.size
                      have hg7 : w7.heap[w5.heap.size]? = some (.cells #[.slice none 0 0] 59 (0, 0)) := (hk7.out.block w5.heap.size (Ne.symm HG22.out) (by (go_light; omega))).trans HG6.out
                      have k7 : w7.cell? ⟨w5.heap.size, 0, none⟩ = some (.slice none 0 0) := cell_of_row _ _ 0 _ _ _ hg7
                      have f77 : w7.frozen? ⟨w5.heap.size, 0, none⟩ = false := by simp [World.frozen?, hg7]
                      clear hg7
                      go_wp2
                      go_meet
                      case rel =>
                        obtain ⟨w8, hw8⟩ : ∃ w8, w7.setCell ⟨w5.heap.size, 0, none⟩ (.slice (some ⟨h7, o7, none⟩) n7 c7) = w8 := ⟨_, rfl⟩
                        rw [hw8]
                        have hgc : w8.cell? ⟨w5.heap.size, 0, none⟩ = some (.slice (some ⟨h7, o7, none⟩) n7 c7) := by rw [← hw8]; exact World.cell?_setCell_same _ _ _ k7
                        have hoth : ∀ k, k ≠ w5.heap.size → w8.heap[k]? = w7.heap[k]? := fun k hk => by rw [← hw8]; exact Below.heap_setCell _ _ _ k hk
                        have hbel8 : Below w.heap.size w w8 := by rw [← hw8]; exact hb7.out.setCell (show w.heap.size ≤ w5.heap.size from hz5) _
                        have hw7' := hw7.out
                        refine ⟨h7, o7, n7, c7, unq (S.extract (cc + 1) (y.2 - 1)) 0, hgc, hn7.out, fun q hq => ?_, HNMZ.out.symm,
                          ⟨(hoth _ (by (go_light; omega))).trans ((hk7.out.block _ (by (go_light; omega)) (by (go_light; omega))).trans HFR6.out.cf), (hoth _ (by (go_light; omega))).trans ((hk7.out.block _ (by (go_light; omega)) (by (go_light; omega))).trans HFR6.out.dt), ⟨cur', (hoth _ HG22.out).trans hs7.out, hl7.out.trans hl6⟩, hbel8, HFR6.out.o3, ho4, ho5⟩⟩
                        rw [← hw8, World.cell?_setCell_other _ _ _ _ (by
                          intro e
                          injection e with e
                          rcases hw7' with h | h | h
                          · (go_light; omega)
                          · exact HG22.out (h.symm.trans e.symm)
                          · have h' : w6.heap.size ≤ h7 := h
                            (go_light; omega))]
                        exact hi7.out q hq
              case rest =>
                obtain ⟨h7, o7, n7, c7, lst, hgc, hn7, hi7, hnm7, hfr8⟩ := hcut
                obtain ⟨w8, hw8⟩ : ∃ x, x = wc := ⟨_, rfl⟩
                subst hw8
                have HFR8 := Lib.hid hfr8
                have hki : w8.cell? (adk.add kl) = some (.string key) := ((HFR8.out.bel).cell (p := adk.add kl) (by rw [add_block]; exact hadl)).trans HKC.out
                have HEQ := Lib.hid (eqStrW w5.heap.size h7 o7 n7 c7 lst key w8 hgc hn7 hi7)
                rw [hnm7] at HEQ
                clear hgc hn7 hi7 hnm7 hfr8 k6 f66 j0 j1 j2 a1 a2 a3 a4 a5 b1 b2 b3 b4 f1 f2 f3 f4 f5 f6 hqn2 hca
                by_cases hhit : nameOf S y = key
                · rw [decide_eq_true hhit] at HEQ
                  obtain ⟨ht1, ht2⟩ := hyh.out hhit
                  have HT2 := Lib.hid ht2
                  by_cases hlast : nk = kl + 1
                  · as_aux_lemma =>
                      have hk1 : ((kl : Int) + 1 == (nk : Int)) = true := by rw [beq_iff_eq]; (go_light; omega)
                      have ht1' := Lib.hid (ht1 (by have := HLN.out; (go_light; omega)))
                      clear ht1 ht2 hhit
                      go_wp2_with (first
                        | (go_at_call 95; (with_reducible refine HEQ.out.mono ?_); rintro e w9 ⟨rfl, rfl⟩))
                      go_ret
                      exact ⟨⟨p3 + 1, by go_num, by rw [← ht1'.out, ← hop3]; exact skip_le isBlank S (o + p3 + 1), by rw [← ht1'.out, ← hop3]; rfl⟩, HFR8.out.bel⟩
                  · as_aux_lemma =>
                      have hk1 : ((kl : Int) + 1 == (nk : Int)) = false := by rw [beq_eq_false_iff_ne]; (go_light; omega)
                      clear ht1 ht2 hhit
                      go_wp2_with (first
                        | (go_at_call 95; (with_reducible refine HEQ.out.mono ?_); rintro e w9 ⟨rfl, rfl⟩))
                      refine Handed.intro (gk - 1) ?measure ?_
                      rotate_left
                      go_step
                      refine frame_intro ?rel (by kernel_rfl)
                      case measure => have := HD.out; (go_light; omega)
                      case rel => exact ⟨kl + 1, kl + 1, p3 + 1, true, rfl, rfl, rfl, rfl, by rw [show o + (p3 + 1) = L.skip isBlank S y.2 + 1 by (go_light; omega)]; exact HT2.out (by have := HLN.out; (go_light; omega)), by have := HD.out; (go_light; omega), HFR8.out⟩
                · as_aux_lemma =>
                    rw [decide_eq_false hhit] at HEQ
                    have HMS := Lib.hid (hym.out hhit)
                    clear hhit
                    go_wp2_with (first
                      | (go_at_call 95; (with_reducible refine HEQ.out.mono ?_); rintro e w9 ⟨rfl, rfl⟩))
                    refine Handed.intro (gk - 1) ?measure ?_
                    rotate_left
                    go_step
                    refine frame_intro ?rel (by kernel_rfl)
                    case measure => have := HD.out; (go_light; omega)
                    case rel => exact ⟨kl, kl + 1, p3 + 1, false, rfl, rfl, rfl, rfl, by rw [show o + (p3 + 1) = L.skip isBlank S y.2 + 1 by (go_light; omega)]; exact HMS.out, by have := HD.out; (go_light; omega), HFR8.out⟩
      · rcases (by (go_light; omega) : k = 4 ∨ k = 5 ∨ k = 6) with rfl | rfl | rfl
        · skip
          as_aux_lemma =>
            subst hl hlm2
            obtain ⟨s1, s2, s3⟩ := hv.str rfl
            have hvl := hv.lt
            have hes := hv.es
            have hle := hv.le
            rw [hcj, s1] at hcell
            have HNX := Lib.hid hv.next'
            clear hv
            have he2 := hes
            obtain ⟨u0, u1, u2⟩ := str_win s1 s2 (W := W) (by (go_light; omega)) hWS
            obtain ⟨q, hq⟩ : ∃ q, e2 - (cc + 1) = q := ⟨_, rfl⟩
            obtain ⟨p2, hp2⟩ : ∃ p2, j + 1 + q = p2 := ⟨_, rfl⟩
            obtain ⟨q2, hq2⟩ : ∃ q2, L.skip isBlank S e2 - e2 = q2 := ⟨_, rfl⟩
            obtain ⟨p3, hp3⟩ : ∃ p3, p2 + q2 = p3 := ⟨_, rfl⟩
            rw [hq] at u1
            have hop2 : o + p2 = e2 := by (go_light; omega)
            have hop3 : o + p3 = L.skip isBlank S e2 := by (go_light; omega)
            have hnt : nxt (tx (S.extract e2 W)) = some q2 := by rw [← hq2]; exact nxt_win hWS hle (by (go_light; omega))
            have hc3 := win_cell (k := p3) HRr.out hWS (by (go_light; omega))
            rw [hop3, s3] at hc3
            have HRa := Lib.hid (show Rd wr (some ⟨bi, i0 + (j + 1), none⟩) (S.extract (cc + 1) W) by
              have := rd_in (k := j + 1) HRr.out hWS (by (go_light; omega)) (c := c) (by (go_light; omega)) (by (go_light; omega))
              rwa [show o + (j + 1) = cc + 1 by (go_light; omega)] at this)
            have HRb := Lib.hid (show Rd wr (some ⟨bi, i0 + p2, none⟩) (S.extract e2 W) by
              have := rd_in (k := p2) HRr.out hWS (by (go_light; omega)) (c := c) (by (go_light; omega)) (by (go_light; omega))
              rwa [hop2] at this)
            have HU1 := Lib.hid u1
            have HU2 := Lib.hid u2
            have HNT := Lib.hid hnt
            have hca : ¬ c = j + 1 := by (go_light; omega)
            have hcb : ¬ c = p2 := by (go_light; omega)
            have a1 : (0 : Int) ≤ (j : Int) + 1 := by (go_light; omega)
            have a2 : (j : Int) + 1 ≤ (n : Int) := by (go_light; omega)
            have a3 : ((j : Int) + 1).toNat = j + 1 := by (go_light; omega)
            have a4 : (0 : Int) ≤ (p2 : Int) := by (go_light; omega)
            have a5 : (p2 : Int) ≤ (n : Int) := by (go_light; omega)
            have f1 : IntKind.i64.wrap ((j : Int) + 1 + (q : Int)) = (p2 : Int) := by rw [IntWalk.i64_in _ (by (go_light; omega))]; (go_light; omega)
            have f2 : IntKind.i64.wrap ((p2 : Int) - 1) = (p2 : Int) - 1 := IntWalk.i64_in _ (by (go_light; omega))
            have f3 : IntKind.i64.wrap ((p2 : Int) + (q2 : Int)) = (p3 : Int) := by rw [IntWalk.i64_in _ (by (go_light; omega))]; (go_light; omega)
            have f4 : IntKind.i64.wrap ((p3 : Int) - 1) = (p3 : Int) - 1 := IntWalk.i64_in _ (by (go_light; omega))
            have f5 : IntKind.i64.wrap ((p3 : Int) - 1 + 1) = (p3 : Int) := by rw [IntWalk.i64_in _ (by (go_light; omega))]; (go_light; omega)
            have f6 : (p3 : Int) < (n : Int) := by (go_light; omega)
            have f7 : (0 : Int) ≤ (p3 : Int) := by (go_light; omega)
            have hqn : ((q : Int) == -1) = false := by rw [beq_eq_false_iff_ne]; (go_light; omega)
            have hqn2 : ((q2 : Int) == -1) = false := by rw [beq_eq_false_iff_ne]; (go_light; omega)
            clear u1 u2 hnt s1 s2 hes hq hq2 hp2 hp3
            have HSE := Lib.hid (strQ _ (S.extract (cc + 1) W) (n - (j + 1)) (c - (j + 1)) q a b _ cn wr HRa.out (by go_light; rw [win_size hWS]; omega) (by go_light; rw [win_size hWS]; omega) (by go_light; rw [win_size hWS]; omega) HU1.out HU2.out)
            go_upto_region 25 with (fail)
            go_region_with (first
              | (go_at_call 89; (with_reducible refine HSE.out.mono ?_); rintro e w4 ⟨rfl, hb4⟩; replace hb4 := Lib.hid hb4))
            all_goals
              have hfr4 := HFR.out.below hb4.out
              have hcf4 := hfr4.cf
              have j0 := hcf4.c0
              have j1 := hcf4.c1
              have j2 := hcf4.c2
              have hdc : w4.cell? ⟨w1.heap.size, 0, none⟩ = some (.slice (some ⟨bi, i0, none⟩) n c) := cell_of_row w4 w1.heap.size 0 _ _ _ hfr4.dt
              have HFR4 := Lib.hid hfr4
              have HRb4 := Lib.hid (HRb.out.below hb4.out)
              clear hcf4 hfr4
              have HNX5 := Lib.hid (nextQ _ (S.extract e2 W) (n - p2) (c - p2) q2 a b cn w4 HRb4.out (by go_light; rw [win_size hWS]; omega) (by go_light; rw [win_size hWS]; omega) (by go_light; rw [win_size hWS]; omega) HNT.out)
              go_upto_region 30 with (fail)
              go_region_with (first
                | (go_at_call 71; (with_reducible refine HNX5.out.mono ?_); rintro e w5 ⟨rfl, hb5⟩; replace hb5 := Lib.hid hb5))
              all_goals
                have hfr5 := HFR4.out.below hb5.out
                have hcf5 := hfr5.cf
                have j0 := hcf5.c0
                have j1 := hcf5.c1
                have j2 := hcf5.c2
                have hdc : w5.cell? ⟨w1.heap.size, 0, none⟩ = some (.slice (some ⟨bi, i0, none⟩) n c) := cell_of_row w5 w1.heap.size 0 _ _ _ hfr5.dt
                have hc3 : w5.cell? ⟨bi, i0 + p3, none⟩ = some (.int .u8 44) := by
                  have h5 := win_cell (k := p3) (HR.out.below hfr5.bel) hWS (by (go_light; omega))
                  rwa [hop3, s3] at h5
                have HFR5 := Lib.hid hfr5
                clear hcf5 hfr5
                go_wp2
                refine Handed.intro (gk - 1) ?measure ?_
                rotate_left
                go_step
                refine frame_intro ?rel (by kernel_rfl)
                case measure => have := HD.out; (go_light; omega)
                case rel => exact ⟨kl, kl + 1, p3, false, rfl, rfl, rfl, rfl, by rw [hop3]; exact HNX.out, by have := HD.out; (go_light; omega), HFR5.out⟩
        · skip
          as_aux_lemma =>
            subst hl hlm2
            obtain ⟨ho1, ho2⟩ := hv.arr rfl
            have hvl := hv.lt
            have hes := hv.es
            have hle := hv.le
            rw [hcj, ho1] at hcell
            have HNX := Lib.hid hv.next
            obtain ⟨q, hq⟩ : ∃ q, e2 - cc = q := ⟨_, rfl⟩
            have hbk : blk a 91 93 0 (tx (S.extract cc W)) = some q := by
              have := ho2 a (((tx S).take W).drop e2)
              rw [← win_split (W := W) (by (go_light; omega)) (by (go_light; omega)) hWS, hq] at this
              rw [← this, tx_cut, List.drop_take]
            have HBK := Lib.hid hbk
            have HRj := Lib.hid (show Rd wr (some ⟨bi, i0 + j, none⟩) (S.extract cc W) by
              have := rd_ite (c := c) (k := j) HRr.out (by rw [win_size hWS]; (go_light; omega)) (by rw [if_neg (by (go_light; omega))])
              rwa [win_size hWS, ByteArray.extract_extract, hcj, show min (o + (W - o)) W = W by (go_light; omega)] at this)
            have hcn : ¬ c = j := by (go_light; omega)
            have hjle : (j : Int) ≤ (n : Int) := by (go_light; omega)
            have e2' : IntKind.i64.wrap ((q : Int) - 1) = (q : Int) - 1 := IntWalk.i64_in _ (by (go_light; omega))
            have e3 : IntKind.i64.wrap ((j : Int) + ((q : Int) - 1)) = (j : Int) + ((q : Int) - 1) := IntWalk.i64_in _ (by (go_light; omega))
            have e4 : IntKind.i64.wrap ((j : Int) + ((q : Int) - 1) + 1) = (j : Int) + (q : Int) := by rw [IntWalk.i64_in _ (by (go_light; omega))]; (go_light; omega)
            have hqn : ((q : Int) == -1) = false := by rw [beq_eq_false_iff_ne]; (go_light; omega)
            have hkk : ((kl : Int) == ((kl + 1 : Nat) : Int)) = false := by rw [beq_eq_false_iff_ne]; (go_light; omega)
            have hkk2 : ((kl : Int) == (kl : Int) + 1) = false := by rw [beq_eq_false_iff_ne]; (go_light; omega)
            clear ho1 ho2 hv hbk e1
            have HBL := Lib.hid (arrQ _ (S.extract cc W) (n - j) (c - j) q a b cn wr HRj.out (by go_light; rw [win_size hWS]; omega) (by go_light; rw [win_size hWS]; omega) (by go_light; rw [win_size hWS]; omega) HBK.out)
            go_upto_region 85 with (fail)
            go_region_with (first
              | (go_at_call 76; (with_reducible refine HBL.out.mono ?_); rintro e w4 ⟨rfl, hb4⟩; replace hb4 := Lib.hid hb4))
            all_goals
              go_wp2
              refine Handed.intro (gk - 1) ?measure ?_
              rotate_left
              go_step
              refine frame_intro ?rel (by kernel_rfl)
              case measure => have := HD.out; (go_light; omega)
              case rel => exact ⟨kl, kl + 1, j + q, false, rfl, rfl, rfl, rfl, by have := HNX.out; rwa [show o + (j + q) = e2 by (go_light; omega)], by have := HD.out; (go_light; omega), HFR.out.below hb4.out⟩
        · skip
          as_aux_lemma =>
            subst hl hlm2
            obtain ⟨ho1, ho2⟩ := hv.obj rfl
            have hvl := hv.lt
            have hes := hv.es
            have hle := hv.le
            rw [hcj, ho1] at hcell
            have HNX := Lib.hid hv.next
            obtain ⟨q, hq⟩ : ∃ q, e2 - cc = q := ⟨_, rfl⟩
            have hbk : blk a 123 125 0 (tx (S.extract cc W)) = some q := by
              have := ho2 a (((tx S).take W).drop e2)
              rw [← win_split (W := W) (by (go_light; omega)) (by (go_light; omega)) hWS, hq] at this
              rw [← this, tx_cut, List.drop_take]
            have HBK := Lib.hid hbk
            have HRj := Lib.hid (show Rd wr (some ⟨bi, i0 + j, none⟩) (S.extract cc W) by
              have := rd_ite (c := c) (k := j) HRr.out (by rw [win_size hWS]; (go_light; omega)) (by rw [if_neg (by (go_light; omega))])
              rwa [win_size hWS, ByteArray.extract_extract, hcj, show min (o + (W - o)) W = W by (go_light; omega)] at this)
            have hcn : ¬ c = j := by (go_light; omega)
            have hjle : (j : Int) ≤ (n : Int) := by (go_light; omega)
            have e2' : IntKind.i64.wrap ((q : Int) - 1) = (q : Int) - 1 := IntWalk.i64_in _ (by (go_light; omega))
            have e3 : IntKind.i64.wrap ((j : Int) + ((q : Int) - 1)) = (j : Int) + ((q : Int) - 1) := IntWalk.i64_in _ (by (go_light; omega))
            have e4 : IntKind.i64.wrap ((j : Int) + ((q : Int) - 1) + 1) = (j : Int) + (q : Int) := by rw [IntWalk.i64_in _ (by (go_light; omega))]; (go_light; omega)
            have hqn : ((q : Int) == -1) = false := by rw [beq_eq_false_iff_ne]; (go_light; omega)
            clear ho1 ho2 hv hbk e1
            have HBL := Lib.hid (objQ _ (S.extract cc W) (n - j) (c - j) q a b cn wr HRj.out (by go_light; rw [win_size hWS]; omega) (by go_light; rw [win_size hWS]; omega) (by go_light; rw [win_size hWS]; omega) HBK.out)
            go_upto_region 57 with (fail)
            go_region_with (first
              | (go_at_call 76; (with_reducible refine HBL.out.mono ?_); rintro e w4 ⟨rfl, hb4⟩; replace hb4 := Lib.hid hb4))
            all_goals
              go_wp2
              refine Handed.intro (gk - 1) ?measure ?_
              rotate_left
              go_step
              refine frame_intro ?rel (by kernel_rfl)
              case measure => have := HD.out; (go_light; omega)
              case rel => exact ⟨kl, kl + 1, j + q, false, rfl, rfl, rfl, rfl, by have := HNX.out; rwa [show o + (j + q) = e2 by (go_light; omega)], by have := HD.out; (go_light; omega), HFR.out.below hb4.out⟩
/-- The search. -/
theorem seaAll (T : Nat → TypeId) (V : Nat → Value) (S : ByteArray) (W o : Nat) (kd : List ByteArray) (r : Pl) (a b : Bool) (cn : Int) (bi i0 c n : Nat) (A : Option Addr) (nk ck : Nat) (Bk : Nat → Prop) (w : World)
    (hR : Rd w (some ⟨bi, i0, none⟩) (S.extract o W)) (hn : n = W - o) (hS : S.size ≤ 1000000) (hWS : W ≤ S.size) (hc : n ≤ c) (hK : Row w Bk 1 A nk ck (keysV kd)) (hT : Tb w) (hkn : kd.length ≤ 2147483647) (hE : Errs T V w) (h0 : Stand S W kd r 0 0 true o) :
    Calls Tryz.prog 78 #[.agg #[.bool a, .bool b, .int .i64 cn], .slice (some ⟨bi, i0, none⟩) n c, .slice A nk ck] w (SeaPost S o r w) := by
  have key : ∀ N : Nat, N ≤ 2147483648 → IH T V S r a b cn N := by
    intro N
    induction N with
    | zero => intro _ W o kd bi i0 c n A nk ck Bk w h; omega
    | succ N ih =>
      intro hN W o kd bi i0 c n A nk ck Bk w h1 h2 h3 h4 h5 h6 h7 h8 h9
      exact seaW T V S W o kd r a b cn bi i0 c n A nk ck Bk w h2 h3 hS h4 h5 h6 h7 h8 (fun W' o' kd' bi' i0' c' n' A' nk' ck' Bk' w' g => ih (by omega) W' o' kd' bi' i0' c' n' A' nk' ck' Bk' w' (by omega)) (by omega) h9
  exact key (kd.length + 1) (by omega) W o kd bi i0 c n A nk ck Bk w (by omega) hR hn hWS hc hK hT hE h0
end Go.Proofs.YtkdkdhcjpgmjdaaGreatDoor.Jp
