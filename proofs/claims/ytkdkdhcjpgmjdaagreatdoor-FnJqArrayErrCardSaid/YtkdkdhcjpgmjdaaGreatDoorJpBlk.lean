/- The walk of blockEndConfig. -/
import Derived.Test.YtkdkdhcjpgmjdaaGreatDoorJpEnd39
namespace Go.Proofs.YtkdkdhcjpgmjdaaGreatDoor.Jp
open Go.RowKit L
set_option linter.unusedVariables false
set_option linter.unusedSimpArgs false

/-- What blockEndConfig answers. -/
def BlkPost (sq : Bool) (o c : UInt8) (s : ByteArray) (w : World) (e : Ending) (w' : World) : Prop :=
  (∃ x : Int, e = .returned (.int .i64 x) ∧ ((∃ n : Nat, blk sq o c 0 (tx s) = some n ∧ x = n) ∨ (blk sq o c 0 (tx s) = none ∧ x = -1))) ∧ Below w.heap.size w w'
theorem BlkPost.no {sq : Bool} {o c : UInt8} {s : ByteArray} {w w' : World} {e : Ending} (h : blk sq o c 0 (tx s) = none) (he : e = .returned (.int .i64 (-1))) (hw : Below w.heap.size w w') : BlkPost sq o c s w e w' := ⟨⟨_, he, .inr ⟨h, rfl⟩⟩, hw⟩
theorem BlkPost.yes {sq : Bool} {o c : UInt8} {s : ByteArray} {w w' : World} {e : Ending} {n : Nat} {x : Int} (h : blk sq o c 0 (tx s) = some n) (hx : x = (n : Int)) (he : e = .returned (.int .i64 x)) (hw : Below w.heap.size w w') : BlkPost sq o c s w e w' := ⟨⟨_, he, .inl ⟨n, h, hx⟩⟩, hw⟩
/-- A configuration in a block of its own. -/
def CfgAt (w : World) (g : Nat) (a b : Bool) (n : Int) : Prop := w.heap[g]? = some (.cells #[.bool a, .bool b, .int .i64 n] 97 (0, 0))
section
variable {w w' : World} {g : Nat} {a b : Bool} {n : Int}
theorem CfgAt.new (w : World) (a b : Bool) (n : Int) : CfgAt (w.alloc (.cells #[.bool a, .bool b, .int .i64 n] 97)) w.heap.size a b n := heap_alloc_new w _
theorem CfgAt.lt (h : CfgAt w g a b n) : g < w.heap.size := (Array.getElem?_eq_some_iff.1 h).1
theorem CfgAt.c0 (h : CfgAt w g a b n) : w.cell? ⟨g, 0, none⟩ = some (.bool a) := cell_of_row w g 0 _ _ _ h
theorem CfgAt.c1 (h : CfgAt w g a b n) : w.cell? ⟨g, 1, none⟩ = some (.bool b) := cell_of_row w g 1 _ _ _ h
theorem CfgAt.c2 (h : CfgAt w g a b n) : w.cell? ⟨g, 2, none⟩ = some (.int .i64 n) := cell_of_row w g 2 _ _ _ h
theorem CfgAt.below (h : CfgAt w g a b n) (hb : Below w.heap.size w w') : CfgAt w' g a b n := (hb.block g h.lt).trans h
theorem CfgAt.drew (h : CfgAt w g a b n) : CfgAt w.drew g a b n := h
end
theorem below_drew_one {w w' : World} (k : Below w.drew.heap.size w.drew w') : Below w.heap.size w w' := ⟨k.os, k.tape, k.output, k.size, k.block⟩
/-- The search for a block's end stands at i, lv blocks open. -/
def BAt (sq : Bool) (o c : UInt8) (l : Tx) (lv : Int) (i : Nat) : Prop := blk sq o c 0 l = (blk sq o c lv (l.drop i)).map (· + i)
section
variable {sq : Bool} {o c x : UInt8} {l : Tx} {lv : Int} {i : Nat}
theorem BAt.start (sq : Bool) (o c : UInt8) (l : Tx) : BAt sq o c l 0 0 := by
  unfold BAt
  rw [List.drop_zero]
  cases blk sq o c 0 l <;> rfl
theorem BAt.no (h : BAt sq o c l lv i) (hd : l.drop i = x :: l.drop (i + 1)) (h1 : ¬ (x = 34 ∨ (x = 39 ∧ sq = true))) (ho : ¬ x = o) (hc : ¬ x = c) : BAt sq o c l lv (i + 1) := by
  unfold BAt at h ⊢
  rw [h, hd, blk_no h1 ho hc, map_add, Nat.add_comm i 1, Nat.add_comm 1 i]
theorem BAt.open_ (h : BAt sq o c l lv i) (hd : l.drop i = x :: l.drop (i + 1)) (h1 : ¬ (x = 34 ∨ (x = 39 ∧ sq = true))) (ho : x = o) : BAt sq o c l (lv + 1) (i + 1) := by
  unfold BAt at h ⊢
  rw [h, hd, blk_open h1 ho, map_add, Nat.add_comm i 1, Nat.add_comm 1 i]
theorem BAt.close (h : BAt sq o c l lv i) (hd : l.drop i = x :: l.drop (i + 1)) (h1 : ¬ (x = 34 ∨ (x = 39 ∧ sq = true))) (ho : ¬ x = o) (hc : x = c) (hl : ¬ lv - 1 = 0) : BAt sq o c l (lv - 1) (i + 1) := by
  unfold BAt at h ⊢
  rw [h, hd, blk_close h1 ho hc hl, map_add, Nat.add_comm i 1, Nat.add_comm 1 i]
theorem BAt.end_ (h : BAt sq o c l lv i) (hd : l.drop i = x :: l.drop (i + 1)) (h1 : ¬ (x = 34 ∨ (x = 39 ∧ sq = true))) (ho : ¬ x = o) (hc : x = c) (hl : lv - 1 = 0) : blk sq o c 0 l = some (i + 1) := by
  unfold BAt at h
  rw [h, hd, blk_end h1 ho hc hl, Option.map_some, Nat.add_comm]
theorem BAt.str {n : Nat} (h : BAt sq o c l lv i) (hd : l.drop i = x :: l.drop (i + 1)) (h1 : x = 34 ∨ (x = 39 ∧ sq = true)) (hn : cls x (l.drop (i + 1)) = some n) : BAt sq o c l lv (i + n + 1) := by
  unfold BAt at h ⊢
  rw [h, hd, blk_str h1 hn, map_add, List.drop_drop, show i + 1 + n = i + n + 1 by omega, show i + (n + 1) = i + n + 1 by omega]
theorem BAt.strno (h : BAt sq o c l lv i) (hd : l.drop i = x :: l.drop (i + 1)) (h1 : x = 34 ∨ (x = 39 ∧ sq = true)) (hn : cls x (l.drop (i + 1)) = none) : blk sq o c 0 l = none := by
  unfold BAt at h
  rw [h, hd, blk_strno h1 hn]
  rfl
theorem BAt.out (h : BAt sq o c l lv i) (hi : l.length ≤ i) : blk sq o c 0 l = none := by
  unfold BAt at h
  rw [h, List.drop_eq_nil_of_le hi, blk_nil]
  rfl
end
theorem rdc1 {w : World} {ad : Addr} {s : ByteArray} (h : Rd w (some ad) s) {i c : Nat} (hc : s.size ≤ c) : Rd w (if c = i + 1 then some ad else some ⟨ad.block, ad.off + (i + 1), none⟩) (s.extract (i + 1) s.size) := by
  have := rdc h (i := i + 1) hc
  simp only [Option.map_some, add_succ] at this
  exact this
theorem rdc2 {w : World} {ad : Addr} {s : ByteArray} (h : Rd w (some ad) s) {i c : Nat} (hc : s.size ≤ c) (hn : ¬ c = i + 1) : Rd w (some ⟨ad.block, ad.off + (i + 1), none⟩) (s.extract (i + 1) s.size) := by
  have := rdc1 h (i := i) hc
  rwa [if_neg hn] at this
theorem rdc3 {w : World} {ad : Addr} {s : ByteArray} (h : Rd w (some ad) s) {i c : Nat} (hc : s.size ≤ c) (hn : c = i + 1) : Rd w (some ad) (s.extract (i + 1) s.size) := by
  have := rdc1 h (i := i) hc
  rwa [if_pos hn] at this
theorem u8n {c : UInt8} {x y : Int} (h : (c.toNat : Int) = x) (k : UInt8) (hk : (k.toNat : Int) = y) (hx : ¬ x = y) : ¬ c = k := fun e => hx (by rw [← h, e, hk])
theorem q_no {c : UInt8} {x : Int} {a : Bool} (h : (c.toNat : Int) = x) (h1 : ¬ x = 34) (h2 : ¬ x = 39) : ¬ (c = 34 ∨ (c = 39 ∧ a = true)) := by
  rintro (e | ⟨e, _⟩)
  · exact u8n h 34 rfl h1 e
  · exact u8n h 39 rfl h2 e
theorem q_no39 {c : UInt8} {a : Bool} (h : c = 39) (ha : a = false) : ¬ (c = 34 ∨ (c = 39 ∧ a = true)) := by
  rintro (e | ⟨_, e⟩)
  · rw [h] at e; exact absurd e (by decide)
  · rw [ha] at e; cases e
theorem end_cases (q : UInt8) (l : Tx) (hq : q ≠ 92) : (∃ n : Nat, cls q l = some n ∧ endI q l = n ∧ 0 < n ∧ n ≤ l.length) ∨ (cls q l = none ∧ endI q l = -1) := by
  cases h : cls q l with
  | none => exact .inr ⟨rfl, (end_none h).1⟩
  | some n => exact .inl ⟨n, rfl, (end_some h).1, (cls_le hq h).2, (cls_le hq h).1⟩
set_option maxRecDepth 100000 in
set_option maxHeartbeats 4000000 in
theorem blkArr (A : Option Addr) (s : ByteArray) (c : Nat) (a b : Bool) (n : Int) (w : World) (h : Rd w A s) (hs : s.size ≤ 1000000) (hc : s.size ≤ c) :
    Calls Tryz.prog 76 #[.agg #[.bool a, .bool b, .int .i64 n], .slice A s.size c, .int .u8 91, .int .u8 93] w (BlkPost a 91 93 s w) := by
  have HR := Lib.hid h
  have HB00 := Lib.hid (below_alloc (Below.refl w.heap.size w) (.cells #[.bool a, .bool b, .int .i64 n] 97))
  have HC0 := Lib.hid (CfgAt.new w a b n)
  clear h
  go_enter Tryz.func76, Tryz.ntmps76
  go_wp2
  go_loopg [9, 10] (s.size) (fun d v9 v10 wx => ∃ (i : Nat) (lv : Int), v9 = .int .i64 lv ∧ v10 = .int .i64 (i : Int) ∧ i ≤ s.size ∧ s.size - i ≤ d ∧ -(i : Int) ≤ lv ∧ lv ≤ i ∧ BAt a 91 93 (tx s) lv i ∧ CfgAt wx w.heap.size a b n ∧ Below w.heap.size w wx)
  case atStart => exact ⟨0, 0, rfl, rfl, by omega, by omega, by omega, by omega, BAt.start _ _ _ _, HC0.out, HB00.out⟩
  case round =>
    obtain ⟨i, lv, rfl, rfl, hi, hd, hl1, hl2, hat, hcf, hb⟩ := hrel
    have HAT0 := Lib.hid hat
    have HD := Lib.hid hd
    have HB := Lib.hid hb
    have HCF := Lib.hid hcf
    have HRx := Lib.hid (HR.out.below hb)
    clear hat hd hb hcf
    by_cases hlt : i < s.size
    · go_upto_block 2 with (fail)
      go_cut [10] (fun v10 wx => ∃ j : Nat, v10 = .int .i64 (j : Int) ∧ wr = wx ∧ i ≤ j ∧ j ≤ s.size ∧ BAt a 91 93 (tx s) lv j)
      case first =>
        go_wp2_with (fail)
        go_loopg [10] (s.size) (fun d v10 wx => ∃ j : Nat, v10 = .int .i64 (j : Int) ∧ wr = wx ∧ i ≤ j ∧ j ≤ s.size ∧ s.size - j ≤ d ∧ BAt a 91 93 (tx s) lv j)
        case atStart => exact ⟨i, rfl, rfl, Nat.le_refl _, hi, by omega, HAT0.out⟩
        case round =>
          obtain ⟨j, rfl, hwx, hij, hj, hjd, hat⟩ := hrel
          subst hwx
          have HAT := Lib.hid hat
          have HJD := Lib.hid hjd
          clear hat hjd
          by_cases hlj : j < s.size
          · obtain ⟨ad, rfl, hcell⟩ := HRx.out.at_ hlj
            have hr := bt_range s j
            obtain ⟨k, hk1, hk2, hk3⟩ := tx_at s j hlj
            obtain ⟨x, hx⟩ : ∃ x, bt s j = x := ⟨_, rfl⟩
            rw [hx] at hcell hr hk2
            have HK1 := Lib.hid hk1
            have HK2 := Lib.hid hk2
            clear hx hk1 hk2 hk3
            by_cases h32 : x ≤ 32
            · have HN := Lib.hid (HAT.out.no HK1.out (q_no HK2.out (by omega) (by omega)) (u8n (y := 91) HK2.out 91 rfl (by omega)) (u8n (y := 93) HK2.out 93 rfl (by omega)))
              go_wp2
              go_roundg (gk - 1)
              case measure => have := HJD.out; omega
              case rel => exact ⟨j + 1, by go_num, rfl, by omega, by omega, by have := HJD.out; omega, HN.out⟩
            · by_cases h92 : 92 < x
              · by_cases ho : x = 91
                · subst ho
                  go_wp2
                  go_meet
                  case rel => exact ⟨j, rfl, rfl, hij, hj, HAT.out⟩
                · by_cases hcl : x = 93
                  · subst hcl
                    go_wp2
                    go_meet
                    case rel => exact ⟨j, rfl, rfl, hij, hj, HAT.out⟩
                  · have HN := Lib.hid (HAT.out.no HK1.out (q_no HK2.out (by omega) (by omega)) (u8n HK2.out 91 rfl ho) (u8n HK2.out 93 rfl hcl))
                    have ho2 : (x != 91) = true := bne_iff_ne.2 ho
                    have hcl2 : (x != 93) = true := bne_iff_ne.2 hcl
                    go_wp2
                    go_roundg (gk - 1)
                    case measure => have := HJD.out; omega
                    case rel => exact ⟨j + 1, by go_num, rfl, by omega, by omega, by have := HJD.out; omega, HN.out⟩
              · go_wp2
                go_meet
                case rel => exact ⟨j, rfl, rfl, hij, hj, HAT.out⟩
          · go_wp2
            go_meet
            case rel => exact ⟨j, rfl, rfl, hij, hj, HAT.out⟩
      case rest =>
        obtain ⟨j, rfl, hwx, hij, hj, hat⟩ := hcut
        subst hwx
        have HAT := Lib.hid hat
        clear hat HAT0
        by_cases hlj : j < s.size
        · have hg0 := HCF.out.c0
          have hg1 := HCF.out.c1
          have hg2 := HCF.out.c2
          obtain ⟨ad, rfl, hcell⟩ := HRx.out.at_ hlj
          have hr := bt_range s j
          obtain ⟨k, hk1, hk2, hk3⟩ := tx_at s j hlj
          obtain ⟨x, hx⟩ : ∃ x, bt s j = x := ⟨_, rfl⟩
          rw [hx] at hcell hr hk2
          have HK1 := Lib.hid hk1
          have HK2 := Lib.hid hk2
          clear hx hk1 hk2 hk3
          by_cases h34 : x = 34
          · have hq : k = 34 := (Jp.u8 HK2.out 34).2 h34
            subst hq
            subst h34
            obtain ⟨A2, hA2⟩ : ∃ A2, (if c = j + 1 then some ad else some (⟨ad.block, ad.off + (j + 1), none⟩ : Addr)) = A2 := ⟨_, rfl⟩
            have HT := Lib.hid (show Rd wr A2 (s.extract (j + 1) s.size) by rw [← hA2]; exact rdc1 HRx.out (i := j) hc)
            go_upto_region 17 with (fail)
            have e2 : (0 : Int) ≤ (j : Int) + 1 := by omega
            have e3 : (j : Int) + 1 ≤ (s.size : Int) := by omega
            have e4 : ((j : Int) + 1).toNat = j + 1 := by omega
            have e1 : IntKind.i64.wrap ((j : Int) + 1) = (j : Int) + 1 := IntWalk.i64_in _ (by omega)
            go_region_with (first
              | (go_at_call 89; refine (strEndW 34 34 (.inl ⟨rfl, rfl⟩) _ (s.extract (j + 1) s.size) _ _ _ b n _ (HT.out.drew) cut_size (by rw [size_ext]; omega) (by rw [size_ext]; omega)).mono ?_; rintro e w1 ⟨rfl, hb1⟩; replace hb1 := Lib.hid hb1))
            clear e1 e2 e3 e4 hA2
            rw [tx_ext]
            rcases end_cases 34 ((tx s).drop (j + 1)) (by decide) with ⟨m, hm1, hm2, hm3, hm4⟩ | ⟨hm1, hm2⟩
            · have HN := Lib.hid (HAT.out.str HK1.out (.inl rfl) hm1)
              rw [List.length_drop, tx_len] at hm4
              rw [hm2]
              clear hm1 hm2
              have hm0 : ((m : Int) == -1) = false := by rw [beq_eq_false_iff_ne]; omega
              go_wp2
              go_roundg (s.size - (j + m + 1))
              case measure => have := HD.out; omega
              case rel => exact ⟨j + m + 1, lv, rfl, by go_num, by omega, by omega, by omega, by omega, HN.out, HCF.out.below (below_drew_one hb1.out), below_drew_of HB.out hb1.out⟩
            · have HN := Lib.hid (HAT.out.strno HK1.out (.inl rfl) hm1)
              rw [hm2]
              clear hm1 hm2
              go_wp2
              go_ret
              exact BlkPost.no HN.out rfl (below_drew_of HB.out hb1.out)
          by_cases h39 : x = 39
          · have hq : k = 39 := (Jp.u8 HK2.out 39).2 h39
            subst hq
            subst h39
            cases a with
            | true =>
              obtain ⟨A2, hA2⟩ : ∃ A2, (if c = j + 1 then some ad else some (⟨ad.block, ad.off + (j + 1), none⟩ : Addr)) = A2 := ⟨_, rfl⟩
              have HT := Lib.hid (show Rd wr A2 (s.extract (j + 1) s.size) by rw [← hA2]; exact rdc1 HRx.out (i := j) hc)
              go_upto_region 17 with (fail)
              have e2 : (0 : Int) ≤ (j : Int) + 1 := by omega
              have e3 : (j : Int) + 1 ≤ (s.size : Int) := by omega
              have e4 : ((j : Int) + 1).toNat = j + 1 := by omega
              have e1 : IntKind.i64.wrap ((j : Int) + 1) = (j : Int) + 1 := IntWalk.i64_in _ (by omega)
              go_region_with (first
                | (go_at_call 89; refine (strEndW 39 39 (.inr ⟨rfl, rfl⟩) _ (s.extract (j + 1) s.size) _ _ _ b n _ (HT.out.drew) cut_size (by rw [size_ext]; omega) (by rw [size_ext]; omega)).mono ?_; rintro e w1 ⟨rfl, hb1⟩; replace hb1 := Lib.hid hb1))
              clear e1 e2 e3 e4 hA2
              rw [tx_ext]
              rcases end_cases 39 ((tx s).drop (j + 1)) (by decide) with ⟨m, hm1, hm2, hm3, hm4⟩ | ⟨hm1, hm2⟩
              · have HN := Lib.hid (HAT.out.str HK1.out (.inr ⟨rfl, rfl⟩) hm1)
                rw [List.length_drop, tx_len] at hm4
                rw [hm2]
                clear hm1 hm2
                have hm0 : ((m : Int) == -1) = false := by rw [beq_eq_false_iff_ne]; omega
                go_wp2
                go_roundg (s.size - (j + m + 1))
                case measure => have := HD.out; omega
                case rel => exact ⟨j + m + 1, lv, rfl, by go_num, by omega, by omega, by omega, by omega, HN.out, HCF.out.below (below_drew_one hb1.out), below_drew_of HB.out hb1.out⟩
              · have HN := Lib.hid (HAT.out.strno HK1.out (.inr ⟨rfl, rfl⟩) hm1)
                rw [hm2]
                clear hm1 hm2
                go_wp2
                go_ret
                exact BlkPost.no HN.out rfl (below_drew_of HB.out hb1.out)

            | false =>
              have HN := Lib.hid (HAT.out.no HK1.out (q_no39 rfl rfl) (by decide) (by decide))
              go_wp2
              go_roundg (s.size - (j + 1))
              case measure => have := HD.out; omega
              case rel => exact ⟨j + 1, lv, rfl, by go_num, by omega, by omega, by omega, by omega, HN.out, HCF.out, HB.out⟩
          have HQ := Lib.hid (q_no (a := a) HK2.out h34 h39)
          by_cases ho : x = 91
          · have HN := Lib.hid (HAT.out.open_ HK1.out HQ.out ((Jp.u8 HK2.out 91).2 ho))
            subst ho
            go_wp2
            go_roundg (s.size - (j + 1))
            case measure => have := HD.out; omega
            case rel => exact ⟨j + 1, lv + 1, by go_num, by go_num, by omega, by omega, by omega, by omega, HN.out, HCF.out, HB.out⟩
          by_cases hcl : x = 93
          · have HKC := Lib.hid ((Jp.u8 HK2.out 93).2 hcl)
            have HKO := Lib.hid (u8n HK2.out 91 rfl ho)
            subst hcl
            by_cases hz : lv - 1 = 0
            · have HN := Lib.hid (HAT.out.end_ HK1.out HQ.out HKO.out HKC.out hz)
              obtain rfl : lv = 1 := by omega
              clear hz
              go_wp2
              go_ret
              exact BlkPost.yes HN.out (by omega) rfl HB.out
            · have HN := Lib.hid (HAT.out.close HK1.out HQ.out HKO.out HKC.out hz)
              have hz2 : (lv - 1 == 0) = false := by rw [beq_eq_false_iff_ne]; exact hz
              go_wp2
              go_roundg (s.size - (j + 1))
              case measure => have := HD.out; omega
              case rel => exact ⟨j + 1, lv - 1, by go_num, by go_num, by omega, by omega, by omega, by omega, HN.out, HCF.out, HB.out⟩
          · have HN := Lib.hid (HAT.out.no HK1.out HQ.out (u8n HK2.out 91 rfl ho) (u8n HK2.out 93 rfl hcl))
            go_wp2
            go_roundg (s.size - (j + 1))
            case measure => have := HD.out; omega
            case rel => exact ⟨j + 1, lv, rfl, by go_num, by omega, by omega, by omega, by omega, HN.out, HCF.out, HB.out⟩
        · have HN := Lib.hid (HAT.out.out (by rw [tx_len]; omega))
          go_wp2
          go_ret
          exact BlkPost.no HN.out rfl HB.out
    · have HN := Lib.hid (HAT0.out.out (by rw [tx_len]; omega))
      go_wp2
      go_ret
      exact BlkPost.no HN.out rfl HB.out
set_option maxRecDepth 100000 in
set_option maxHeartbeats 4000000 in
theorem blkObj (A : Option Addr) (s : ByteArray) (c : Nat) (a b : Bool) (n : Int) (w : World) (h : Rd w A s) (hs : s.size ≤ 1000000) (hc : s.size ≤ c) :
    Calls Tryz.prog 76 #[.agg #[.bool a, .bool b, .int .i64 n], .slice A s.size c, .int .u8 123, .int .u8 125] w (BlkPost a 123 125 s w) := by
  have HR := Lib.hid h
  have HB00 := Lib.hid (below_alloc (Below.refl w.heap.size w) (.cells #[.bool a, .bool b, .int .i64 n] 97))
  have HC0 := Lib.hid (CfgAt.new w a b n)
  clear h
  go_enter Tryz.func76, Tryz.ntmps76
  go_wp2
  go_loopg [9, 10] (s.size) (fun d v9 v10 wx => ∃ (i : Nat) (lv : Int), v9 = .int .i64 lv ∧ v10 = .int .i64 (i : Int) ∧ i ≤ s.size ∧ s.size - i ≤ d ∧ -(i : Int) ≤ lv ∧ lv ≤ i ∧ BAt a 123 125 (tx s) lv i ∧ CfgAt wx w.heap.size a b n ∧ Below w.heap.size w wx)
  case atStart => exact ⟨0, 0, rfl, rfl, by omega, by omega, by omega, by omega, BAt.start _ _ _ _, HC0.out, HB00.out⟩
  case round =>
    obtain ⟨i, lv, rfl, rfl, hi, hd, hl1, hl2, hat, hcf, hb⟩ := hrel
    have HAT0 := Lib.hid hat
    have HD := Lib.hid hd
    have HB := Lib.hid hb
    have HCF := Lib.hid hcf
    have HRx := Lib.hid (HR.out.below hb)
    clear hat hd hb hcf
    by_cases hlt : i < s.size
    · go_upto_block 2 with (fail)
      go_cut [10] (fun v10 wx => ∃ j : Nat, v10 = .int .i64 (j : Int) ∧ wr = wx ∧ i ≤ j ∧ j ≤ s.size ∧ BAt a 123 125 (tx s) lv j)
      case first =>
        go_wp2_with (fail)
        go_loopg [10] (s.size) (fun d v10 wx => ∃ j : Nat, v10 = .int .i64 (j : Int) ∧ wr = wx ∧ i ≤ j ∧ j ≤ s.size ∧ s.size - j ≤ d ∧ BAt a 123 125 (tx s) lv j)
        case atStart => exact ⟨i, rfl, rfl, Nat.le_refl _, hi, by omega, HAT0.out⟩
        case round =>
          obtain ⟨j, rfl, hwx, hij, hj, hjd, hat⟩ := hrel
          subst hwx
          have HAT := Lib.hid hat
          have HJD := Lib.hid hjd
          clear hat hjd
          by_cases hlj : j < s.size
          · obtain ⟨ad, rfl, hcell⟩ := HRx.out.at_ hlj
            have hr := bt_range s j
            obtain ⟨k, hk1, hk2, hk3⟩ := tx_at s j hlj
            obtain ⟨x, hx⟩ : ∃ x, bt s j = x := ⟨_, rfl⟩
            rw [hx] at hcell hr hk2
            have HK1 := Lib.hid hk1
            have HK2 := Lib.hid hk2
            clear hx hk1 hk2 hk3
            by_cases h32 : x ≤ 32
            · have HN := Lib.hid (HAT.out.no HK1.out (q_no HK2.out (by omega) (by omega)) (u8n (y := 123) HK2.out 123 rfl (by omega)) (u8n (y := 125) HK2.out 125 rfl (by omega)))
              go_wp2
              go_roundg (gk - 1)
              case measure => have := HJD.out; omega
              case rel => exact ⟨j + 1, by go_num, rfl, by omega, by omega, by have := HJD.out; omega, HN.out⟩
            · by_cases h92 : 92 < x
              · by_cases ho : x = 123
                · subst ho
                  go_wp2
                  go_meet
                  case rel => exact ⟨j, rfl, rfl, hij, hj, HAT.out⟩
                · by_cases hcl : x = 125
                  · subst hcl
                    go_wp2
                    go_meet
                    case rel => exact ⟨j, rfl, rfl, hij, hj, HAT.out⟩
                  · have HN := Lib.hid (HAT.out.no HK1.out (q_no HK2.out (by omega) (by omega)) (u8n HK2.out 123 rfl ho) (u8n HK2.out 125 rfl hcl))
                    have ho2 : (x != 123) = true := bne_iff_ne.2 ho
                    have hcl2 : (x != 125) = true := bne_iff_ne.2 hcl
                    go_wp2
                    go_roundg (gk - 1)
                    case measure => have := HJD.out; omega
                    case rel => exact ⟨j + 1, by go_num, rfl, by omega, by omega, by have := HJD.out; omega, HN.out⟩
              · go_wp2
                go_meet
                case rel => exact ⟨j, rfl, rfl, hij, hj, HAT.out⟩
          · go_wp2
            go_meet
            case rel => exact ⟨j, rfl, rfl, hij, hj, HAT.out⟩
      case rest =>
        obtain ⟨j, rfl, hwx, hij, hj, hat⟩ := hcut
        subst hwx
        have HAT := Lib.hid hat
        clear hat HAT0
        by_cases hlj : j < s.size
        · have hg0 := HCF.out.c0
          have hg1 := HCF.out.c1
          have hg2 := HCF.out.c2
          obtain ⟨ad, rfl, hcell⟩ := HRx.out.at_ hlj
          have hr := bt_range s j
          obtain ⟨k, hk1, hk2, hk3⟩ := tx_at s j hlj
          obtain ⟨x, hx⟩ : ∃ x, bt s j = x := ⟨_, rfl⟩
          rw [hx] at hcell hr hk2
          have HK1 := Lib.hid hk1
          have HK2 := Lib.hid hk2
          clear hx hk1 hk2 hk3
          by_cases h34 : x = 34
          · have hq : k = 34 := (Jp.u8 HK2.out 34).2 h34
            subst hq
            subst h34
            obtain ⟨A2, hA2⟩ : ∃ A2, (if c = j + 1 then some ad else some (⟨ad.block, ad.off + (j + 1), none⟩ : Addr)) = A2 := ⟨_, rfl⟩
            have HT := Lib.hid (show Rd wr A2 (s.extract (j + 1) s.size) by rw [← hA2]; exact rdc1 HRx.out (i := j) hc)
            go_upto_region 17 with (fail)
            have e2 : (0 : Int) ≤ (j : Int) + 1 := by omega
            have e3 : (j : Int) + 1 ≤ (s.size : Int) := by omega
            have e4 : ((j : Int) + 1).toNat = j + 1 := by omega
            have e1 : IntKind.i64.wrap ((j : Int) + 1) = (j : Int) + 1 := IntWalk.i64_in _ (by omega)
            go_region_with (first
              | (go_at_call 89; refine (strEndW 34 34 (.inl ⟨rfl, rfl⟩) _ (s.extract (j + 1) s.size) _ _ _ b n _ (HT.out.drew) cut_size (by rw [size_ext]; omega) (by rw [size_ext]; omega)).mono ?_; rintro e w1 ⟨rfl, hb1⟩; replace hb1 := Lib.hid hb1))
            clear e1 e2 e3 e4 hA2
            rw [tx_ext]
            rcases end_cases 34 ((tx s).drop (j + 1)) (by decide) with ⟨m, hm1, hm2, hm3, hm4⟩ | ⟨hm1, hm2⟩
            · have HN := Lib.hid (HAT.out.str HK1.out (.inl rfl) hm1)
              rw [List.length_drop, tx_len] at hm4
              rw [hm2]
              clear hm1 hm2
              have hm0 : ((m : Int) == -1) = false := by rw [beq_eq_false_iff_ne]; omega
              go_wp2
              go_roundg (s.size - (j + m + 1))
              case measure => have := HD.out; omega
              case rel => exact ⟨j + m + 1, lv, rfl, by go_num, by omega, by omega, by omega, by omega, HN.out, HCF.out.below (below_drew_one hb1.out), below_drew_of HB.out hb1.out⟩
            · have HN := Lib.hid (HAT.out.strno HK1.out (.inl rfl) hm1)
              rw [hm2]
              clear hm1 hm2
              go_wp2
              go_ret
              exact BlkPost.no HN.out rfl (below_drew_of HB.out hb1.out)
          by_cases h39 : x = 39
          · have hq : k = 39 := (Jp.u8 HK2.out 39).2 h39
            subst hq
            subst h39
            cases a with
            | true =>
              obtain ⟨A2, hA2⟩ : ∃ A2, (if c = j + 1 then some ad else some (⟨ad.block, ad.off + (j + 1), none⟩ : Addr)) = A2 := ⟨_, rfl⟩
              have HT := Lib.hid (show Rd wr A2 (s.extract (j + 1) s.size) by rw [← hA2]; exact rdc1 HRx.out (i := j) hc)
              go_upto_region 17 with (fail)
              have e2 : (0 : Int) ≤ (j : Int) + 1 := by omega
              have e3 : (j : Int) + 1 ≤ (s.size : Int) := by omega
              have e4 : ((j : Int) + 1).toNat = j + 1 := by omega
              have e1 : IntKind.i64.wrap ((j : Int) + 1) = (j : Int) + 1 := IntWalk.i64_in _ (by omega)
              go_region_with (first
                | (go_at_call 89; refine (strEndW 39 39 (.inr ⟨rfl, rfl⟩) _ (s.extract (j + 1) s.size) _ _ _ b n _ (HT.out.drew) cut_size (by rw [size_ext]; omega) (by rw [size_ext]; omega)).mono ?_; rintro e w1 ⟨rfl, hb1⟩; replace hb1 := Lib.hid hb1))
              clear e1 e2 e3 e4 hA2
              rw [tx_ext]
              rcases end_cases 39 ((tx s).drop (j + 1)) (by decide) with ⟨m, hm1, hm2, hm3, hm4⟩ | ⟨hm1, hm2⟩
              · have HN := Lib.hid (HAT.out.str HK1.out (.inr ⟨rfl, rfl⟩) hm1)
                rw [List.length_drop, tx_len] at hm4
                rw [hm2]
                clear hm1 hm2
                have hm0 : ((m : Int) == -1) = false := by rw [beq_eq_false_iff_ne]; omega
                go_wp2
                go_roundg (s.size - (j + m + 1))
                case measure => have := HD.out; omega
                case rel => exact ⟨j + m + 1, lv, rfl, by go_num, by omega, by omega, by omega, by omega, HN.out, HCF.out.below (below_drew_one hb1.out), below_drew_of HB.out hb1.out⟩
              · have HN := Lib.hid (HAT.out.strno HK1.out (.inr ⟨rfl, rfl⟩) hm1)
                rw [hm2]
                clear hm1 hm2
                go_wp2
                go_ret
                exact BlkPost.no HN.out rfl (below_drew_of HB.out hb1.out)

            | false =>
              have HN := Lib.hid (HAT.out.no HK1.out (q_no39 rfl rfl) (by decide) (by decide))
              go_wp2
              go_roundg (s.size - (j + 1))
              case measure => have := HD.out; omega
              case rel => exact ⟨j + 1, lv, rfl, by go_num, by omega, by omega, by omega, by omega, HN.out, HCF.out, HB.out⟩
          have HQ := Lib.hid (q_no (a := a) HK2.out h34 h39)
          by_cases ho : x = 123
          · have HN := Lib.hid (HAT.out.open_ HK1.out HQ.out ((Jp.u8 HK2.out 123).2 ho))
            subst ho
            go_wp2
            go_roundg (s.size - (j + 1))
            case measure => have := HD.out; omega
            case rel => exact ⟨j + 1, lv + 1, by go_num, by go_num, by omega, by omega, by omega, by omega, HN.out, HCF.out, HB.out⟩
          by_cases hcl : x = 125
          · have HKC := Lib.hid ((Jp.u8 HK2.out 125).2 hcl)
            have HKO := Lib.hid (u8n HK2.out 123 rfl ho)
            subst hcl
            by_cases hz : lv - 1 = 0
            · have HN := Lib.hid (HAT.out.end_ HK1.out HQ.out HKO.out HKC.out hz)
              obtain rfl : lv = 1 := by omega
              clear hz
              go_wp2
              go_ret
              exact BlkPost.yes HN.out (by omega) rfl HB.out
            · have HN := Lib.hid (HAT.out.close HK1.out HQ.out HKO.out HKC.out hz)
              have hz2 : (lv - 1 == 0) = false := by rw [beq_eq_false_iff_ne]; exact hz
              go_wp2
              go_roundg (s.size - (j + 1))
              case measure => have := HD.out; omega
              case rel => exact ⟨j + 1, lv - 1, by go_num, by go_num, by omega, by omega, by omega, by omega, HN.out, HCF.out, HB.out⟩
          · have HN := Lib.hid (HAT.out.no HK1.out HQ.out (u8n HK2.out 123 rfl ho) (u8n HK2.out 125 rfl hcl))
            go_wp2
            go_roundg (s.size - (j + 1))
            case measure => have := HD.out; omega
            case rel => exact ⟨j + 1, lv, rfl, by go_num, by omega, by omega, by omega, by omega, HN.out, HCF.out, HB.out⟩
        · have HN := Lib.hid (HAT.out.out (by rw [tx_len]; omega))
          go_wp2
          go_ret
          exact BlkPost.no HN.out rfl HB.out
    · have HN := Lib.hid (HAT0.out.out (by rw [tx_len]; omega))
      go_wp2
      go_ret
      exact BlkPost.no HN.out rfl HB.out
end Go.Proofs.YtkdkdhcjpgmjdaaGreatDoor.Jp
