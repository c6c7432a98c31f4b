/- FnGjSelectors: PathOf over words. -/
import Derived.Test.YtfcnjelhhhncoaaGs2
namespace Go.Proofs.Ytfcnjelhhhncoaa.L
open Go.RowKit
set_option linter.unusedVariables false
set_option linter.unusedSimpArgs false

theorem below_own {w wr w' : World} {base : Nat} {v : Value} {s : ByteArray} {o : Obj} (hb : Below base w wr) (hs : base ≤ wr.heap.size) (ho : Own (wr.alloc o) base v s) (hg : (wr.alloc o).grownBy w' v.ownBlock) : Below base w w' :=
  ⟨hg.os.trans hb.os, hg.tape.trans hb.tape, hg.output.trans hb.output, Nat.le_trans (Nat.le_trans hb.size (by simp)) hg.size, fun j hj => (hg.block j (by simp; omega) (fun e => by have := (ho.block j e.symm).1; omega)).trans ((Below.heap_alloc wr o j (by omega)).trans (hb.block j hj))⟩
theorem joinK_succ {ks : List ByteArray} {k : Nat} {x : ByteArray} (h : ks[k]? = some x) : joinK ks (k + 1) = (if k = 0 then ByteArray.empty else joinK ks k ++ ⟨#[46]⟩) ++ x := by
  simp only [joinK]
  rw [List.getD_eq_getElem?_getD, h]
  rfl
theorem emp_app (s : ByteArray) : ByteArray.empty ++ s = s := by simp
set_option maxRecDepth 100000 in
set_option maxHeartbeats 8000000 in
theorem pathOfW (A : Option Addr) (n c : Nat) (ks : List ByteArray) (B : Nat → Prop) (w : World) (hR : Row w B 1 A n c (keysV ks)) (hn1 : n ≤ 1048576) (hsz : ∀ x ∈ ks, x.size ≤ 1048576) (hw : ∀ x ∈ ks, IsWord x) :
    Calls Try.prog 10 #[.slice A n c] w fun e w' => e = .returned (.string (joinK ks n)) ∧ Below w.heap.size w w' := by
  obtain ⟨hn, hnm⟩ := keys_len hR
  have HR := Lib.hid hR
  have HN := Lib.hid hn
  have HS := Lib.hid hsz
  have HW := Lib.hid hw
  have HJS := Lib.hid (fun k (hk : k ≤ ks.length) => joinK_size hsz k hk)
  clear hR hn hsz hw
  go_enter Try.func10, Try.ntmps10
  go_wp2_with (fail)
  go_loopg [3, 9] (n + 1) (fun d v3 v9 wx => ∃ k : Nat, v9 = .int .i64 (k : Int) ∧ k ≤ n ∧ n < d + k ∧ Own wx w.heap.size v3 (joinK ks k) ∧ Below w.heap.size w wx)
  case atStart => exact ⟨0, rfl, by omega, by omega, Own.nil _ _, Below.refl _ _⟩
  case round =>
    obtain ⟨k, rfl, hk, hd, ho, hb⟩ := hrel
    have HD := Lib.hid hd
    have HO := Lib.hid ho
    have HB := Lib.hid hb
    by_cases hlt : k < n
    · obtain ⟨x, hx⟩ : ∃ x, ks[k]? = some x := ⟨_, List.getElem?_eq_getElem (by rw [← HN.out]; exact hlt)⟩
      obtain ⟨ad, rfl, hlb, hc⟩ := keyAt (HR.out.keep (.of_below hb)) hx
      have hxs := HS.out x (List.mem_of_getElem? hx)
      have hxw := HW.out x (List.mem_of_getElem? hx)
      have HXW := Lib.hid hxw
      have HSUC := Lib.hid (joinK_succ hx)
      have hjs := HJS.out k (by have := HN.out; omega)
      have hjs2 : (joinK ks k).size ≤ 1099512676352 := by
        refine Nat.le_trans hjs ?_
        have := Nat.mul_le_mul_right 1048577 (show k ≤ 1048576 by omega)
        omega
      obtain ⟨jk, hjk⟩ : ∃ j, joinK ks k = j := ⟨_, rfl⟩
      rw [hjk] at HO hjs2
      clear hx hxw hd hb ho hjs
      have HJK := Lib.hid hjk
      clear hjk
      go_upto_region 5 with (fail)
      by_cases hk0 : k = 0
      focus
        have hk1 : decide (0 < k) = false := by simp; omega
        obtain ⟨pre, hpre⟩ : ∃ p, (if k = 0 then ByteArray.empty else joinK ks k ++ ⟨#[46]⟩ : ByteArray) = p := ⟨_, rfl⟩
        have hpj : jk = pre := by rw [← hpre, if_pos hk0, ← HJK.out, hk0]; rfl
        rw [hpj] at HO
        have hps : pre.size ≤ 1099512676353 := by rw [← hpj]; omega
        have HPRE := Lib.hid hpre
        clear hpre hpj hk0
        go_upto_region 7 with (fail)
        obtain ⟨w5, rfl⟩ : ∃ x, x = wr := ⟨_, rfl⟩
      rotate_left
      focus
        have hk1 : decide (0 < k) = true := by simp; omega
        have hk2 : 0 < k := by omega
        obtain ⟨pre, hpre⟩ : ∃ p, (if k = 0 then ByteArray.empty else joinK ks k ++ ⟨#[46]⟩ : ByteArray) = p := ⟨_, rfl⟩
        have hpj : jk ++ strOfNums [46] = pre := by rw [← hpre, if_neg hk0, ← HJK.out]; rfl
        have hz1 : (strOfNums [46]).size = 1 := by rw [strOfNums_size]; rfl
        have hps : pre.size ≤ 1099512676353 := by rw [← hpj, ByteArray.size_append, hz1]; omega
        have HPRE := Lib.hid hpre
        have HPJ := Lib.hid hpj
        have HLIT := Lib.hid (rd_lit wr 5 [46] (by simp))
        have HOA := Lib.hid (HO.out.alloc (.cells #[.int .u8 46] 5))
        have HZB := Lib.hid (show jk.size + (strOfNums [46]).size ≤ 140737488355328 by rw [hz1]; omega)
        have HBS := Lib.hid (show w.heap.size ≤ (wr.alloc (.cells #[.int .u8 46] 5)).heap.size by have := HB.out.size; simp; omega)
        have HZ1 := Lib.hid hz1.symm
        clear hpre hpj hk0 hz1
        go_upto_region 7 with (first
          | (at_builtin; (refine app_rd _ rfl (.tmp 16) (.tmp 17) rfl w.heap.size _ jk (strOfNums [46]) (some ⟨wr.heap.size, 0, none⟩) 1 1 rfl rfl HZ1.out HOA.out HLIT.out HZB.out HBS.out ?_); intro v5 w5 hO5 hg5 hat5))
        rw [HPJ.out] at hO5
        have HB5 := Lib.hid (below_own HB.out HB.out.size HOA.out hg5)
        replace HB := HB5
        replace HO := Lib.hid hO5
        clear hO5 hg5 hat5 HB5
      all_goals
        have hx0 : x.extract 0 0 = ByteArray.empty := by
          refine eq_of_bt (by rw [size_ext]; rfl) fun i hi => ?_
          rw [size_ext] at hi; omega
        have HO0 := Lib.hid (show Own w5 w.heap.size _ (pre ++ x.extract 0 0) by rw [hx0, show pre ++ ByteArray.empty = pre by simp]; exact HO.out)
        obtain ⟨gk0, hgk0⟩ : ∃ g, g = gk := ⟨_, rfl⟩
        have HGK := Lib.hid hgk0
        clear hgk0 hx0
        go_wp2_with (fail)
        go_loopg [3, 6] (x.size + 1) (fun d2 v3 v6 wx => ∃ i : Nat, v6 = .int .i64 (i : Int) ∧ i ≤ x.size ∧ x.size < d2 + i ∧ Own wx w.heap.size v3 (pre ++ x.extract 0 i) ∧ Below w.heap.size w wx)
        case atStart => exact ⟨0, rfl, by omega, by omega, HO0.out, HB.out⟩
        case round =>
          obtain ⟨i, rfl, hi, hd2, ho2, hb2⟩ := hrel
          have HO2 := Lib.hid ho2
          have HB2 := Lib.hid hb2
          clear ho2 hb2
          by_cases hlt2 : i < x.size
          · have x0 : ∀ h : i < x.size, ((x[i]'h).toNat : Int) = bt x i := bt_at x i
            have hr := bt_range x (i : Nat)
            have HES := Lib.hid (ext_succ hlt2)
            have HWB := Lib.hid (HXW.out.2 i hlt2)
            obtain ⟨z, hz⟩ : ∃ c, bt x (i : Nat) = c := ⟨_, rfl⟩
            rw [hz] at x0 hr HES HWB
            clear hz
            obtain ⟨hr0, hr1⟩ := hr
            have ii : IntKind.i64.wrap ((i : Int) + 1) = (i : Int) + 1 := IntWalk.i64_in _ (by omega)
            have hz1 : (strOfNums [z]).size = 1 := by rw [strOfNums_size]; rfl
            have hps2 : (pre ++ x.extract 0 i).size ≤ 1099513724929 := by rw [ByteArray.size_append, size_ext]; omega
            obtain ⟨cur, hcur⟩ : ∃ c, pre ++ x.extract 0 i = c := ⟨_, rfl⟩
            rw [hcur] at HO2 hps2
            have HPB := Lib.hid (fun (W : World) => pathByteW z W HWB.out hr0)
            have HLIT := Lib.hid (rd_lit wr 5 [z] (by simp; omega))
            have HOA := Lib.hid (HO2.out.alloc (.cells #[.int .u8 z] 5))
            have HZB := Lib.hid (show cur.size + (strOfNums [z]).size ≤ 140737488355328 by rw [hz1]; omega)
            have HBS := Lib.hid (show w.heap.size ≤ (wr.alloc (.cells #[.int .u8 z] 5)).heap.size by have := HB2.out.size; simp; omega)
            have HZ1 := Lib.hid hz1.symm
            have HCUR := Lib.hid hcur
            clear hcur hz1
            go_upto_region 9 with (first
              | (go_at_call 17; (with_reducible refine (HPB.out _).mono ?_); rintro e w6 ⟨rfl, rfl⟩)
              | (at_builtin; (refine app_rd _ rfl (.tmp 33) (.tmp 37) rfl w.heap.size _ cur (strOfNums [z]) (some ⟨wr.heap.size, 0, none⟩) 1 1 rfl rfl HZ1.out HOA.out HLIT.out HZB.out HBS.out ?_)
                 intro v7 w7 hO7 hg7 hat7
                 have HB7 := Lib.hid (below_own HB2.out HB2.out.size HOA.out hg7)
                 have HO7 := Lib.hid hO7
                 clear hO7 hg7 hat7))
            go_wp2
            go_roundg (gk - 1)
            case measure => omega
            case rel => exact ⟨i + 1, by go_num, by omega, by omega, by
              have h := HO7.out
              rw [← HCUR.out, ByteArray.append_assoc, ← HES.out] at h
              exact h, HB7.out⟩
          · obtain rfl : i = x.size := by omega
            have HO9 := Lib.hid (show Own wr w.heap.size u3 (joinK ks (k + 1)) by
              rw [HSUC.out, HPRE.out]
              have h := HO2.out
              rwa [ext_all] at h)
            go_wp2_with (fail)
            go_roundg (gk0 - 1)
            case measure => have := HGK.out; have := HD.out; omega
            case rel => exact ⟨k + 1, by go_num, by omega, by have := HGK.out; have := HD.out; omega, HO9.out, HB2.out⟩
    · obtain rfl : k = n := by omega
      obtain ⟨A3, c3, rfl, hc3, hr3⟩ := HO.out.rd
      have hcv : (convert 41 9 (.slice A3 (joinK ks k).size c3)).run Try.prog wr = .ok (.string (joinK ks k)) wr := hr3.string Try.underlying41 Try.underlying5 Try.underlying9
      clear hr3 ho
      go_wp2
      go_ret
      exact ⟨rfl, HB.out⟩
end Go.Proofs.Ytfcnjelhhhncoaa.L
