/- FnGjSelectors: the law. -/
import Derived.Test.YtfcnjelhhhncoaaGs7
namespace Go.Proofs.Ytfcnjelhhhncoaa.L
open Go.RowKit
set_option linter.unusedVariables false
set_option linter.unusedSimpArgs false

set_option maxRecDepth 100000 in
set_option maxHeartbeats 4000000 in
theorem selW (T : ByteArray) (cl : Int) (e : Nat) (all : List Itm) (w : World) (hcl : cl = 93 ∨ cl = 125) (hI : Its T cl 1 all e) (hn : all.length ≤ 1048576) (hT : T.size ≤ 140737488355328) :
    Calls Try.prog 11 #[.string T] w (DsPost w T all e) := by
  have HSUB := Lib.hid (doorW T cl e all w hcl hI hn hT)
  clear hI hn hcl
  go_enter Try.func11, Try.ntmps11
  go_wp2_with (first
    | (go_at_call 18; (with_reducible refine HSUB.out.mono ?_); rintro e1 w1 ⟨A9, c9, A10, c10, rfl, hb, h9, h10⟩
       have HB := Lib.hid hb
       have H9 := Lib.hid h9
       have H10 := Lib.hid h10
       clear hb h9 h10))
  (try simp only [Exit.inBlock, Exit.then])
  refine bodyPost_ret (v := .tuple #[.slice A9 all.length c9, .slice A10 all.length c10, .string (T.extract (e + 1) T.size), .bool true]) (by simp [results, Try.results11, go_sem]) rfl ?_
  exact ⟨A9, c9, A10, c10, rfl, HB.out, H9.out, H10.out⟩
/-- Two rows of texts, of blocks that are new since w1. -/
structure Duo (w1 : World) (vA : Value) (nA : Nat) (la : List ByteArray) (vB : Value) (nB : Nat) (lb : List ByteArray) (wx : World) : Prop where
  bel : Below w1.heap.size w1 wx
  a : wx.ownsRow w1.heap.size 9 1 vA nA (keysV la)
  b : wx.ownsRow w1.heap.size 9 1 vB nB (keysV lb)
  ne : ∀ l, vA.ownBlock = some l → vB.ownBlock ≠ some l
section
variable {w1 : World} {vA vB : Value} {nA nB : Nat} {la lb : List ByteArray} {wx wy : World}
theorem Duo.below (h : Duo w1 vA nA la vB nB lb wx) (hb : Below wx.heap.size wx wy) : Duo w1 vA nA la vB nB lb wy :=
  ⟨below_of h.bel hb, h.a.kept (grown_of_below hb none) (by cases vA.ownBlock <;> simp), h.b.kept (grown_of_below hb none) (by cases vB.ownBlock <;> simp), h.ne⟩
theorem Duo.alloc (h : Duo w1 vA nA la vB nB lb wx) (o : Obj) : Duo w1 vA nA la vB nB lb (wx.alloc o) := h.below (below_alloc (Below.refl _ _) o)
theorem Duo.drew (h : Duo w1 vA nA la vB nB lb wx) : Duo w1 vA nA la vB nB lb wx.drew := ⟨h.bel.drew, h.a.drew, h.b.drew, h.ne⟩
theorem Duo.swap (h : Duo w1 vA nA la vB nB lb wx) : Duo w1 vB nB lb vA nA la wx := ⟨h.bel, h.b, h.a, fun l e k => h.ne l k e⟩
theorem Duo.app {l cap : Nat} {s : ByteArray} (h : Duo w1 vA nA la vB nB lb wx) (ho : wy.ownsRow w1.heap.size 9 1 (.slice (some ⟨l, 0, none⟩) (nA + 1) cap) (nA + 1) (keysV la ++ [.string s])) (hg : wx.grownBy wy vA.ownBlock) (hat : vA.ownBlock = some l ∨ l = wx.heap.size) :
    Duo w1 (.slice (some ⟨l, 0, none⟩) (nA + 1) cap) (nA + 1) (la ++ [s]) vB nB lb wy := by
  have hl : ∀ k, (Value.slice (some ⟨l, 0, none⟩) (nA + 1) cap).ownBlock = some k → k = l := fun k e => by
    have e' : some l = some k := e
    injection e' with e'
    exact e'.symm
  refine ⟨below_grown h.bel hg (fun k e => (h.a.lt k e).1), ?_, h.b.kept hg ?_, ?_⟩
  · rw [keysV, List.map_append]; exact ho
  · cases e : vB.ownBlock with
    | none => exact .inl rfl
    | some k => exact .inr (fun e2 => h.ne k e2.symm e)
  · intro k e
    obtain rfl := hl k e
    rcases hat with hat | rfl
    · exact h.ne _ hat
    · exact fun e2 => by have := (h.b.lt _ e2).2; omega
theorem Duo.stored {l cap j : Nat} {s : ByteArray} (h : Duo w1 (.slice (some ⟨l, 0, none⟩) nA cap) nA la vB nB lb wx) : Duo w1 (.slice (some ⟨l, 0, none⟩) nA cap) nA (la.set j s) vB nB lb (wx.setCell ⟨l, j, none⟩ (.string s)) := by
  obtain ⟨h1, h2⟩ := h.a.stored j (.string s)
  have hl : (Value.slice (some ⟨l, 0, none⟩) nA cap).ownBlock = some l := rfl
  refine ⟨below_grown h.bel h2 (fun k e => by injection e with e; subst e; exact (h.a.lt _ hl).1), ?_, h.b.kept h2 (.inr (fun e => h.ne l hl e)), h.ne⟩
  rw [keysV, List.map_set]
  exact h1
end
/-- The text of the items so far. -/
def small (x : Itm) : Prop := x.1.size ≤ 1048578 ∧ x.2.size ≤ 1099512676352
theorem itT_size {x : Itm} (h : small x) : (itT x).size ≤ 1099513724931 := by
  unfold itT
  obtain ⟨h1, h2⟩ := h
  split
  · omega
  · rw [ByteArray.size_append, ByteArray.size_append, one_size]; omega
theorem body_size : ∀ (xs : List Itm), (∀ x ∈ xs, small x) → (body xs).size ≤ xs.length * 1099513724932
  | [], _ => by simp [body]
  | [x], h => by have := itT_size (h x (by simp)); simp only [body, List.length_cons, List.length_nil]; omega
  | x :: y :: r, h => by
    have h1 := itT_size (h x (by simp))
    have h2 := body_size (y :: r) (fun z hz => h z (List.mem_cons_of_mem _ hz))
    simp only [body, List.length_cons] at h2 ⊢
    rw [ByteArray.size_append, ByteArray.size_append, one_size]
    omega
def opB (ob : Bool) : ByteArray := if ob then ⟨#[123]⟩ else ⟨#[91]⟩
theorem KsO.mono {w : World} {B B' : Nat → Prop} {ps : List (List ByteArray)} {xs : List Value} (h : KsO w B ps xs) (hb : ∀ j, j < w.heap.size → B j → B' j) : KsO w B' ps xs := ⟨h.1, fun i k hi => by
  obtain ⟨A, c, h1, h2⟩ := h.2 i k hi
  exact ⟨A, c, h1, h2.mono hb⟩⟩
theorem text0 {op : ByteArray} {its : List Itm} (h : its.length = 0) (x : Itm) : (op ++ body its) ++ itT x = op ++ body (its ++ [x]) := by
  obtain rfl := List.eq_nil_of_length_eq_zero h
  simp [body]
theorem text1 {op : ByteArray} {its : List Itm} (h : its.length ≠ 0) (x : Itm) : ((op ++ body its) ++ ⟨#[44]⟩) ++ itT x = op ++ body (its ++ [x]) := by
  rw [body_snoc its x (fun e => h (by rw [e]; rfl))]
  simp only [ByteArray.append_assoc]
theorem set_snoc (l : List ByteArray) (k : Nat) (x q : ByteArray) (h : l.length = k) : (l ++ [x]).set k q = l ++ [q] := by
  subst h
  simp
theorem its_text (a b : UInt8) (its : List Itm) (tail : ByteArray) (hne : its ≠ []) (hg : ∀ x ∈ its, Good x) :
    Its (((⟨#[a]⟩ : ByteArray) ++ body its) ++ ⟨#[b]⟩ ++ tail) (b.toNat : Int) 1 its (1 + (body its).size) ∧ (((⟨#[a]⟩ : ByteArray) ++ body its) ++ ⟨#[b]⟩ ++ tail).extract (1 + (body its).size + 1) (((⟨#[a]⟩ : ByteArray) ++ body its) ++ ⟨#[b]⟩ ++ tail).size = tail := by
  have h1 := at_mid ⟨#[a]⟩ (body its) (⟨#[b]⟩ ++ tail)
  rw [← ByteArray.append_assoc, one_size] at h1
  have h2 := at_mid ((⟨#[a]⟩ : ByteArray) ++ body its) ⟨#[b]⟩ tail
  rw [ByteArray.size_append, one_size] at h2
  have h3 := at_mid (((⟨#[a]⟩ : ByteArray) ++ body its) ++ ⟨#[b]⟩) tail ByteArray.empty
  rw [ByteArray.append_empty, ByteArray.size_append, ByteArray.size_append, one_size, one_size] at h3
  have hs : (((⟨#[a]⟩ : ByteArray) ++ body its) ++ ⟨#[b]⟩ ++ tail).size = 1 + (body its).size + 1 + tail.size := by rw [ByteArray.size_append, ByteArray.size_append, ByteArray.size_append, one_size, one_size]
  refine ⟨its_of hne hg h1 (by omega) ?_, ?_⟩
  · have := (h2.2 0 (by rw [one_size]; omega)).trans (bt_one b)
    exact this
  · rw [hs]; exact h3.ext
theorem Row.drew {w : World} {B : Nat → Prop} {size : Nat} {A : Option Addr} {n c : Nat} {xs : List Value} (h : Row w B size A n c xs) : Row w.drew B size A n c xs := h.keep ⟨Nat.le_refl _, fun _ _ _ => rfl⟩
/-- impl.GjSelectors on the text of the items. -/
theorem selT (a b : UInt8) (its : List Itm) (tail : ByteArray) (n : Nat) (w : World) (hab : (b.toNat : Int) = 93 ∨ (b.toNat : Int) = 125) (hn : its.length = n) (h0 : n ≠ 0) (h1 : n ≤ 32) (hg : ∀ x ∈ its, Good x ∧ small x) (ht : tail.size ≤ 4096) :
    Calls Try.prog 11 #[.string (((⟨#[a]⟩ : ByteArray) ++ body its) ++ ⟨#[b]⟩ ++ tail)] w fun e w' => ∃ A cA B cB, e = .returned (.tuple #[.slice A n cA, .slice B n cB, .string tail, .bool true]) ∧ Below w.heap.size w w' ∧ Row w' (fun _ => True) 1 A n cA (keysV (its.map Prod.fst)) ∧ Row w' (fun _ => True) 1 B n cB (keysV (its.map Prod.snd)) := by
  obtain ⟨k1, k2⟩ := its_text a b its tail (fun e => h0 (by rw [← hn, e]; rfl)) (fun x hx => (hg x hx).1)
  have hb := body_size its (fun x hx => (hg x hx).2)
  have hm : its.length * 1099513724932 ≤ 32 * 1099513724932 := Nat.mul_le_mul_right _ (by omega)
  refine (selW _ _ _ its w hab k1 (by omega) (by rw [ByteArray.size_append, ByteArray.size_append, ByteArray.size_append, one_size, one_size]; omega)).mono ?_
  rintro e w' ⟨A, cA, B, cB, rfl, hb2, h9, h10⟩
  rw [k2, hn]
  rw [hn] at h9 h10
  exact ⟨A, cA, B, cB, rfl, hb2, h9.mono (fun _ _ _ => trivial), h10.mono (fun _ _ _ => trivial)⟩
theorem wx_keepT {w wx : World} (h : Below w.heap.size w wx) : Keeps (fun _ => True) w wx := ⟨h.size, fun j _ hl => h.block j hl⟩
theorem qu_any {s : ByteArray} {w : World} {e : Ending} {w' : World} (h : QuPost s w e w') : w = w' ∧ ∃ (b : Bool) (q : ByteArray), e = .returned (.tuple #[.string q, .bool b]) ∧ (b = true → q = quoB s ∧ ∀ k : Nat, k < s.size → bt s (k : Int) ≠ 34 ∧ bt s (k : Int) ≠ 92) := by
  obtain ⟨rfl, ⟨b, he, hp⟩ | he⟩ := h
  · exact ⟨rfl, b, _, he, fun _ => ⟨rfl, hp⟩⟩
  · exact ⟨rfl, false, _, he, fun h => by cases h⟩
set_option maxRecDepth 100000 in
set_option maxHeartbeats 8000000 in
theorem lawGS (A : Option Addr) (n c : Nat) (rows : List (List ByteArray)) (xs : List Value) (A1 : Option Addr) (n1 c1 : Nat) (names : List ByteArray) (ob : Bool) (tail : ByteArray) (w : World)
    (hR : Row w (fun _ => True) 1 A n c xs) (hC : KsO w (fun _ => True) rows xs) (hR1 : Row w (fun _ => True) 1 A1 n1 c1 (keysV names)) (hn : n ≤ 1048576) (hn1 : n1 ≤ 1048576)
    (hk : ∀ k ∈ rows, k.length ≤ 1048576 ∧ ∀ x ∈ k, x.size ≤ 1048576) (hk1 : ∀ x ∈ names, x.size ≤ 1048576) (ht : tail.size ≤ 1048576) :
    Calls Try.prog 3 #[.slice A n c, .slice A1 n1 c1, .bool ob, .string tail] w fun e w' => e = .returned (.bool true) ∧ Below w.heap.size w w' := by
  have F3 := Lib.hid (fits3S A n c rows xs _ w hR hC hn hk)
  have F1 := Lib.hid (fits1S A1 n1 c1 names _ w hR1 hn1 hk1)
  have HR := Lib.hid (hR.mono (B' := fun j => j < w.heap.size) (fun j h _ => h))
  have HC := Lib.hid (hC.mono (B' := fun j => j < w.heap.size) (fun j h _ => h))
  have HR1 := Lib.hid (hR1.mono (B' := fun j => j < w.heap.size) (fun j h _ => h))
  have HK := Lib.hid hk
  have HK1 := Lib.hid hk1
  have hnx : n = rows.length := by have := hR.1; have := hC.1; omega
  have hnn := (keys_len hR1).1
  have HNX := Lib.hid hnx
  have HNN := Lib.hid hnn
  have t0 : decide ((2147483647 : Int) < (tail.size : Int)) = false := by simp; omega
  clear hR hC hR1 hk hk1 hnx hnn
  go_enter Try.func3, Try.ntmps3
  go_upto_region 3 with (first
    | (go_at_call 5; (with_reducible refine F3.out.mono ?_); rintro e w1 ⟨rfl, rfl⟩)
    | (go_at_call 6; (with_reducible refine F1.out.mono ?_); rintro e w1 ⟨rfl, rfl⟩))
  by_cases a1 : n = 0
  · have b1 : ((n : Int) == 0) = true := by rw [beq_iff_eq]; omega
    go_wp2
    go_ret
    exact ⟨rfl, Below.refl _ _⟩
  have b1 : ((n : Int) == 0) = false := beq_eq_false_iff_ne.2 (by omega)
  by_cases a2 : 32 < n
  · clear a1
    go_wp2
    go_ret
    exact ⟨rfl, Below.refl _ _⟩
  by_cases a3 : n1 = n
  rotate_left
  · have b3 : ((n1 : Int) == (n : Int)) = false := beq_eq_false_iff_ne.2 (by omega)
    clear a1
    go_wp2
    go_ret
    exact ⟨rfl, Below.refl _ _⟩
  subst a3
  by_cases a4 : 4096 < tail.size
  · clear a1
    go_wp2
    go_ret
    exact ⟨rfl, Below.refl _ _⟩
  clear a1
  obtain ⟨i0, hi0, hz0, hz1, hz2⟩ := info_parts info_str
  have HI := Lib.hid hi0
  have HI0 := Lib.hid hz0
  have HI1 := Lib.hid hz1
  have HI2 := Lib.hid hz2
  clear hi0 hz0 hz1 hz2 F1 F3
  cases ob
  all_goals
    go_wp2
  focus
    go_loopg [9, 11, 12, 60] (n1 + 1) (fun d v9 v11 v12 v60 wx => ∃ (k : Nat) (its : List Itm), v60 = .int .i64 (k : Int) ∧ v9 = .string (opB false ++ body its) ∧ its.length = k ∧ k ≤ n1 ∧ n1 < d + k ∧ (∀ x ∈ its, Good x ∧ small x) ∧ Duo w v11 k (its.map Prod.fst) v12 k (its.map Prod.snd) wx)
    case atStart => exact ⟨0, [], rfl, by simp [opB, body], rfl, by omega, by omega, by simp, ⟨Below.refl _ _, World.ownsRow_nil _ _ _ _, World.ownsRow_nil _ _ _ _, fun l e => by cases e⟩⟩
    case round =>
      obtain ⟨k, its, rfl, rfl, hlen, hkn, hd, hgd, hD⟩ := hrel
      have HLEN := Lib.hid hlen
      have HDD := Lib.hid hd
      have HGD := Lib.hid hgd
      have HD := Lib.hid hD
      have hbs := body_size its (fun x hx => (hgd x hx).2)
      obtain ⟨tx0, htx0⟩ : ∃ t, opB false ++ body its = t := ⟨_, rfl⟩
      have hsz : tx0.size ≤ 70368744177664 := by
        rw [← htx0, ByteArray.size_append, show (opB false).size = 1 from rfl]
        have : its.length * 1099513724932 ≤ 32 * 1099513724932 := Nat.mul_le_mul_right _ (by omega)
        omega
      rw [htx0]
      have HT0 := Lib.hid htx0
      clear hlen hd hgd hD hbs htx0
      by_cases hlt : k < n1
      · obtain ⟨ks, hks⟩ : ∃ x, rows[k]? = some x := ⟨_, List.getElem?_eq_getElem (by have := HNX.out; omega)⟩
        obtain ⟨nm, hnm⟩ : ∃ x, names[k]? = some x := ⟨_, List.getElem?_eq_getElem (by have := HNN.out; omega)⟩
        have HKE := Lib.hid (wx_keep HD.out.bel)
        obtain ⟨ad, Ak, ck, rfl, hab, a0, hrw⟩ := ksAtO HR.out HC.out hks
        have a0 := (HD.out.bel.cell (p := ad.add k) (by rw [add_block]; exact hab)).trans a0
        have hrk := hrw.keep HKE.out
        have HRW := Lib.hid hrw
        clear hrw
        obtain ⟨ad1, rfl, hab1, a1⟩ := keyAt HR1.out hnm
        have HA1 := Lib.hid (fun (wz : World) (hz : Below w.heap.size w wz) => (hz.cell (p := ad1.add k) (by rw [add_block]; exact hab1)).trans a1)
        have a1 := HA1.out wr HD.out.bel
        obtain ⟨hk1, hk2⟩ := HK.out ks (List.mem_of_getElem? hks)
        have hnm1 := HK1.out nm (List.mem_of_getElem? hnm)
        have HQ := Lib.hid (gjQuotedW nm wr hnm1)
        have HRE := Lib.hid (gjRestW Ak ks.length ck ks _ wr hrk hk1)
        have HRK := Lib.hid hrk
        have HK2 := Lib.hid hk2
        clear hks hnm hrk hk2
        go_upto_region 13 with (first
          | (go_at_call 7; (with_reducible refine HQ.out.mono ?_); rintro e w1 hq; obtain ⟨rfl, b, q, rfl, hbq⟩ := qu_any hq
             have HBQ := Lib.hid hbq
             clear hq hbq))
        cases b
        · go_wp2
          go_ret
          exact ⟨rfl, HD.out.bel⟩
        obtain ⟨hqq, hqp⟩ := HBQ.out rfl
        have HQP := Lib.hid hqp
        have HQQ := Lib.hid hqq
        clear hqp hqq HBQ
        go_wp2_with (first
          | (go_at_call 8; (with_reducible refine HRE.out.mono ?_); rintro e w1 ⟨⟨b2, rfl, hb2⟩, rfl⟩
             have HB2 := Lib.hid hb2
             clear hb2
             cases b2))
        any_goals
          go_ret
          exact ⟨rfl, HD.out.bel⟩
        have HKN := Lib.hid (show ks ≠ [] from by first | exact HB2.out rfl | exact HB2.out trivial)
        clear a0 a1 HB2
        go_loopg [18, 82] (ks.length + 1) (fun d v18 v82 wx => ∃ m : Nat, v82 = .int .i64 (m : Int) ∧ m ≤ ks.length ∧ ks.length < d + m ∧ (∀ i x, i < m → ks[i]? = some x → IsWord x) ∧ wr = wx)
        case atStart => exact ⟨0, rfl, by omega, by omega, fun i x hi => absurd hi (Nat.not_lt_zero _), rfl⟩
        case round =>
          obtain ⟨m, rfl, hm, hdm, hall, rfl⟩ := hrel
          have HDM := Lib.hid hdm
          have HAL := Lib.hid hall
          clear hdm hall
          have mm : IntKind.i64.wrap ((m : Int) + 1) = (m : Int) + 1 := IntWalk.i64_in _ (by omega)
          by_cases hlm : m < ks.length
          · obtain ⟨y, hy⟩ : ∃ y, ks[m]? = some y := ⟨_, List.getElem?_eq_getElem hlm⟩
            obtain ⟨ad2, rfl, hab2, c0⟩ := keyAt HRK.out hy
            have HY := Lib.hid hy
            have HWD := Lib.hid (gjWordW y wr (HK2.out y (List.mem_of_getElem? hy)))
            clear hy
            go_wp2_with (first
              | (go_at_call 9; (with_reducible refine HWD.out.mono ?_); rintro e w1 ⟨⟨b2, rfl, hb2⟩, rfl⟩
                 have HB2 := Lib.hid hb2
                 clear hb2
                 cases b2))
            any_goals
              go_ret
              exact ⟨rfl, HD.out.bel⟩
            go_roundg (gk - 1)
            case measure => have := HDM.out; omega
            case rel => exact ⟨m + 1, by go_num, by omega, by have := HDM.out; omega, fun i x hi hx => by
              by_cases him : i < m
              · exact HAL.out i x him hx
              · obtain rfl : i = m := by omega
                rw [HY.out] at hx
                injection hx with hx
                rw [← hx]
                first | exact HB2.out rfl | exact HB2.out trivial, rfl⟩
          · have HPO := Lib.hid (fun (wz : World) (hz : Below w.heap.size w wz) => pathOfW Ak ks.length ck ks _ wz (HRW.out.keep (wx_keep hz)) hk1 HK2.out (fun x hx => by
              obtain ⟨i, hi⟩ := List.getElem?_of_mem hx
              exact HAL.out i x (by have := (List.getElem?_eq_some_iff.1 hi).1; omega) hi))
            obtain ⟨pt, hpt⟩ : ∃ pt, joinK ks ks.length = pt := ⟨_, rfl⟩
            have HPT := Lib.hid (show (0 < pt.size ∧ ∀ j : Nat, j < pt.size → PlainB (bt pt (j : Int))) ∧ pt.size ≤ 1099512676352 from by
              have hall : ∀ x ∈ ks, IsWord x := fun x hx => by
                obtain ⟨i, hi⟩ := List.getElem?_of_mem hx
                exact HAL.out i x (by have := (List.getElem?_eq_some_iff.1 hi).1; omega) hi
              have hl : 0 < ks.length := List.length_pos_iff.2 HKN.out
              have hs := joinK_size HK2.out ks.length (Nat.le_refl _)
              have hm : ks.length * 1048577 ≤ 1048576 * 1048577 := Nat.mul_le_mul_right _ hk1
              rw [← hpt]
              exact ⟨⟨joinK_pos hall hl (Nat.le_refl _), joinK_plain hall ks.length (Nat.le_refl _)⟩, by omega⟩)
            rw [hpt] at HPO
            clear hpt HAL HDM mm
            have kk1 : IntKind.i64.wrap ((k : Int) + 1) = (k : Int) + 1 := IntWalk.i64_in _ (by omega)
            by_cases k0 : k = 0
            focus
              have bk : decide (0 < k) = false := by simp; omega
              go_upto_region 23 with (fail)
              have HTX := Lib.hid (fun x => text0 (op := opB false) (HLEN.out.trans k0) x)
              rw [HT0.out] at HTX
              have hsz : tx0.size ≤ 70368744177665 := by omega
              generalize tx0 = tx at HTX hsz ⊢
              clear bk
            rotate_left
            focus
              have bk : decide (0 < k) = true := by simp; omega
              go_upto_region 23 with (fail)
              have HTX := Lib.hid (fun x => text1 (op := opB false) (its := its) (by rw [HLEN.out]; exact k0) x)
              rw [HT0.out] at HTX
              have hsz : (tx0 ++ ⟨#[44]⟩).size ≤ 70368744177665 := by rw [ByteArray.size_append, one_size]; omega
              generalize tx0 ++ ⟨#[44]⟩ = tx at HTX hsz ⊢
              clear bk
            all_goals
              clear k0
              go_upto_region 24 with (first
                | (at_builtin; (refine wpList_append_lies _ rfl (.tmp 94) (.tmp 95) 23 rfl w.heap.size 9 i0 _ 1 16 Try.underlying23 HI.out HI0.out HI1.out HI2.out rfl (by decide) u11 k (keysV (its.map Prod.fst)) rfl (HD.out.alloc _).a _ 1 1 [.string ⟨#[]⟩] rfl rfl (World.news_of_block (cs := #[.string ⟨#[]⟩]) (t := 9) (fr := (0, 0)) (One.new _ 9 (.string ⟨#[]⟩))) (by simp [Value.oneCell']) (by decide) (by simp only [maxLen]; omega) (by omega) (by have := HD.out.bel.size; simp; omega) _ rfl ?_)
                   intro g5 cap5 w5 hO5 hg5 hat5 _
                   have HD5 := Lib.hid ((HD.out.alloc _).app hO5 hg5 hat5)
                   clear hO5 hg5 hat5)
                | (at_builtin; (refine wpList_append_lies _ rfl (.tmp 97) (.tmp 100) 23 rfl w.heap.size 9 i0 _ 1 16 Try.underlying23 HI.out HI0.out HI1.out HI2.out rfl (by decide) u12 k (keysV (its.map Prod.snd)) rfl (HD6.out.alloc _).b _ 1 1 [.string pt] rfl rfl (World.news_of_block (cs := #[.string pt]) (t := 9) (fr := (0, 0)) (One.new _ 9 (.string pt))) (by simp [Value.oneCell']) (by decide) (by simp only [maxLen]; omega) (by omega) (by have := HD6.out.bel.size; simp; omega) _ rfl ?_)
                   intro g7 cap7 w7 hO7 hg7 hat7 _
                   have HD7 := Lib.hid ((HD6.out.alloc _).swap.app hO7 hg7 hat7).swap
                   clear hO7 hg7 hat7)
                | (go_at_call 10; (with_reducible refine (HPO.out _ HD5.out.bel).mono ?_); rintro e6 w6 ⟨rfl, hb6⟩
                   have HD6 := Lib.hid (HD5.out.below hb6)
                   clear hb6))
              have HT7 := Lib.hid (show w7.cell? ((⟨g7, 0, none⟩ : Addr).add k) = some (.string pt) from HD7.out.b.cells (g := g7) rfl k _ (by rw [keysV, List.getElem?_map, List.getElem?_append_right (by rw [List.length_map]; have := HLEN.out; omega)]; simp [HLEN.out]))
              have c7 := HT7.out
              have hpz := HPT.out.2
              have hlk : k < k + 1 := by omega
              obtain ⟨a7, ha7⟩ : ∃ a7 : Addr, (⟨g7, 0, none⟩ : Addr) = a7 := ⟨_, rfl⟩
              rw [ha7] at c7 ⊢
              have HA7 := Lib.hid ha7
              clear ha7
              go_wp2
              go_roundg (n1 - k)
              case measure => have := HDD.out; omega
              case rel =>
                refine ⟨k + 1, its ++ [(⟨#[]⟩, pt)], by go_num, ?_, by rw [List.length_append, HLEN.out]; rfl, by omega, by omega, ?_, ?_⟩
                · rw [← HTX.out]; rfl
                · intro x hx
                  rcases List.mem_append.1 hx with hx | hx
                  · exact HGD.out x hx
                  · obtain rfl := List.mem_singleton.1 hx
                    exact ⟨⟨HPT.out.1, .inl rfl⟩, by show (0 : Nat) ≤ _; omega, HPT.out.2⟩
                · rw [List.map_append, List.map_append, ← HA7.out]; exact HD7.out
      · obtain rfl : n1 = k := by omega
        have HSEL := Lib.hid (selT 91 93 its tail n1 wr (.inl rfl) HLEN.out (by intro e; rw [e] at b1; simp at b1) (by omega) HGD.out (by omega))
        have HSE2 := Lib.hid (show Calls Try.prog 11 #[.string (tx0 ++ ⟨#[93]⟩ ++ tail)] wr _ from by rw [← HT0.out]; exact HSEL.out)
        obtain ⟨A5, c5, rfl, h5⟩ := Row.of_own HD.out.a
        obtain ⟨A6, c6, rfl, h6⟩ := Row.of_own HD.out.b
        have H5 := Lib.hid h5
        have H6 := Lib.hid h6
        clear h5 h6
        have sz1 : (tx0 ++ ⟨#[93]⟩).size ≤ 70368744177665 := by rw [ByteArray.size_append, one_size]; omega
        go_wp2_with (first
          | (go_at_call 11; (with_reducible refine HSE2.out.mono ?_); rintro e3 w3 ⟨A9, c9, A10, c10, rfl, hb3, h9, h10⟩
             have HB3 := Lib.hid hb3
             have H9 := Lib.hid h9
             have H10 := Lib.hid h10
             clear hb3 h9 h10))
        have HKP := Lib.hid (Keeps.of_below (B := fun _ => True) HB3.out)
        have HALL := Lib.hid (show Row w3 (fun _ => True) 1 A9 n1 c9 (keysV (its.map Prod.fst)) ∧ Row w3 (fun _ => True) 1 A10 n1 c10 (keysV (its.map Prod.snd)) ∧ Row w3 (fun _ => True) 1 A5 n1 c5 (keysV (its.map Prod.fst)) ∧ Row w3 (fun _ => True) 1 A6 n1 c6 (keysV (its.map Prod.snd)) ∧ Below w.heap.size w w3 from
          ⟨H9.out, H10.out, (H5.out.mono (B' := fun _ => True) (fun _ _ _ => trivial)).keep HKP.out, (H6.out.mono (B' := fun _ => True) (fun _ _ _ => trivial)).keep HKP.out, below_of HD.out.bel HB3.out⟩)
        go_loopg [23, 159] (n1 + 1) (fun d v23 v159 wx => ∃ m : Nat, v159 = .int .i64 (m : Int) ∧ m ≤ n1 ∧ n1 < d + m ∧ Row wx (fun _ => True) 1 A9 n1 c9 (keysV (its.map Prod.fst)) ∧ Row wx (fun _ => True) 1 A10 n1 c10 (keysV (its.map Prod.snd)) ∧ Row wx (fun _ => True) 1 A5 n1 c5 (keysV (its.map Prod.fst)) ∧ Row wx (fun _ => True) 1 A6 n1 c6 (keysV (its.map Prod.snd)) ∧ Below w.heap.size w wx)
        case atStart => exact ⟨0, rfl, by omega, by omega, HALL.out⟩
        case round =>
          obtain ⟨m, rfl, hm, hdm, q1, q2, q3, q4, q5⟩ := hrel
          have HDM := Lib.hid hdm
          have HQ := Lib.hid (And.intro q1 (And.intro q2 (And.intro q3 (And.intro q4 q5))))
          clear hdm
          by_cases hlm : m < n1
          · obtain ⟨y, hy⟩ : ∃ y, its[m]? = some y := ⟨_, List.getElem?_eq_getElem (by rw [HLEN.out]; exact hlm)⟩
            have hf : (its.map Prod.fst)[m]? = some y.1 := by rw [List.getElem?_map, hy]; rfl
            have hs : (its.map Prod.snd)[m]? = some y.2 := by rw [List.getElem?_map, hy]; rfl
            obtain ⟨d9, rfl, l9, e9⟩ := keyAt q1 hf
            obtain ⟨d10, rfl, l10, e10⟩ := keyAt q2 hs
            obtain ⟨d5, rfl, l5, e5⟩ := keyAt q3 hf
            obtain ⟨d6, rfl, l6, e6⟩ := keyAt q4 hs
            have mm : IntKind.i64.wrap ((m : Int) + 1) = (m : Int) + 1 := IntWalk.i64_in _ (by omega)
            clear q1 q2 q3 q4 q5 hf hs hy
            go_upto_region 35 with (fail)
            go_region
            all_goals
              go_wp2
              go_roundg (gk - 1)
              case measure => have := HDM.out; omega
              case rel => exact ⟨m + 1, by go_num, by omega, by have := HDM.out; omega, HQ.out.1.drew, HQ.out.2.1.drew, HQ.out.2.2.1.drew, HQ.out.2.2.2.1.drew, HQ.out.2.2.2.2.drew⟩
          · go_wp2
            go_ret
            exact ⟨rfl, HQ.out.2.2.2.2⟩
  focus
    go_loopg [9, 11, 12, 60] (n1 + 1) (fun d v9 v11 v12 v60 wx => ∃ (k : Nat) (its : List Itm), v60 = .int .i64 (k : Int) ∧ v9 = .string (opB true ++ body its) ∧ its.length = k ∧ k ≤ n1 ∧ n1 < d + k ∧ (∀ x ∈ its, Good x ∧ small x) ∧ Duo w v11 k (its.map Prod.fst) v12 k (its.map Prod.snd) wx)
    case atStart => exact ⟨0, [], rfl, by simp [opB, body], rfl, by omega, by omega, by simp, ⟨Below.refl _ _, World.ownsRow_nil _ _ _ _, World.ownsRow_nil _ _ _ _, fun l e => by cases e⟩⟩
    case round =>
      obtain ⟨k, its, rfl, rfl, hlen, hkn, hd, hgd, hD⟩ := hrel
      have HLEN := Lib.hid hlen
      have HDD := Lib.hid hd
      have HGD := Lib.hid hgd
      have HD := Lib.hid hD
      have hbs := body_size its (fun x hx => (hgd x hx).2)
      obtain ⟨tx0, htx0⟩ : ∃ t, opB true ++ body its = t := ⟨_, rfl⟩
      have hsz : tx0.size ≤ 70368744177664 := by
        rw [← htx0, ByteArray.size_append, show (opB true).size = 1 from rfl]
        have : its.length * 1099513724932 ≤ 32 * 1099513724932 := Nat.mul_le_mul_right _ (by omega)
        omega
      rw [htx0]
      have HT0 := Lib.hid htx0
      clear hlen hd hgd hD hbs htx0
      by_cases hlt : k < n1
      · obtain ⟨ks, hks⟩ : ∃ x, rows[k]? = some x := ⟨_, List.getElem?_eq_getElem (by have := HNX.out; omega)⟩
        obtain ⟨nm, hnm⟩ : ∃ x, names[k]? = some x := ⟨_, List.getElem?_eq_getElem (by have := HNN.out; omega)⟩
        have HKE := Lib.hid (wx_keep HD.out.bel)
        obtain ⟨ad, Ak, ck, rfl, hab, a0, hrw⟩ := ksAtO HR.out HC.out hks
        have a0 := (HD.out.bel.cell (p := ad.add k) (by rw [add_block]; exact hab)).trans a0
        have hrk := hrw.keep HKE.out
        have HRW := Lib.hid hrw
        clear hrw
        obtain ⟨ad1, rfl, hab1, a1⟩ := keyAt HR1.out hnm
        have HA1 := Lib.hid (fun (wz : World) (hz : Below w.heap.size w wz) => (hz.cell (p := ad1.add k) (by rw [add_block]; exact hab1)).trans a1)
        have a1 := HA1.out wr HD.out.bel
        obtain ⟨hk1, hk2⟩ := HK.out ks (List.mem_of_getElem? hks)
        have hnm1 := HK1.out nm (List.mem_of_getElem? hnm)
        have HQ := Lib.hid (gjQuotedW nm wr hnm1)
        have HRE := Lib.hid (gjRestW Ak ks.length ck ks _ wr hrk hk1)
        have HRK := Lib.hid hrk
        have HK2 := Lib.hid hk2
        clear hks hnm hrk hk2
        go_upto_region 13 with (first
          | (go_at_call 7; (with_reducible refine HQ.out.mono ?_); rintro e w1 hq; obtain ⟨rfl, b, q, rfl, hbq⟩ := qu_any hq
             have HBQ := Lib.hid hbq
             clear hq hbq))
        cases b
        · go_wp2
          go_ret
          exact ⟨rfl, HD.out.bel⟩
        obtain ⟨hqq, hqp⟩ := HBQ.out rfl
        have HQP := Lib.hid hqp
        have HQQ := Lib.hid hqq
        clear hqp hqq HBQ
        go_wp2_with (first
          | (go_at_call 8; (with_reducible refine HRE.out.mono ?_); rintro e w1 ⟨⟨b2, rfl, hb2⟩, rfl⟩
             have HB2 := Lib.hid hb2
             clear hb2
             cases b2))
        any_goals
          go_ret
          exact ⟨rfl, HD.out.bel⟩
        have HKN := Lib.hid (show ks ≠ [] from by first | exact HB2.out rfl | exact HB2.out trivial)
        clear a0 a1 HB2
        go_loopg [18, 82] (ks.length + 1) (fun d v18 v82 wx => ∃ m : Nat, v82 = .int .i64 (m : Int) ∧ m ≤ ks.length ∧ ks.length < d + m ∧ (∀ i x, i < m → ks[i]? = some x → IsWord x) ∧ wr = wx)
        case atStart => exact ⟨0, rfl, by omega, by omega, fun i x hi => absurd hi (Nat.not_lt_zero _), rfl⟩
        case round =>
          obtain ⟨m, rfl, hm, hdm, hall, rfl⟩ := hrel
          have HDM := Lib.hid hdm
          have HAL := Lib.hid hall
          clear hdm hall
          have mm : IntKind.i64.wrap ((m : Int) + 1) = (m : Int) + 1 := IntWalk.i64_in _ (by omega)
          by_cases hlm : m < ks.length
          · obtain ⟨y, hy⟩ : ∃ y, ks[m]? = some y := ⟨_, List.getElem?_eq_getElem hlm⟩
            obtain ⟨ad2, rfl, hab2, c0⟩ := keyAt HRK.out hy
            have HY := Lib.hid hy
            have HWD := Lib.hid (gjWordW y wr (HK2.out y (List.mem_of_getElem? hy)))
            clear hy
            go_wp2_with (first
              | (go_at_call 9; (with_reducible refine HWD.out.mono ?_); rintro e w1 ⟨⟨b2, rfl, hb2⟩, rfl⟩
                 have HB2 := Lib.hid hb2
                 clear hb2
                 cases b2))
            any_goals
              go_ret
              exact ⟨rfl, HD.out.bel⟩
            go_roundg (gk - 1)
            case measure => have := HDM.out; omega
            case rel => exact ⟨m + 1, by go_num, by omega, by have := HDM.out; omega, fun i x hi hx => by
              by_cases him : i < m
              · exact HAL.out i x him hx
              · obtain rfl : i = m := by omega
                rw [HY.out] at hx
                injection hx with hx
                rw [← hx]
                first | exact HB2.out rfl | exact HB2.out trivial, rfl⟩
          · have HPO := Lib.hid (fun (wz : World) (hz : Below w.heap.size w wz) => pathOfW Ak ks.length ck ks _ wz (HRW.out.keep (wx_keep hz)) hk1 HK2.out (fun x hx => by
              obtain ⟨i, hi⟩ := List.getElem?_of_mem hx
              exact HAL.out i x (by have := (List.getElem?_eq_some_iff.1 hi).1; omega) hi))
            obtain ⟨pt, hpt⟩ : ∃ pt, joinK ks ks.length = pt := ⟨_, rfl⟩
            have HPT := Lib.hid (show (0 < pt.size ∧ ∀ j : Nat, j < pt.size → PlainB (bt pt (j : Int))) ∧ pt.size ≤ 1099512676352 from by
              have hall : ∀ x ∈ ks, IsWord x := fun x hx => by
                obtain ⟨i, hi⟩ := List.getElem?_of_mem hx
                exact HAL.out i x (by have := (List.getElem?_eq_some_iff.1 hi).1; omega) hi
              have hl : 0 < ks.length := List.length_pos_iff.2 HKN.out
              have hs := joinK_size HK2.out ks.length (Nat.le_refl _)
              have hm : ks.length * 1048577 ≤ 1048576 * 1048577 := Nat.mul_le_mul_right _ hk1
              rw [← hpt]
              exact ⟨⟨joinK_pos hall hl (Nat.le_refl _), joinK_plain hall ks.length (Nat.le_refl _)⟩, by omega⟩)
            rw [hpt] at HPO
            clear hpt HAL HDM mm
            have kk1 : IntKind.i64.wrap ((k : Int) + 1) = (k : Int) + 1 := IntWalk.i64_in _ (by omega)
            by_cases k0 : k = 0
            focus
              have bk : decide (0 < k) = false := by simp; omega
              go_upto_region 23 with (fail)
              have HTX := Lib.hid (fun x => text0 (op := opB true) (HLEN.out.trans k0) x)
              rw [HT0.out] at HTX
              have hsz : tx0.size ≤ 70368744177665 := by omega
              generalize tx0 = tx at HTX hsz ⊢
              clear bk
            rotate_left
            focus
              have bk : decide (0 < k) = true := by simp; omega
              go_upto_region 23 with (fail)
              have HTX := Lib.hid (fun x => text1 (op := opB true) (its := its) (by rw [HLEN.out]; exact k0) x)
              rw [HT0.out] at HTX
              have hsz : (tx0 ++ ⟨#[44]⟩).size ≤ 70368744177665 := by rw [ByteArray.size_append, one_size]; omega
              generalize tx0 ++ ⟨#[44]⟩ = tx at HTX hsz ⊢
              clear bk
            all_goals
              clear k0
              go_upto_region 24 with (first
                | (at_builtin; (refine wpList_append_lies _ rfl (.tmp 94) (.tmp 95) 23 rfl w.heap.size 9 i0 _ 1 16 Try.underlying23 HI.out HI0.out HI1.out HI2.out rfl (by decide) u11 k (keysV (its.map Prod.fst)) rfl (HD.out.alloc _).a _ 1 1 [.string ⟨#[]⟩] rfl rfl (World.news_of_block (cs := #[.string ⟨#[]⟩]) (t := 9) (fr := (0, 0)) (One.new _ 9 (.string ⟨#[]⟩))) (by simp [Value.oneCell']) (by decide) (by simp only [maxLen]; omega) (by omega) (by have := HD.out.bel.size; simp; omega) _ rfl ?_)
                   intro g5 cap5 w5 hO5 hg5 hat5 _
                   have HD5 := Lib.hid ((HD.out.alloc _).app hO5 hg5 hat5)
                   clear hO5 hg5 hat5)
                | (at_builtin; (refine wpList_append_lies _ rfl (.tmp 97) (.tmp 100) 23 rfl w.heap.size 9 i0 _ 1 16 Try.underlying23 HI.out HI0.out HI1.out HI2.out rfl (by decide) u12 k (keysV (its.map Prod.snd)) rfl (HD6.out.alloc _).b _ 1 1 [.string pt] rfl rfl (World.news_of_block (cs := #[.string pt]) (t := 9) (fr := (0, 0)) (One.new _ 9 (.string pt))) (by simp [Value.oneCell']) (by decide) (by simp only [maxLen]; omega) (by omega) (by have := HD6.out.bel.size; simp; omega) _ rfl ?_)
                   intro g7 cap7 w7 hO7 hg7 hat7 _
                   have HD7 := Lib.hid ((HD6.out.alloc _).swap.app hO7 hg7 hat7).swap
                   clear hO7 hg7 hat7)
                | (go_at_call 10; (with_reducible refine (HPO.out _ HD5.out.bel).mono ?_); rintro e6 w6 ⟨rfl, hb6⟩
                   have HD6 := Lib.hid (HD5.out.below hb6)
                   clear hb6))
              have HT7 := Lib.hid (show w7.cell? ((⟨g7, 0, none⟩ : Addr).add k) = some (.string pt) from HD7.out.b.cells (g := g7) rfl k _ (by rw [keysV, List.getElem?_map, List.getElem?_append_right (by rw [List.length_map]; have := HLEN.out; omega)]; simp [HLEN.out]))
              have c7 := HT7.out
              have hpz := HPT.out.2
              have a17 := HA1.out w7 HD7.out.bel
              by_cases hne : nm.toList.isEmpty = true
              · have hlk : k < k + 1 := by omega
                obtain ⟨a7, ha7⟩ : ∃ a7 : Addr, (⟨g7, 0, none⟩ : Addr) = a7 := ⟨_, rfl⟩
                rw [ha7] at c7 ⊢
                have HA7 := Lib.hid ha7
                clear ha7
                go_wp2
                go_roundg (n1 - k)
                case measure => have := HDD.out; omega
                case rel =>
                  refine ⟨k + 1, its ++ [(⟨#[]⟩, pt)], by go_num, ?_, by rw [List.length_append, HLEN.out]; rfl, by omega, by omega, ?_, ?_⟩
                  · rw [← HTX.out]; rfl
                  · intro x hx
                    rcases List.mem_append.1 hx with hx | hx
                    · exact HGD.out x hx
                    · obtain rfl := List.mem_singleton.1 hx
                      exact ⟨⟨HPT.out.1, .inl rfl⟩, by show (0 : Nat) ≤ _; omega, HPT.out.2⟩
                  · rw [List.map_append, List.map_append, ← HA7.out]; exact HD7.out
              · have hne2 : nm.toList.isEmpty = false := by cases h : nm.toList.isEmpty with
                  | false => rfl
                  | true => exact absurd h hne
                clear hne
                have hlk : k < k + 1 := by omega
                have HQZ := Lib.hid (show 0 < q.size ∧ q.size ≤ 1048578 from by rw [HQQ.out]; unfold quoB; rw [ByteArray.size_append, ByteArray.size_append, one_size]; omega)
                have c5 : w7.cell? ((⟨g5, 0, none⟩ : Addr).add k) = some (.string ⟨#[]⟩) := HD7.out.a.cells (g := g5) rfl k _ (by rw [keysV, List.getElem?_map, List.getElem?_append_right (by rw [List.length_map]; have := HLEN.out; omega)]; simp [HLEN.out])
                have hadd : ∀ l : Nat, (⟨l, 0, none⟩ : Addr).add k = ⟨l, k, none⟩ := fun l => by
                  unfold Addr.add
                  split
                  · rename_i h0; rw [h0]
                  · simp
                have f5 : w7.frozen? ((⟨g5, 0, none⟩ : Addr).add k) = false := by rw [hadd]; exact HD7.out.a.frozenAt k
                have HD8 := Lib.hid (show Duo w _ _ (its.map Prod.fst ++ [q]) _ _ _ (w7.setCell ((⟨g5, 0, none⟩ : Addr).add k) (.string q)) from by
                  have h8 := HD7.out.stored (j := k) (s := q)
                  rw [set_snoc (its.map Prod.fst) k ⟨#[]⟩ q (by rw [List.length_map]; exact HLEN.out)] at h8
                  rw [hadd]
                  exact h8)
                obtain ⟨a7, ha7⟩ : ∃ a7 : Addr, (⟨g7, 0, none⟩ : Addr) = a7 := ⟨_, rfl⟩
                obtain ⟨a5, ha5⟩ : ∃ a5 : Addr, (⟨g5, 0, none⟩ : Addr) = a5 := ⟨_, rfl⟩
                rw [ha5] at c5 f5 HD8
                rw [ha7] at c7
                rw [ha5, ha7]
                have HA7 := Lib.hid ha7
                have HA5 := Lib.hid ha5
                clear ha7 ha5 hadd
                go_upto_region 26 with (fail)
                obtain ⟨w8, hw8⟩ : ∃ w8, w7.setCell (a5.add k) (.string q) = w8 := ⟨_, rfl⟩
                rw [hw8] at HD8 ⊢
                have c8 : w8.cell? (a7.add k) = some (.string pt) := by
                  rw [← HA7.out]
                  exact HD8.out.b.cells (g := g7) rfl k _ (by rw [keysV, List.getElem?_map, List.getElem?_append_right (by rw [List.length_map]; have := HLEN.out; omega)]; simp [HLEN.out])
                have qz := HQZ.out.2
                have qz2 : (q ++ ⟨#[58]⟩).size ≤ 1048579 := by rw [ByteArray.size_append, one_size]; omega
                have qz3 : (tx ++ (q ++ ⟨#[58]⟩)).size ≤ 70368745226244 := by rw [ByteArray.size_append]; omega
                clear c5 f5 c7 hw8
                go_wp2
                go_roundg (n1 - k)
                case measure => have := HDD.out; omega
                case rel =>
                  refine ⟨k + 1, its ++ [(q, pt)], by go_num, ?_, by rw [List.length_append, HLEN.out]; rfl, by omega, by omega, ?_, ?_⟩
                  · rw [← HTX.out]
                    unfold itT
                    rw [if_neg (show ¬ q.size = 0 by have := HQZ.out.1; omega)]
                    simp only [ByteArray.append_assoc]
                  · intro x hx
                    rcases List.mem_append.1 hx with hx | hx
                    · exact HGD.out x hx
                    · obtain rfl := List.mem_singleton.1 hx
                      exact ⟨⟨HPT.out.1, .inr ⟨nm, HQQ.out, HQP.out⟩⟩, HQZ.out.2, HPT.out.2⟩
                  · rw [List.map_append, List.map_append, ← HA7.out, ← HA5.out]
                    have h8 := HD8.out
                    rw [← HA5.out] at h8
                    exact h8
      · obtain rfl : n1 = k := by omega
        have HSEL := Lib.hid (selT 123 125 its tail n1 wr (.inr rfl) HLEN.out (by intro e; rw [e] at b1; simp at b1) (by omega) HGD.out (by omega))
        have HSE2 := Lib.hid (show Calls Try.prog 11 #[.string (tx0 ++ ⟨#[125]⟩ ++ tail)] wr _ from by rw [← HT0.out]; exact HSEL.out)
        obtain ⟨A5, c5, rfl, h5⟩ := Row.of_own HD.out.a
        obtain ⟨A6, c6, rfl, h6⟩ := Row.of_own HD.out.b
        have H5 := Lib.hid h5
        have H6 := Lib.hid h6
        clear h5 h6
        have sz1 : (tx0 ++ ⟨#[125]⟩).size ≤ 70368744177665 := by rw [ByteArray.size_append, one_size]; omega
        go_wp2_with (first
          | (go_at_call 11; (with_reducible refine HSE2.out.mono ?_); rintro e3 w3 ⟨A9, c9, A10, c10, rfl, hb3, h9, h10⟩
             have HB3 := Lib.hid hb3
             have H9 := Lib.hid h9
             have H10 := Lib.hid h10
             clear hb3 h9 h10))
        have HKP := Lib.hid (Keeps.of_below (B := fun _ => True) HB3.out)
        have HALL := Lib.hid (show Row w3 (fun _ => True) 1 A9 n1 c9 (keysV (its.map Prod.fst)) ∧ Row w3 (fun _ => True) 1 A10 n1 c10 (keysV (its.map Prod.snd)) ∧ Row w3 (fun _ => True) 1 A5 n1 c5 (keysV (its.map Prod.fst)) ∧ Row w3 (fun _ => True) 1 A6 n1 c6 (keysV (its.map Prod.snd)) ∧ Below w.heap.size w w3 from
          ⟨H9.out, H10.out, (H5.out.mono (B' := fun _ => True) (fun _ _ _ => trivial)).keep HKP.out, (H6.out.mono (B' := fun _ => True) (fun _ _ _ => trivial)).keep HKP.out, below_of HD.out.bel HB3.out⟩)
        go_loopg [23, 159] (n1 + 1) (fun d v23 v159 wx => ∃ m : Nat, v159 = .int .i64 (m : Int) ∧ m ≤ n1 ∧ n1 < d + m ∧ Row wx (fun _ => True) 1 A9 n1 c9 (keysV (its.map Prod.fst)) ∧ Row wx (fun _ => True) 1 A10 n1 c10 (keysV (its.map Prod.snd)) ∧ Row wx (fun _ => True) 1 A5 n1 c5 (keysV (its.map Prod.fst)) ∧ Row wx (fun _ => True) 1 A6 n1 c6 (keysV (its.map Prod.snd)) ∧ Below w.heap.size w wx)
        case atStart => exact ⟨0, rfl, by omega, by omega, HALL.out⟩
        case round =>
          obtain ⟨m, rfl, hm, hdm, q1, q2, q3, q4, q5⟩ := hrel
          have HDM := Lib.hid hdm
          have HQ := Lib.hid (And.intro q1 (And.intro q2 (And.intro q3 (And.intro q4 q5))))
          clear hdm
          by_cases hlm : m < n1
          · obtain ⟨y, hy⟩ : ∃ y, its[m]? = some y := ⟨_, List.getElem?_eq_getElem (by rw [HLEN.out]; exact hlm)⟩
            have hf : (its.map Prod.fst)[m]? = some y.1 := by rw [List.getElem?_map, hy]; rfl
            have hs : (its.map Prod.snd)[m]? = some y.2 := by rw [List.getElem?_map, hy]; rfl
            obtain ⟨d9, rfl, l9, e9⟩ := keyAt q1 hf
            obtain ⟨d10, rfl, l10, e10⟩ := keyAt q2 hs
            obtain ⟨d5, rfl, l5, e5⟩ := keyAt q3 hf
            obtain ⟨d6, rfl, l6, e6⟩ := keyAt q4 hs
            have mm : IntKind.i64.wrap ((m : Int) + 1) = (m : Int) + 1 := IntWalk.i64_in _ (by omega)
            clear q1 q2 q3 q4 q5 hf hs hy
            go_upto_region 35 with (fail)
            go_region
            all_goals
              go_wp2
              go_roundg (gk - 1)
              case measure => have := HDM.out; omega
              case rel => exact ⟨m + 1, by go_num, by omega, by have := HDM.out; omega, HQ.out.1.drew, HQ.out.2.1.drew, HQ.out.2.2.1.drew, HQ.out.2.2.2.1.drew, HQ.out.2.2.2.2.drew⟩
          · go_wp2
            go_ret
            exact ⟨rfl, HQ.out.2.2.2.2⟩
end Go.Proofs.Ytfcnjelhhhncoaa.L
