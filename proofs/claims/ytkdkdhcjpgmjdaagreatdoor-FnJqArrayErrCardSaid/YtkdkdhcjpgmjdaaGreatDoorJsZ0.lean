/- internalGetConfig with keys that lead to a value; jsonparser's variables as a row lists them. -/
import Derived.Test.YtkdkdhcjpgmjdaaGreatDoorJpGet2
import Derived.Lib.LaidU8
import Derived.LaidLaws
import Derived.LaidMore
import Derived.Lay
import Derived.ChangeOld
import Derived.ChangeAt
import Derived.Test.YtkdkdhcjpgmjdaaGreatDoorJpFind2
import Derived.SliceStrings
import Derived.Carry
import Derived.ProofKit
import Derived.SizedLaws
import Derived.WideShapes
import Derived.ChangeShapes
import Derived.Test.YtkdkdhcjpgmjdaaGreatDoorJsA
import Derived.Test.YtkdkdhcjpgmjdaaGreatDoorJsX
import Derived.Deep.DeepCutAuto
import Derived.Deep.RegionHeld3
import Derived.Deep.LoopGhost
import Derived.Deep.Light
import Derived.BigQuiet
import Derived.Lib.LaidTab
/- jsonparser's variables, as a row lists them. -/
namespace Go.Proofs.YtkdkdhcjpgmjdaaGreatDoor.Jp
open Go.RowKit L Go.Lib Go.ChangeShapes Go.WideShapes Go.ChangeAt Go.WideMaps Go.WideElems
set_option linter.unusedVariables false

theorem gl_of {W : World} {nm tn : String} {g : Nat} {y : DataW Unit} (hr : VarReads Tryz.prog W nm (.iface tn y)) (hg0 : Tryz.prog.globalNamed nm = some g) (ht0 : (Tryz.prog.globals[g]?).map (·.type) = some 56) : ∃ t v, Gl W g t v := by
  obtain ⟨g', t, cs, fuel, p, hg, ht, hv, hd⟩ := hr
  obtain rfl : g = g' := Option.some.inj (hg0.symm.trans hg)
  obtain rfl : 56 = t := Option.some.inj (ht0.symm.trans ht)
  obtain ⟨f1, u, v, hcs, -, -⟩ := iface_of_trod Tryz.underlying56 hd
  obtain ⟨l⟩ := cs
  have hcs' : l = [.iface u v] := hcs
  subst hcs'
  have hc : W.cell? ⟨g, 0, none⟩ = some (.iface u v) := by simpa using World.var?_cell hg hv 0
  exact ⟨u, v, World.block_lt_of_cell? W _ hc, hc⟩
set_option maxRecDepth 100000 in
theorem cfg_of {W : World} (hr : VarReads Tryz.prog W "pub-tetrapla/pub/jsonparser.DefaultConfig" (.agg [.lit (.bool false), .lit (.bool false), .lit (.int .i64 0)])) :
    2 < W.heap.size ∧ W.cell? ⟨2, 0, none⟩ = some (.bool false) ∧ W.cell? ⟨2, 1, none⟩ = some (.bool false) ∧ W.cell? ⟨2, 2, none⟩ = some (.int .i64 0) := by
  obtain ⟨g', t, cs, fuel, p, hg, ht, hv, hd⟩ := hr
  obtain rfl : 2 = g' := Option.some.inj ((show Tryz.prog.globalNamed "pub-tetrapla/pub/jsonparser.DefaultConfig" = some 2 by kernel_rfl).symm.trans hg)
  obtain rfl : 97 = t := Option.some.inj ((show (Tryz.prog.globals[2]?).map (·.type) = some 97 by kernel_rfl).symm.trans ht)
  obtain ⟨xs, n, _, hx, hcl, hlen, hf⟩ := DataW.trod_struct Tryz.underlying97 hd
  have hC : Tryz.prog.cellsOf 97 = 3 := by kernel_rfl
  have cB : Tryz.prog.cellsOf 4 = 1 := by kernel_rfl
  have cI : Tryz.prog.cellsOf 3 = 1 := by kernel_rfl
  match xs, hlen with
  | [y0, y1, y2], _ =>
    have h0 := hf 0 _ rfl
    have h1 := hf 1 _ rfl
    have h2 := hf 2 _ rfl
    obtain ⟨b0, e0, rfl⟩ := DataW.trod_bool Tryz.underlying4 h0
    obtain ⟨b1, e1, rfl⟩ := DataW.trod_bool Tryz.underlying4 h1
    obtain ⟨n2, e2, rfl, _⟩ := DataW.trod_int Tryz.underlying3 h2
    simp only [Prod.mk.injEq, List.map_cons, List.map_nil] at hx
    have hx1 := hx.1
    injection hx1 with hx1
    injection hx1 with a0 hx1
    injection hx1 with a1 hx1
    injection hx1 with a2 _
    injection a0 with a0
    injection a0 with a0
    injection a1 with a1
    injection a1 with a1
    injection a2 with a2
    injection a2 with _ a2
    subst a0 a1 a2
    obtain ⟨l⟩ := cs
    rw [hC] at hcl
    match l, hcl with
    | [c0, c1, c2], _ =>
      simp [cB, cI] at e0 e1 e2
      subst e0 e1 e2
      have hc := World.var?_cell hg hv
      have hc0 := hc 0
      exact ⟨World.block_lt_of_cell? W _ (hc 0), hc 0, hc 1, hc 2⟩
/-- The seven variables. -/
theorem wd_of {L : List (String × DataW Unit)} {W : World} (h : laidMet Tryz.prog L W)
    (m0 : ("pub-tetrapla/pub/jsonparser.DefaultConfig", .agg [.lit (.bool false), .lit (.bool false), .lit (.int .i64 0)]) ∈ L) {n1 n2 n3 n4 n5 n6 : String} {d1 d2 d3 d4 d5 d6 : DataW Unit}
    (m1 : ("pub-tetrapla/pub/jsonparser.KeyPathNotFoundError", .iface n1 d1) ∈ L) (m2 : ("pub-tetrapla/pub/jsonparser.UnknownValueTypeError", .iface n2 d2) ∈ L) (m3 : ("pub-tetrapla/pub/jsonparser.MalformedJsonError", .iface n3 d3) ∈ L)
    (m4 : ("pub-tetrapla/pub/jsonparser.MalformedStringError", .iface n4 d4) ∈ L) (m5 : ("pub-tetrapla/pub/jsonparser.MalformedArrayError", .iface n5 d5) ∈ L) (m6 : ("pub-tetrapla/pub/jsonparser.MalformedObjectError", .iface n6 d6) ∈ L) : ∃ T V, Wd T V W := by
  obtain ⟨c1, c2, c3, c4⟩ := cfg_of (laidMet.reads h m0)
  obtain ⟨t1, v1, g1⟩ := gl_of (laidMet.reads h m1) (g := 6) (by kernel_rfl) (by kernel_rfl)
  obtain ⟨t2, v2, g2⟩ := gl_of (laidMet.reads h m2) (g := 11) (by kernel_rfl) (by kernel_rfl)
  obtain ⟨t3, v3, g3⟩ := gl_of (laidMet.reads h m3) (g := 4) (by kernel_rfl) (by kernel_rfl)
  obtain ⟨t4, v4, g4⟩ := gl_of (laidMet.reads h m4) (g := 10) (by kernel_rfl) (by kernel_rfl)
  obtain ⟨t5, v5, g5⟩ := gl_of (laidMet.reads h m5) (g := 5) (by kernel_rfl) (by kernel_rfl)
  obtain ⟨t6, v6, g6⟩ := gl_of (laidMet.reads h m6) (g := 3) (by kernel_rfl) (by kernel_rfl)
  exact ⟨fun k => [0, t1, t2, t3, t4, t5, t6].getD k 0, fun k => [.nilIface, v1, v2, v3, v4, v5, v6].getD k .nilIface, ⟨g1, g2, g3, g4, g5, g6⟩, c1, c2, c3, c4⟩
end Go.Proofs.YtkdkdhcjpgmjdaaGreatDoor.Jp

/- An argument that is a slice of texts, opened and shut. -/
namespace Go.Proofs.YtkdkdhcjpgmjdaaGreatDoor.Jp
open Go.RowKit L Go.ChangeShapes Go.WideShapes
set_option linter.unusedVariables false
set_option linter.unusedSimpArgs false
theorem laid_out : laidOutB Tryz.prog = true := by kernel_rfl
theorem cells_str : Tryz.prog.cellsOf 9 = 1 := by kernel_rfl
theorem rec_keys : Tryz.prog.readableRec 22 = true := by kernel_rfl
theorem row_keys : 22 < Tryz.prog.types.size := of_decide_eq_true (by kernel_rfl)
set_option maxRecDepth 100000 in
theorem openKeys {H : Type} {enc : TypeId × Value → H} {W : World} {b0 : Nat} {v : Value} {d : DataW H} {p : List MemPlace} (hv : Value.okWide Tryz.prog W .any b0 22 v)
    (h : DataW.Trod enc Tryz.prog W 0 (fun _ => true) true 22 v d p) (hlt : ∀ x ∈ p, x.block < W.heap.size) :
    ∃ (A : Option Addr) (n c : Nat) (ks : List ByteArray), v = .slice A n c ∧ Row W (fun _ => True) 1 A n c (keysV ks) ∧ (∀ k ∈ ks, k.size ≤ 9223372036854775807) ∧
      ∀ W' : World, Below W.heap.size W W' → DataW.Trod enc Tryz.prog W' 0 (fun b => decide (b < W.heap.size)) true 22 v d p := by
  have hsh : ∀ W' : World, Below W.heap.size W W' → DataW.Trod enc Tryz.prog W' 0 (fun b => decide (b < W.heap.size)) true 22 v d p := fun W' hb =>
    Below.trod laid_out rec_keys row_keys h hb hlt
  obtain ⟨A, n, c, rfl⟩ := okWide_slice Tryz.underlying22 hv
  obtain ⟨fuel, hf⟩ := h
  rcases open_strings Tryz.underlying22 Tryz.underlying9 cells_str hf with ⟨hcs, hx⟩ | ⟨a, len, cap, ss, hcs, _, hl, hm, hz, hx, hcell, hws⟩
  · simp [Value.cells] at hcs
    obtain ⟨rfl, rfl, rfl⟩ := hcs
    exact ⟨none, 0, 0, [], rfl, Row.nil _ _ _, (fun k hk => by cases hk), hsh⟩
  · simp [Value.cells] at hcs
    obtain ⟨rfl, rfl, rfl⟩ := hcs
    simp only [if_true] at hz
    refine ⟨some a, n, c, ss.take n, rfl, ⟨by simp [keysV]; omega, hl, hm, fun hn => ⟨a, rfl, trivial, ?_, fun j u hu => ?_⟩⟩, fun k hk => ?_, hsh⟩
    · have := World.block_lt_of_cell? W _ (hcell 0 (by omega))
      rwa [add_block] at this
    · simp only [keysV, List.getElem?_map, Option.map_eq_some_iff] at hu
      obtain ⟨x, hx1, rfl⟩ := hu
      rw [List.getElem?_take] at hx1
      split at hx1
      · rename_i hj
        rw [hcell j (by omega)]
        simp [List.getD_eq_getElem?_getD, hx1]
      · cases hx1
    · have := hws k (List.mem_of_mem_take hk)
      simp only [maxLen] at this
      exact this
end Go.Proofs.YtkdkdhcjpgmjdaaGreatDoor.Jp

/- internalGetConfig with keys that lead to a value. -/
namespace Go.Proofs.YtkdkdhcjpgmjdaaGreatDoor.Jp
open Go.RowKit L
set_option linter.unusedVariables false
set_option linter.unusedSimpArgs false

/-- What Get answers of the value r. -/
def IkPost (s : ByteArray) (r : Pl) (w : World) (e : Ending) (w' : World) : Prop :=
  (∃ (A' : Option Addr) (n' c' : Nat), e = .returned (.tuple #[.slice A' n' c', .int .i64 (jk r.kind : Int), .int .i64 (r.b : Int), .int .i64 (r.e : Int), .nilIface]) ∧ n' = (rawAt s r.kind r.b r.e).size ∧ n' ≤ c' ∧ Rd w' A' (rawAt s r.kind r.b r.e) ∧ (r.kind = 4 → ∃ b' i' : Nat, A' = some ⟨b', i', none⟩)) ∧ Below w.heap.size w w'
set_option maxRecDepth 100000 in
set_option maxHeartbeats 8000000 in
theorem igetK (T : Nat → TypeId) (V : Nat → Value) (s : ByteArray) (kd : List ByteArray) (p r : Pl) (a b : Bool) (cn : Int) (bi i0 m c nf off : Nat) (A : Option Addr) (nk ck : Nat) (Bk : Nat → Prop) (w : World) (h : Rd w (some ⟨bi, i0, none⟩) s) (hE : Errs T V w) (hT : Tb w) (hm : m = s.size) (hs : s.size ≤ 1000000) (hc : s.size ≤ c)
    (hK : Row w Bk 1 A nk ck (keysV kd)) (hkn : kd.length ≤ 2147483647) (hr : Rdv s nf off p) (hpb : p.b = L.skip isBlank s 0) (hl : Leads s p kd r) (hk0 : kd ≠ []) :
    Calls Tryz.prog 65 #[.agg #[.bool a, .bool b, .int .i64 cn], .slice (some ⟨bi, i0, none⟩) m c, .slice A nk ck] w (IkPost s r w) := by
  subst hm
  obtain ⟨g1, g2, g3, g4, g5, g6, g7⟩ := gty_lead a hr hl hk0
  have hnk := (keys_len hK).1
  have hl0 : 0 < kd.length := List.length_pos_iff.2 hk0
  have hst : Stand s s.size kd r 0 0 true 0 := Stand.blank (by
    rw [← hpb]
    exact Core.path hl0 hr hr.2.2.2.2.1 (by rw [List.drop_zero]; exact hl))
  have HB := Lib.hid (below_alloc (Below.refl w.heap.size w) (.cells #[.bool a, .bool b, .int .i64 cn] 97))
  have HR := Lib.hid (h.below HB.out)
  have HE := Lib.hid (hE.below HB.out)
  have hcf := CfgAt.new w a b cn
  obtain ⟨w1, hw1⟩ : ∃ w1, w.alloc (.cells #[.bool a, .bool b, .int .i64 cn] 97) = w1 := ⟨_, rfl⟩
  rw [hw1] at HB HR HE hcf
  have HCF := Lib.hid hcf
  have k0 := hcf.c0
  have k1 := hcf.c1
  have k2 := hcf.c2
  have HSEA := Lib.hid (fun (w' : World) (hb : Below w1.heap.size w1 w') => (show Calls Tryz.prog 78 #[.agg #[.bool a, .bool b, .int .i64 cn], .slice (some ⟨bi, i0, none⟩) s.size c, .slice A nk ck] w' (SeaPost s 0 r w') from
    seaAll T V s s.size 0 kd r a b cn bi i0 c s.size A nk ck Bk w' (by rw [ext_all]; exact HR.out.below hb) rfl hs (Nat.le_refl _) hc (hK.keep (.of_below (below_of HB.out hb))) (hT.below (below_of HB.out hb)) hkn (HE.out.below hb) hst))
  have HGT := Lib.hid g1
  have hnz : (0 : Int) < (nk : Int) := by omega
  have HPB := Lib.hid hpb
  have HNK := Lib.hid hnk
  clear h hE hT hK hr hl hst hcf g1 hpb hnk
  have hrS : r.b < s.size := by omega
  by_cases hk4 : r.kind = 4
  · have h2 := g7 hk4
    have hj1 : (jk r.kind : Nat) = 1 := (jk_lt _ g6).2 hk4
    rw [hj1] at HGT
    have hraw : rawAt s r.kind r.b r.e = s.extract (r.b + 1) (r.e - 1) := by unfold rawAt; rw [if_pos hk4]
    unfold IkPost
    rw [hraw, hj1]
    clear hraw hj1 hk4 g7
    go_enter Tryz.func65, Tryz.ntmps65
    go_upto_region 3 with (first
      | (go_at_call 78; (with_reducible refine (HSEA.out w1 (Below.refl _ _)).mono ?_); rintro e w2 ⟨⟨x, rfl, hx1, hx2⟩, hb2⟩; replace hx2 := Lib.hid hx2; replace hb2 := Lib.hid hb2))
    have hxb : x ≤ r.b := by rwa [Nat.zero_add] at hx1
    have hxs : L.skip isBlank s x = r.b := by have := hx2.out; rwa [Nat.zero_add] at this
    obtain ⟨d, hd⟩ : ∃ d, r.b - x = d := ⟨_, rfl⟩
    have hN : nxt (tx (s.extract x s.size)) = some d := by
      have := nxt_win (s := s) (i := x) (m := s.size) (Nat.le_refl _) (by omega) (by omega)
      rwa [hxs, hd] at this
    have HN := Lib.hid hN
    have hcf2 := HCF.out.below hb2.out
    have HCF2 := Lib.hid hcf2
    have j0 := hcf2.c0
    have j1 := hcf2.c1
    have j2 := hcf2.c2
    have HR2 := Lib.hid (HR.out.below hb2.out)
    have HE2 := Lib.hid (HE.out.below hb2.out)
    have HRx := Lib.hid (show Rd w2 (some ⟨bi, i0 + x, none⟩) (s.extract x s.size) by
      have := rd_ite (c := c) (k := x) HR2.out (by omega) (by rw [if_neg (by omega)])
      exact this)
    have hxn : ((x : Int) == -1) = false := beq_eq_false_iff_ne.2 (by omega)
    have hdn : ((d : Int) == -1) = false := beq_eq_false_iff_ne.2 (by omega)
    have hx0 : (0 : Int) ≤ (x : Int) := by omega
    have hxm : (x : Int) ≤ (s.size : Int) := by omega
    have hcx : ¬ c = x := by omega
    have e1 : IntKind.i64.wrap ((x : Int) + (d : Int)) = (r.b : Int) := by rw [IntWalk.i64_in _ (by omega)]; omega
    have HNX := Lib.hid (nextQ _ (s.extract x s.size) (s.size - x) (c - x) d a b cn w2 HRx.out (by rw [size_ext]; omega) (by rw [size_ext]; omega) (by rw [size_ext]; omega) HN.out)
    have HB2 := Lib.hid (below_of HB.out hb2.out)
    clear hN hcf2 hxs hx1
    go_upto_region 5 with (fail)
    go_cut [11] (fun v11 wx => v11 = .int .i64 (d : Int) ∧ Below w2.heap.size w2 wx)
    case first =>
      go_region_with (first
        | (go_at_call 71; (with_reducible refine HNX.out.mono ?_); rintro e w3 ⟨rfl, hb3⟩; replace hb3 := Lib.hid hb3))
      all_goals
        go_wp2_with (fail)
        (try simp only [Act.put, List.getElem_toArray, List.getElem_cons_succ, List.getElem_cons_zero, List.setIfInBounds_toArray, List.set_cons_zero, List.set_cons_succ])
        go_meet
        case rel => exact ⟨rfl, hb3.out⟩
    case rest =>
    obtain ⟨rfl, hb3⟩ := hcut
    obtain ⟨w3, hw3⟩ : ∃ x, x = wc := ⟨_, rfl⟩
    subst hw3
    have hcf3 := HCF2.out.below hb3
    have j0 := hcf3.c0
    have j1 := hcf3.c1
    have j2 := hcf3.c2
    have HB3 := Lib.hid (below_of HB2.out hb3)
    obtain ⟨kk, hkk⟩ : ∃ kk, r.e - r.b = kk := ⟨_, rfl⟩
    have HTY := Lib.hid (show Calls Tryz.prog 85 #[.agg #[.bool a, .bool b, .int .i64 cn], .slice (some ⟨bi, i0, none⟩) s.size c, .int .i64 (r.b : Int)] w3 fun e w' => ∃ (A4 : Addr) (c4 : Nat), e = .returned (.tuple #[.slice (some A4) kk c4, .int .i64 (1), .int .i64 (r.e : Int), .nilIface]) ∧ kk ≤ c4 ∧ Rd w' (some A4) (s.extract r.b (r.b + kk)) ∧ Below w3.heap.size w3 w' from by
      refine (typeW T V _ s s.size c r.b a b cn w3 (HR2.out.below hb3) (HE2.out.below hb3) rfl hs hc hrS).mono ?_
      rw [HGT.out]
      rintro e w' ⟨⟨A2, c2, rfl, hle, hkc, hrd⟩, hb⟩
      obtain ⟨ad2, rfl, -⟩ := hrd (by rw [size_ext]; omega)
      rw [hkk] at hkc hrd hle ⊢
      exact ⟨ad2, c2, by rw [show r.b + kk = r.e by omega] <;> rfl, hkc, hrd, hb⟩)
    have hkk2 : 0 < kk := by omega
    have hke : r.b + kk = r.e := by omega
    have HKE := Lib.hid hke
    have hke2 : r.b + kk ≤ s.size := by omega
    have hk2' : 2 ≤ kk := by omega
    clear hb3 hcf3 hkk hke hd
    go_wp2_with (first
      | (go_at_call 85; (with_reducible refine HTY.out.mono ?_); rintro e w4 ⟨A4, c4, rfl, hkc, hrd, hb4⟩; replace hrd := Lib.hid hrd; replace hb4 := Lib.hid hb4))
    all_goals
      (try simp only [Exit.inBlock, Exit.then])
      refine bodyPost_ret (results_tmp5 rfl _ _ _) rfl ?_
      refine ⟨⟨_, _, _, rfl, ?_, ?_, ?_, ?_⟩, below_of HB3.out hb4.out⟩
      · rw [size_ext]; have := HKE.out; omega
      · first | exact Nat.le_refl _ | omega
      · have := rdstrip hrd.out hk2' hke2
        rwa [HKE.out] at this
      · exact fun _ => ⟨_, _, rfl⟩
  · have hj1 : ((jk r.kind : Int) == 1) = false := beq_eq_false_iff_ne.2 fun h => hk4 ((jk_lt _ g6).1 (by exact_mod_cast h))
    have hraw : rawAt s r.kind r.b r.e = s.extract r.b r.e := by unfold rawAt; rw [if_neg hk4]
    unfold IkPost
    rw [hraw]
    have HK4 := Lib.hid hk4
    clear hraw hk4 g7
    go_enter Tryz.func65, Tryz.ntmps65
    go_upto_region 3 with (first
      | (go_at_call 78; (with_reducible refine (HSEA.out w1 (Below.refl _ _)).mono ?_); rintro e w2 ⟨⟨x, rfl, hx1, hx2⟩, hb2⟩; replace hx2 := Lib.hid hx2; replace hb2 := Lib.hid hb2))
    have hxb : x ≤ r.b := by rwa [Nat.zero_add] at hx1
    have hxs : L.skip isBlank s x = r.b := by have := hx2.out; rwa [Nat.zero_add] at this
    obtain ⟨d, hd⟩ : ∃ d, r.b - x = d := ⟨_, rfl⟩
    have hN : nxt (tx (s.extract x s.size)) = some d := by
      have := nxt_win (s := s) (i := x) (m := s.size) (Nat.le_refl _) (by omega) (by omega)
      rwa [hxs, hd] at this
    have HN := Lib.hid hN
    have hcf2 := HCF.out.below hb2.out
    have HCF2 := Lib.hid hcf2
    have j0 := hcf2.c0
    have j1 := hcf2.c1
    have j2 := hcf2.c2
    have HR2 := Lib.hid (HR.out.below hb2.out)
    have HE2 := Lib.hid (HE.out.below hb2.out)
    have HRx := Lib.hid (show Rd w2 (some ⟨bi, i0 + x, none⟩) (s.extract x s.size) by
      have := rd_ite (c := c) (k := x) HR2.out (by omega) (by rw [if_neg (by omega)])
      exact this)
    have hxn : ((x : Int) == -1) = false := beq_eq_false_iff_ne.2 (by omega)
    have hdn : ((d : Int) == -1) = false := beq_eq_false_iff_ne.2 (by omega)
    have hx0 : (0 : Int) ≤ (x : Int) := by omega
    have hxm : (x : Int) ≤ (s.size : Int) := by omega
    have hcx : ¬ c = x := by omega
    have e1 : IntKind.i64.wrap ((x : Int) + (d : Int)) = (r.b : Int) := by rw [IntWalk.i64_in _ (by omega)]; omega
    have HNX := Lib.hid (nextQ _ (s.extract x s.size) (s.size - x) (c - x) d a b cn w2 HRx.out (by rw [size_ext]; omega) (by rw [size_ext]; omega) (by rw [size_ext]; omega) HN.out)
    have HB2 := Lib.hid (below_of HB.out hb2.out)
    clear hN hcf2 hxs hx1
    go_upto_region 5 with (fail)
    go_cut [11] (fun v11 wx => v11 = .int .i64 (d : Int) ∧ Below w2.heap.size w2 wx)
    case first =>
      go_region_with (first
        | (go_at_call 71; (with_reducible refine HNX.out.mono ?_); rintro e w3 ⟨rfl, hb3⟩; replace hb3 := Lib.hid hb3))
      all_goals
        go_wp2_with (fail)
        (try simp only [Act.put, List.getElem_toArray, List.getElem_cons_succ, List.getElem_cons_zero, List.setIfInBounds_toArray, List.set_cons_zero, List.set_cons_succ])
        go_meet
        case rel => exact ⟨rfl, hb3.out⟩
    case rest =>
    obtain ⟨rfl, hb3⟩ := hcut
    obtain ⟨w3, hw3⟩ : ∃ x, x = wc := ⟨_, rfl⟩
    subst hw3
    have hcf3 := HCF2.out.below hb3
    have j0 := hcf3.c0
    have j1 := hcf3.c1
    have j2 := hcf3.c2
    have HB3 := Lib.hid (below_of HB2.out hb3)
    obtain ⟨kk, hkk⟩ : ∃ kk, r.e - r.b = kk := ⟨_, rfl⟩
    have HTY := Lib.hid (show Calls Tryz.prog 85 #[.agg #[.bool a, .bool b, .int .i64 cn], .slice (some ⟨bi, i0, none⟩) s.size c, .int .i64 (r.b : Int)] w3 fun e w' => ∃ (A4 : Addr) (c4 : Nat), e = .returned (.tuple #[.slice (some A4) kk c4, .int .i64 ((jk r.kind : Int)), .int .i64 (r.e : Int), .nilIface]) ∧ kk ≤ c4 ∧ Rd w' (some A4) (s.extract r.b (r.b + kk)) ∧ Below w3.heap.size w3 w' from by
      refine (typeW T V _ s s.size c r.b a b cn w3 (HR2.out.below hb3) (HE2.out.below hb3) rfl hs hc hrS).mono ?_
      rw [HGT.out]
      rintro e w' ⟨⟨A2, c2, rfl, hle, hkc, hrd⟩, hb⟩
      obtain ⟨ad2, rfl, -⟩ := hrd (by rw [size_ext]; omega)
      rw [hkk] at hkc hrd hle ⊢
      exact ⟨ad2, c2, by rw [show r.b + kk = r.e by omega] <;> rfl, hkc, hrd, hb⟩)
    have hkk2 : 0 < kk := by omega
    have hke : r.b + kk = r.e := by omega
    have HKE := Lib.hid hke
    have hke2 : r.b + kk ≤ s.size := by omega
    clear hb3 hcf3 hkk hke hd
    go_wp2_with (first
      | (go_at_call 85; (with_reducible refine HTY.out.mono ?_); rintro e w4 ⟨A4, c4, rfl, hkc, hrd, hb4⟩; replace hrd := Lib.hid hrd; replace hb4 := Lib.hid hb4))
    all_goals
      (try simp only [Exit.inBlock, Exit.then])
      refine bodyPost_ret (results_tmp5 rfl _ _ _) rfl ?_
      refine ⟨⟨_, _, _, rfl, ?_, ?_, ?_, ?_⟩, below_of HB3.out hb4.out⟩
      · rw [size_ext]; have := HKE.out; omega
      · first | exact Nat.le_refl _ | omega
      · have := hrd.out
        rwa [HKE.out] at this
      · exact fun h => absurd h HK4.out
/-- What Get takes a text's value for. -/
theorem gty_root {s : ByteArray} {p : Pl} (sq : Bool) (h : places s = some p) :
    gty sq ((tx s).drop p.b) = .ok (jk p.kind) (p.e - p.b) ∧ L.skip isBlank s 0 = p.b ∧ p.b < p.e ∧ p.e ≤ s.size ∧ p.kind ≤ 6 ∧ (p.kind = 4 → p.b + 2 ≤ p.e) := by
  obtain ⟨-, r1, r2, r3, r4, r5, r6, r7, r8⟩ := places_val h
  have he : ¬ L.skip isBlank s p.e < s.size := by
    unfold places valAt at h
    split at h
    · cases h
    · rename_i j q hv
      split at h
      · rename_i hc
        injection h with h
        subst h
        obtain ⟨rfl, -⟩ := rdv_of (Nat.zero_le _) (by omega) hv |>.symm
        omega
      · cases h
  have hf : p.kind ≤ 3 → Fol ((tx s).drop p.e) := fun hk => fol_of (i := 0) (ps := []) ⟨r2, r3, r4, r5, he⟩ trivial hk
  rw [← r4] at r3
  have hg := gty_val sq (by omega) r3 ((tx s).drop p.e) hf
  rw [← seg_drop (by omega) r5] at hg
  exact ⟨hg, r4.symm, r6, r5, r7, r8⟩
set_option maxRecDepth 100000 in
set_option maxHeartbeats 8000000 in
theorem igetZ (T : Nat → TypeId) (V : Nat → Value) (s : ByteArray) (r : Pl) (a b : Bool) (cn : Int) (bi i0 m c ck : Nat) (A : Option Addr) (w : World) (h : Rd w (some ⟨bi, i0, none⟩) s) (hE : Errs T V w) (hm : m = s.size) (hs : s.size ≤ 1000000) (hc : s.size ≤ c)
    (hr : places s = some r) :
    Calls Tryz.prog 65 #[.agg #[.bool a, .bool b, .int .i64 cn], .slice (some ⟨bi, i0, none⟩) m c, .slice A 0 ck] w (IkPost s r w) := by
  subst hm
  obtain ⟨g1, g2, g3, g5, g6, g7⟩ := gty_root a hr
  have HB := Lib.hid (below_alloc (Below.refl w.heap.size w) (.cells #[.bool a, .bool b, .int .i64 cn] 97))
  have HR := Lib.hid (h.below HB.out)
  have HE := Lib.hid (hE.below HB.out)
  have hcf := CfgAt.new w a b cn
  obtain ⟨w1, hw1⟩ : ∃ w1, w.alloc (.cells #[.bool a, .bool b, .int .i64 cn] 97) = w1 := ⟨_, rfl⟩
  rw [hw1] at HB HR HE hcf
  have HCF := Lib.hid hcf
  have k0 := hcf.c0
  have k1 := hcf.c1
  have k2 := hcf.c2
  have HGT := Lib.hid g1
  clear h hE hr hcf g1
  have hrS : r.b < s.size := by omega
  by_cases hk4 : r.kind = 4
  · have h2 := g7 hk4
    have hj1 : (jk r.kind : Nat) = 1 := (jk_lt _ g6).2 hk4
    rw [hj1] at HGT
    have hraw : rawAt s r.kind r.b r.e = s.extract (r.b + 1) (r.e - 1) := by unfold rawAt; rw [if_pos hk4]
    unfold IkPost
    rw [hraw, hj1]
    clear hraw hj1 hk4 g7
    go_enter Tryz.func65, Tryz.ntmps65
    have hN : nxt (tx s) = some r.b := by
      have := nxt_win (s := s) (i := 0) (m := s.size) (Nat.le_refl _) (by omega) (by omega)
      rwa [g2, ext_all, Nat.sub_zero] at this
    have HNX := Lib.hid (nextQ _ s s.size c r.b a b cn w1 HR.out rfl hs hc hN)
    have hdn : ((r.b : Int) == -1) = false := beq_eq_false_iff_ne.2 (by omega)
    have e1 : IntKind.i64.wrap (r.b : Int) = (r.b : Int) := IntWalk.i64_in _ (by omega)
    clear hN g2
    go_upto_region 5 with (fail)
    go_cut [11] (fun v11 wx => v11 = .int .i64 (r.b : Int) ∧ Below w1.heap.size w1 wx)
    case first =>
      go_region_with (first
        | (go_at_call 71; (with_reducible refine HNX.out.mono ?_); rintro e w3 ⟨rfl, hb3⟩; replace hb3 := Lib.hid hb3))
      all_goals
        go_wp2_with (fail)
        (try simp only [Act.put, List.getElem_toArray, List.getElem_cons_succ, List.getElem_cons_zero, List.setIfInBounds_toArray, List.set_cons_zero, List.set_cons_succ])
        go_meet
        case rel => exact ⟨rfl, hb3.out⟩
    case rest =>
    obtain ⟨rfl, hb3⟩ := hcut
    obtain ⟨w3, hw3⟩ : ∃ x, x = wc := ⟨_, rfl⟩
    subst hw3
    have hcf3 := HCF.out.below hb3
    have j0 := hcf3.c0
    have j1 := hcf3.c1
    have j2 := hcf3.c2
    have HB3 := Lib.hid (below_of HB.out hb3)
    obtain ⟨kk, hkk⟩ : ∃ kk, r.e - r.b = kk := ⟨_, rfl⟩
    have HTY := Lib.hid (show Calls Tryz.prog 85 #[.agg #[.bool a, .bool b, .int .i64 cn], .slice (some ⟨bi, i0, none⟩) s.size c, .int .i64 (r.b : Int)] w3 fun e w' => ∃ (A4 : Addr) (c4 : Nat), e = .returned (.tuple #[.slice (some A4) kk c4, .int .i64 (1), .int .i64 (r.e : Int), .nilIface]) ∧ kk ≤ c4 ∧ Rd w' (some A4) (s.extract r.b (r.b + kk)) ∧ Below w3.heap.size w3 w' from by
      refine (typeW T V _ s s.size c r.b a b cn w3 (HR.out.below hb3) (HE.out.below hb3) rfl hs hc hrS).mono ?_
      rw [HGT.out]
      rintro e w' ⟨⟨A2, c2, rfl, hle, hkc, hrd⟩, hb⟩
      obtain ⟨ad2, rfl, -⟩ := hrd (by rw [size_ext]; omega)
      rw [hkk] at hkc hrd hle ⊢
      exact ⟨ad2, c2, by rw [show r.b + kk = r.e by omega] <;> rfl, hkc, hrd, hb⟩)
    have hkk2 : 0 < kk := by omega
    have hke : r.b + kk = r.e := by omega
    have HKE := Lib.hid hke
    have hke2 : r.b + kk ≤ s.size := by omega
    have hk2' : 2 ≤ kk := by omega
    clear hb3 hcf3 hkk hke
    go_wp2_with (first
      | (go_at_call 85; (with_reducible refine HTY.out.mono ?_); rintro e w4 ⟨A4, c4, rfl, hkc, hrd, hb4⟩; replace hrd := Lib.hid hrd; replace hb4 := Lib.hid hb4))
    all_goals
      (try simp only [Exit.inBlock, Exit.then])
      refine bodyPost_ret (results_tmp5 rfl _ _ _) rfl ?_
      refine ⟨⟨_, _, _, rfl, ?_, ?_, ?_, ?_⟩, below_of HB3.out hb4.out⟩
      · rw [size_ext]; have := HKE.out; omega
      · first | exact Nat.le_refl _ | omega
      · have := rdstrip hrd.out hk2' hke2
        rwa [HKE.out] at this
      · exact fun _ => ⟨_, _, rfl⟩
  · have hj1 : ((jk r.kind : Int) == 1) = false := beq_eq_false_iff_ne.2 fun h => hk4 ((jk_lt _ g6).1 (by exact_mod_cast h))
    have hraw : rawAt s r.kind r.b r.e = s.extract r.b r.e := by unfold rawAt; rw [if_neg hk4]
    unfold IkPost
    rw [hraw]
    have HK4 := Lib.hid hk4
    clear hraw hk4 g7
    go_enter Tryz.func65, Tryz.ntmps65
    have hN : nxt (tx s) = some r.b := by
      have := nxt_win (s := s) (i := 0) (m := s.size) (Nat.le_refl _) (by omega) (by omega)
      rwa [g2, ext_all, Nat.sub_zero] at this
    have HNX := Lib.hid (nextQ _ s s.size c r.b a b cn w1 HR.out rfl hs hc hN)
    have hdn : ((r.b : Int) == -1) = false := beq_eq_false_iff_ne.2 (by omega)
    have e1 : IntKind.i64.wrap (r.b : Int) = (r.b : Int) := IntWalk.i64_in _ (by omega)
    clear hN g2
    go_upto_region 5 with (fail)
    go_cut [11] (fun v11 wx => v11 = .int .i64 (r.b : Int) ∧ Below w1.heap.size w1 wx)
    case first =>
      go_region_with (first
        | (go_at_call 71; (with_reducible refine HNX.out.mono ?_); rintro e w3 ⟨rfl, hb3⟩; replace hb3 := Lib.hid hb3))
      all_goals
        go_wp2_with (fail)
        (try simp only [Act.put, List.getElem_toArray, List.getElem_cons_succ, List.getElem_cons_zero, List.setIfInBounds_toArray, List.set_cons_zero, List.set_cons_succ])
        go_meet
        case rel => exact ⟨rfl, hb3.out⟩
    case rest =>
    obtain ⟨rfl, hb3⟩ := hcut
    obtain ⟨w3, hw3⟩ : ∃ x, x = wc := ⟨_, rfl⟩
    subst hw3
    have hcf3 := HCF.out.below hb3
    have j0 := hcf3.c0
    have j1 := hcf3.c1
    have j2 := hcf3.c2
    have HB3 := Lib.hid (below_of HB.out hb3)
    obtain ⟨kk, hkk⟩ : ∃ kk, r.e - r.b = kk := ⟨_, rfl⟩
    have HTY := Lib.hid (show Calls Tryz.prog 85 #[.agg #[.bool a, .bool b, .int .i64 cn], .slice (some ⟨bi, i0, none⟩) s.size c, .int .i64 (r.b : Int)] w3 fun e w' => ∃ (A4 : Addr) (c4 : Nat), e = .returned (.tuple #[.slice (some A4) kk c4, .int .i64 ((jk r.kind : Int)), .int .i64 (r.e : Int), .nilIface]) ∧ kk ≤ c4 ∧ Rd w' (some A4) (s.extract r.b (r.b + kk)) ∧ Below w3.heap.size w3 w' from by
      refine (typeW T V _ s s.size c r.b a b cn w3 (HR.out.below hb3) (HE.out.below hb3) rfl hs hc hrS).mono ?_
      rw [HGT.out]
      rintro e w' ⟨⟨A2, c2, rfl, hle, hkc, hrd⟩, hb⟩
      obtain ⟨ad2, rfl, -⟩ := hrd (by rw [size_ext]; omega)
      rw [hkk] at hkc hrd hle ⊢
      exact ⟨ad2, c2, by rw [show r.b + kk = r.e by omega] <;> rfl, hkc, hrd, hb⟩)
    have hkk2 : 0 < kk := by omega
    have hke : r.b + kk = r.e := by omega
    have HKE := Lib.hid hke
    have hke2 : r.b + kk ≤ s.size := by omega
    clear hb3 hcf3 hkk hke
    go_wp2_with (first
      | (go_at_call 85; (with_reducible refine HTY.out.mono ?_); rintro e w4 ⟨A4, c4, rfl, hkc, hrd, hb4⟩; replace hrd := Lib.hid hrd; replace hb4 := Lib.hid hb4))
    all_goals
      (try simp only [Exit.inBlock, Exit.then])
      refine bodyPost_ret (results_tmp5 rfl _ _ _) rfl ?_
      refine ⟨⟨_, _, _, rfl, ?_, ?_, ?_, ?_⟩, below_of HB3.out hb4.out⟩
      · rw [size_ext]; have := HKE.out; omega
      · first | exact Nat.le_refl _ | omega
      · have := hrd.out
        rwa [HKE.out] at this
      · exact fun h => absurd h HK4.out
end Go.Proofs.YtkdkdhcjpgmjdaaGreatDoor.Jp

/- Config.Get and Config.GetString with keys that lead to a value. -/
namespace Go.Proofs.YtkdkdhcjpgmjdaaGreatDoor.Jp
open Go.RowKit L
set_option linter.unusedVariables false
set_option linter.unusedSimpArgs false

/-- internalGetConfig, whatever the keys. -/
theorem igetA (T : Nat → TypeId) (V : Nat → Value) (s : ByteArray) (kd : List ByteArray) (p r : Pl) (a b : Bool) (cn : Int) (bi i0 m c : Nat) (A : Option Addr) (nk ck : Nat) (Bk : Nat → Prop) (w : World) (h : Rd w (some ⟨bi, i0, none⟩) s) (hE : Errs T V w) (hT : Tb w) (hm : m = s.size) (hs : s.size ≤ 1000000) (hc : s.size ≤ c)
    (hK : Row w Bk 1 A nk ck (keysV kd)) (hkn : kd.length ≤ 2147483647) (hp : places s = some p) (hl : Leads s p kd r) :
    Calls Tryz.prog 65 #[.agg #[.bool a, .bool b, .int .i64 cn], .slice (some ⟨bi, i0, none⟩) m c, .slice A nk ck] w (IkPost s r w) := by
  have hr := (places_val hp).2
  cases kd with
  | nil =>
    obtain rfl : nk = 0 := (keys_len hK).1
    cases hl
    exact igetZ T V s p a b cn bi i0 m c ck A w h hE hm hs hc hp
  | cons k ks => exact igetK T V s (k :: ks) p r a b cn bi i0 m c _ _ A nk ck Bk w h hE hT hm hs hc hK hkn hr hr.2.2.2.1 hl (by simp)
/-- What Config.Get answers of the value r. -/
def CkPost (s : ByteArray) (r : Pl) (w : World) (e : Ending) (w' : World) : Prop :=
  (∃ (A' : Option Addr) (n' c' : Nat), e = .returned (.tuple #[.slice A' n' c', .int .i64 (jk r.kind : Int), .int .i64 (r.e : Int), .nilIface]) ∧ n' = (rawAt s r.kind r.b r.e).size ∧ n' ≤ c' ∧ Rd w' A' (rawAt s r.kind r.b r.e) ∧ (r.kind = 4 → ∃ b' i' : Nat, A' = some ⟨b', i', none⟩)) ∧ Below w.heap.size w w'
/-- The table of the short escapes. -/
def escTab : List Int := (List.range 117).map fun (e : Nat) => if e = 34 ∨ e = 92 ∨ e = 47 ∨ e = 98 ∨ e = 102 ∨ e = 110 ∨ e = 114 ∨ e = 116 then shortI (e : Int) else 0
set_option maxRecDepth 100000 in
theorem tb_of {W : World} (hr : Lib.VarReads Tryz.prog W "pub-tetrapla/pub/jsonparser.backslashCharEscapeTable" (Lib.tabData .u8 escTab)) : Tb W := by
  obtain ⟨g', t, cs, fuel, p, hg, ht, hv, hd⟩ := hr
  obtain rfl : 14 = g' := Option.some.inj ((show Tryz.prog.globalNamed "pub-tetrapla/pub/jsonparser.backslashCharEscapeTable" = some 14 by kernel_rfl).symm.trans hg)
  obtain rfl : 164 = t := Option.some.inj ((show (Tryz.prog.globals[14]?).map (·.type) = some 164 by kernel_rfl).symm.trans ht)
  have hcs := Lib.cells_of_tab Tryz.underlying164 Tryz.underlying5 (show Tryz.prog.cellsOf 5 = 1 by kernel_rfl) (show Tryz.prog.cellsOf 164 = 117 by kernel_rfl) hd
  have hc : ∀ e : Nat, e < 117 → W.cell? ⟨14, e, none⟩ = some (.int .u8 (if e = 34 ∨ e = 92 ∨ e = 47 ∨ e = 98 ∨ e = 102 ∨ e = 110 ∨ e = 114 ∨ e = 116 then shortI e else 0)) := fun e he => by
    rw [World.var?_cell hg hv e, ← Array.getElem?_toList, hcs]
    simp [escTab, he]
  refine ⟨World.block_lt_of_cell? W _ (hc 0 (by decide)), fun e he => ?_⟩
  rw [hc e (by omega), if_pos he]
end Go.Proofs.YtkdkdhcjpgmjdaaGreatDoor.Jp
