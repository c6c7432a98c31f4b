/- Get and GetString with keys; the law FnJpConfigGet. -/
import Derived.Test.YtbgcjnhebfgicaaDoorJpGet2
import Derived.Lib.LaidU8
import Derived.LaidLaws
import Derived.LaidMore
import Derived.Lay
import Derived.ChangeOld
import Derived.ChangeAt
import Derived.Test.YtbgcjnhebfgicaaDoorJpFind2
import Derived.SliceStrings
import Derived.Carry
import Derived.ProofKit
import Derived.SizedLaws
import Derived.WideShapes
import Derived.ChangeShapes
import Derived.Test.YtbgcjnhebfgicaaDoorJsA
import Derived.Test.YtbgcjnhebfgicaaDoorJsX
import Derived.Deep.DeepCutAuto
import Derived.Deep.RegionHeld3
import Derived.Deep.LoopGhost
import Derived.Deep.Light
import Derived.BigQuiet
import Derived.Lib.LaidTab
/- jsonparser's variables, as a row lists them. -/
namespace Go.Proofs.YtbgcjnhebfgicaaDoor.Jp
open Go.RowKit L Go.Lib Go.ChangeShapes Go.WideShapes Go.ChangeAt Go.WideMaps Go.WideElems
set_option linter.unusedVariables false

theorem gl_of {W : World} {nm tn : String} {g : Nat} {y : DataW Unit} (hr : VarReads Tryd.prog W nm (.iface tn y)) (hg0 : Tryd.prog.globalNamed nm = some g) (ht0 : (Tryd.prog.globals[g]?).map (·.type) = some 68) : ∃ t v, Gl W g t v := by
  obtain ⟨g', t, cs, fuel, p, hg, ht, hv, hd⟩ := hr
  obtain rfl : g = g' := Option.some.inj (hg0.symm.trans hg)
  obtain rfl : 68 = t := Option.some.inj (ht0.symm.trans ht)
  obtain ⟨f1, u, v, hcs, -, -⟩ := iface_of_trod Tryd.underlying68 hd
  obtain ⟨l⟩ := cs
  have hcs' : l = [.iface u v] := hcs
  subst hcs'
  have hc : W.cell? ⟨g, 0, none⟩ = some (.iface u v) := by simpa using World.var?_cell hg hv 0
  exact ⟨u, v, World.block_lt_of_cell? W _ hc, hc⟩
set_option maxRecDepth 100000 in
theorem cfg_of {W : World} (hr : VarReads Tryd.prog W "pub-tetrapla/pub/jsonparser.DefaultConfig" (.agg [.lit (.bool false), .lit (.bool false), .lit (.int .i64 0)])) :
    2 < W.heap.size ∧ W.cell? ⟨2, 0, none⟩ = some (.bool false) ∧ W.cell? ⟨2, 1, none⟩ = some (.bool false) ∧ W.cell? ⟨2, 2, none⟩ = some (.int .i64 0) := by
  obtain ⟨g', t, cs, fuel, p, hg, ht, hv, hd⟩ := hr
  obtain rfl : 2 = g' := Option.some.inj ((show Tryd.prog.globalNamed "pub-tetrapla/pub/jsonparser.DefaultConfig" = some 2 by kernel_rfl).symm.trans hg)
  obtain rfl : 74 = t := Option.some.inj ((show (Tryd.prog.globals[2]?).map (·.type) = some 74 by kernel_rfl).symm.trans ht)
  obtain ⟨xs, n, _, hx, hcl, hlen, hf⟩ := DataW.trod_struct Tryd.underlying74 hd
  have hC : Tryd.prog.cellsOf 74 = 3 := by kernel_rfl
  have cB : Tryd.prog.cellsOf 4 = 1 := by kernel_rfl
  have cI : Tryd.prog.cellsOf 3 = 1 := by kernel_rfl
  match xs, hlen with
  | [y0, y1, y2], _ =>
    have h0 := hf 0 _ rfl
    have h1 := hf 1 _ rfl
    have h2 := hf 2 _ rfl
    obtain ⟨b0, e0, rfl⟩ := DataW.trod_bool Tryd.underlying4 h0
    obtain ⟨b1, e1, rfl⟩ := DataW.trod_bool Tryd.underlying4 h1
    obtain ⟨n2, e2, rfl, _⟩ := DataW.trod_int Tryd.underlying3 h2
    simp only [Prod.mk.injEq, List.map_cons, List.map_nil] at hx
    have hx1 := hx.1
    injection hx1 with hx1
    injection hx1 with a0 hx1
    injection hx1 with a1 hx1
    injection hx1 with a2 _
    injection a0 with a0
    injection a0 with a0
    injection a1 with a1
    injection a1 with a1
    injection a2 with a2
    injection a2 with _ a2
    subst a0 a1 a2
    obtain ⟨l⟩ := cs
    rw [hC] at hcl
    match l, hcl with
    | [c0, c1, c2], _ =>
      simp [cB, cI] at e0 e1 e2
      subst e0 e1 e2
      have hc := World.var?_cell hg hv
      have hc0 := hc 0
      exact ⟨World.block_lt_of_cell? W _ (hc 0), hc 0, hc 1, hc 2⟩
/-- The seven variables. -/
theorem wd_of {L : List (String × DataW Unit)} {W : World} (h : laidMet Tryd.prog L W)
    (m0 : ("pub-tetrapla/pub/jsonparser.DefaultConfig", .agg [.lit (.bool false), .lit (.bool false), .lit (.int .i64 0)]) ∈ L) {n1 n2 n3 n4 n5 n6 : String} {d1 d2 d3 d4 d5 d6 : DataW Unit}
    (m1 : ("pub-tetrapla/pub/jsonparser.KeyPathNotFoundError", .iface n1 d1) ∈ L) (m2 : ("pub-tetrapla/pub/jsonparser.UnknownValueTypeError", .iface n2 d2) ∈ L) (m3 : ("pub-tetrapla/pub/jsonparser.MalformedJsonError", .iface n3 d3) ∈ L)
    (m4 : ("pub-tetrapla/pub/jsonparser.MalformedStringError", .iface n4 d4) ∈ L) (m5 : ("pub-tetrapla/pub/jsonparser.MalformedArrayError", .iface n5 d5) ∈ L) (m6 : ("pub-tetrapla/pub/jsonparser.MalformedObjectError", .iface n6 d6) ∈ L) : ∃ T V, Wd T V W := by
  obtain ⟨c1, c2, c3, c4⟩ := cfg_of (laidMet.reads h m0)
  obtain ⟨t1, v1, g1⟩ := gl_of (laidMet.reads h m1) (g := 3) (by kernel_rfl) (by kernel_rfl)
  obtain ⟨t2, v2, g2⟩ := gl_of (laidMet.reads h m2) (g := 9) (by kernel_rfl) (by kernel_rfl)
  obtain ⟨t3, v3, g3⟩ := gl_of (laidMet.reads h m3) (g := 4) (by kernel_rfl) (by kernel_rfl)
  obtain ⟨t4, v4, g4⟩ := gl_of (laidMet.reads h m4) (g := 7) (by kernel_rfl) (by kernel_rfl)
  obtain ⟨t5, v5, g5⟩ := gl_of (laidMet.reads h m5) (g := 6) (by kernel_rfl) (by kernel_rfl)
  obtain ⟨t6, v6, g6⟩ := gl_of (laidMet.reads h m6) (g := 8) (by kernel_rfl) (by kernel_rfl)
  exact ⟨fun k => [0, t1, t2, t3, t4, t5, t6].getD k 0, fun k => [.nilIface, v1, v2, v3, v4, v5, v6].getD k .nilIface, ⟨g1, g2, g3, g4, g5, g6⟩, c1, c2, c3, c4⟩
end Go.Proofs.YtbgcjnhebfgicaaDoor.Jp

/- An argument that is a slice of texts, opened and shut. -/
namespace Go.Proofs.YtbgcjnhebfgicaaDoor.Jp
open Go.RowKit L Go.ChangeShapes Go.WideShapes
set_option linter.unusedVariables false
set_option linter.unusedSimpArgs false
theorem laid_out : laidOutB Tryd.prog = true := by kernel_rfl
theorem cells_str : Tryd.prog.cellsOf 9 = 1 := by kernel_rfl
theorem rec_keys : Tryd.prog.readableRec 29 = true := by kernel_rfl
theorem row_keys : 29 < Tryd.prog.types.size := of_decide_eq_true (by kernel_rfl)
set_option maxRecDepth 100000 in
theorem openKeys {H : Type} {enc : TypeId × Value → H} {W : World} {b0 : Nat} {v : Value} {d : DataW H} {p : List MemPlace} (hv : Value.okWide Tryd.prog W .any b0 29 v)
    (h : DataW.Trod enc Tryd.prog W 0 (fun _ => true) true 29 v d p) (hlt : ∀ x ∈ p, x.block < W.heap.size) :
    ∃ (A : Option Addr) (n c : Nat) (ks : List ByteArray), v = .slice A n c ∧ Row W (fun _ => True) 1 A n c (keysV ks) ∧ (∀ k ∈ ks, k.size ≤ 9223372036854775807) ∧
      ∀ W' : World, Below W.heap.size W W' → DataW.Trod enc Tryd.prog W' 0 (fun b => decide (b < W.heap.size)) true 29 v d p := by
  have hsh : ∀ W' : World, Below W.heap.size W W' → DataW.Trod enc Tryd.prog W' 0 (fun b => decide (b < W.heap.size)) true 29 v d p := fun W' hb =>
    Below.trod laid_out rec_keys row_keys h hb hlt
  obtain ⟨A, n, c, rfl⟩ := okWide_slice Tryd.underlying29 hv
  obtain ⟨fuel, hf⟩ := h
  rcases open_strings Tryd.underlying29 Tryd.underlying9 cells_str hf with ⟨hcs, hx⟩ | ⟨a, len, cap, ss, hcs, _, hl, hm, hz, hx, hcell, hws⟩
  · simp [Value.cells] at hcs
    obtain ⟨rfl, rfl, rfl⟩ := hcs
    exact ⟨none, 0, 0, [], rfl, Row.nil _ _ _, (fun k hk => by cases hk), hsh⟩
  · simp [Value.cells] at hcs
    obtain ⟨rfl, rfl, rfl⟩ := hcs
    simp only [if_true] at hz
    refine ⟨some a, n, c, ss.take n, rfl, ⟨by simp [keysV]; omega, hl, hm, fun hn => ⟨a, rfl, trivial, ?_, fun j u hu => ?_⟩⟩, fun k hk => ?_, hsh⟩
    · have := World.block_lt_of_cell? W _ (hcell 0 (by omega))
      rwa [add_block] at this
    · simp only [keysV, List.getElem?_map, Option.map_eq_some_iff] at hu
      obtain ⟨x, hx1, rfl⟩ := hu
      rw [List.getElem?_take] at hx1
      split at hx1
      · rename_i hj
        rw [hcell j (by omega)]
        simp [List.getD_eq_getElem?_getD, hx1]
      · cases hx1
    · have := hws k (List.mem_of_mem_take hk)
      simp only [maxLen] at this
      exact this
end Go.Proofs.YtbgcjnhebfgicaaDoor.Jp

/- internalGetConfig with keys that lead to a value. -/
namespace Go.Proofs.YtbgcjnhebfgicaaDoor.Jp
open Go.RowKit L
set_option linter.unusedVariables false
set_option linter.unusedSimpArgs false

/-- What Get answers of the value r. -/
def IkPost (s : ByteArray) (r : Pl) (w : World) (e : Ending) (w' : World) : Prop :=
  (∃ (A' : Option Addr) (n' c' : Nat), e = .returned (.tuple #[.slice A' n' c', .int .i64 (jk r.kind : Int), .int .i64 (r.b : Int), .int .i64 (r.e : Int), .nilIface]) ∧ n' = (rawAt s r.kind r.b r.e).size ∧ n' ≤ c' ∧ Rd w' A' (rawAt s r.kind r.b r.e) ∧ (r.kind = 4 → ∃ b' i' : Nat, A' = some ⟨b', i', none⟩)) ∧ Below w.heap.size w w'
set_option maxRecDepth 100000 in
set_option maxHeartbeats 8000000 in
theorem igetK (T : Nat → TypeId) (V : Nat → Value) (s : ByteArray) (kd : List ByteArray) (p r : Pl) (a b : Bool) (cn : Int) (bi i0 m c nf off : Nat) (A : Option Addr) (nk ck : Nat) (Bk : Nat → Prop) (w : World) (h : Rd w (some ⟨bi, i0, none⟩) s) (hE : Errs T V w) (hT : Tb w) (hm : m = s.size) (hs : s.size ≤ 1000000) (hc : s.size ≤ c)
    (hK : Row w Bk 1 A nk ck (keysV kd)) (hkn : kd.length ≤ 2147483647) (hr : Rdv s nf off p) (hpb : p.b = L.skip isBlank s 0) (hl : Leads s p kd r) (hk0 : kd ≠ []) :
    Calls Tryd.prog 50 #[.agg #[.bool a, .bool b, .int .i64 cn], .slice (some ⟨bi, i0, none⟩) m c, .slice A nk ck] w (IkPost s r w) := by
  subst hm
  obtain ⟨g1, g2, g3, g4, g5, g6, g7⟩ := gty_lead a hr hl hk0
  have hnk := (keys_len hK).1
  have hl0 : 0 < kd.length := List.length_pos_iff.2 hk0
  have hst : Stand s s.size kd r 0 0 true 0 := Stand.blank (by
    rw [← hpb]
    exact Core.path hl0 hr hr.2.2.2.2.1 (by rw [List.drop_zero]; exact hl))
  have HB := Lib.hid (below_alloc (Below.refl w.heap.size w) (.cells #[.bool a, .bool b, .int .i64 cn] 74))
  have HR := Lib.hid (h.below HB.out)
  have HE := Lib.hid (hE.below HB.out)
  have hcf := CfgAt.new w a b cn
  obtain ⟨w1, hw1⟩ : ∃ w1, w.alloc (.cells #[.bool a, .bool b, .int .i64 cn] 74) = w1 := ⟨_, rfl⟩
  rw [hw1] at HB HR HE hcf
  have HCF := Lib.hid hcf
  have k0 := hcf.c0
  have k1 := hcf.c1
  have k2 := hcf.c2
  have HSEA := Lib.hid (fun (w' : World) (hb : Below w1.heap.size w1 w') => (show Calls Tryd.prog 66 #[.agg #[.bool a, .bool b, .int .i64 cn], .slice (some ⟨bi, i0, none⟩) s.size c, .slice A nk ck] w' (SeaPost s 0 r w') from
    seaAll T V s s.size 0 kd r a b cn bi i0 c s.size A nk ck Bk w' (by rw [ext_all]; exact HR.out.below hb) rfl hs (Nat.le_refl _) hc (hK.keep (.of_below (below_of HB.out hb))) (hT.below (below_of HB.out hb)) hkn (HE.out.below hb) hst))
  have HGT := Lib.hid g1
  have hnz : (0 : Int) < (nk : Int) := by omega
  have HPB := Lib.hid hpb
  have HNK := Lib.hid hnk
  clear h hE hT hK hr hl hst hcf g1 hpb hnk
  have hrS : r.b < s.size := by omega
  by_cases hk4 : r.kind = 4
  · have h2 := g7 hk4
    have hj1 : (jk r.kind : Nat) = 1 := (jk_lt _ g6).2 hk4
    rw [hj1] at HGT
    have hraw : rawAt s r.kind r.b r.e = s.extract (r.b + 1) (r.e - 1) := by unfold rawAt; rw [if_pos hk4]
    unfold IkPost
    rw [hraw, hj1]
    clear hraw hj1 hk4 g7
    go_enter Tryd.func50, Tryd.ntmps50
    go_upto_region 3 with (first
      | (go_at_call 66; (with_reducible refine (HSEA.out w1 (Below.refl _ _)).mono ?_); rintro e w2 ⟨⟨x, rfl, hx1, hx2⟩, hb2⟩; replace hx2 := Lib.hid hx2; replace hb2 := Lib.hid hb2))
    have hxb : x ≤ r.b := by rwa [Nat.zero_add] at hx1
    have hxs : L.skip isBlank s x = r.b := by have := hx2.out; rwa [Nat.zero_add] at this
    obtain ⟨d, hd⟩ : ∃ d, r.b - x = d := ⟨_, rfl⟩
    have hN : nxt (tx (s.extract x s.size)) = some d := by
      have := nxt_win (s := s) (i := x) (m := s.size) (Nat.le_refl _) (by omega) (by omega)
      rwa [hxs, hd] at this
    have HN := Lib.hid hN
    have hcf2 := HCF.out.below hb2.out
    have HCF2 := Lib.hid hcf2
    have j0 := hcf2.c0
    have j1 := hcf2.c1
    have j2 := hcf2.c2
    have HR2 := Lib.hid (HR.out.below hb2.out)
    have HE2 := Lib.hid (HE.out.below hb2.out)
    have HRx := Lib.hid (show Rd w2 (some ⟨bi, i0 + x, none⟩) (s.extract x s.size) by
      have := rd_ite (c := c) (k := x) HR2.out (by omega) (by rw [if_neg (by omega)])
      exact this)
    have hxn : ((x : Int) == -1) = false := beq_eq_false_iff_ne.2 (by omega)
    have hdn : ((d : Int) == -1) = false := beq_eq_false_iff_ne.2 (by omega)
    have hx0 : (0 : Int) ≤ (x : Int) := by omega
    have hxm : (x : Int) ≤ (s.size : Int) := by omega
    have hcx : ¬ c = x := by omega
    have e1 : IntKind.i64.wrap ((x : Int) + (d : Int)) = (r.b : Int) := by rw [IntWalk.i64_in _ (by omega)]; omega
    have HNX := Lib.hid (nextQ _ (s.extract x s.size) (s.size - x) (c - x) d a b cn w2 HRx.out (by rw [size_ext]; omega) (by rw [size_ext]; omega) (by rw [size_ext]; omega) HN.out)
    have HB2 := Lib.hid (below_of HB.out hb2.out)
    clear hN hcf2 hxs hx1
    go_upto_region 5 with (fail)
    go_cut [11] (fun v11 wx => v11 = .int .i64 (d : Int) ∧ Below w2.heap.size w2 wx)
    case first =>
      go_region_with (first
        | (go_at_call 67; (with_reducible refine HNX.out.mono ?_); rintro e w3 ⟨rfl, hb3⟩; replace hb3 := Lib.hid hb3))
      all_goals
        go_wp2_with (fail)
        (try simp only [Act.put, List.getElem_toArray, List.getElem_cons_succ, List.getElem_cons_zero, List.setIfInBounds_toArray, List.set_cons_zero, List.set_cons_succ])
        go_meet
        case rel => exact ⟨rfl, hb3.out⟩
    case rest =>
    obtain ⟨rfl, hb3⟩ := hcut
    obtain ⟨w3, hw3⟩ : ∃ x, x = wc := ⟨_, rfl⟩
    subst hw3
    have hcf3 := HCF2.out.below hb3
    have j0 := hcf3.c0
    have j1 := hcf3.c1
    have j2 := hcf3.c2
    have HB3 := Lib.hid (below_of HB2.out hb3)
    obtain ⟨kk, hkk⟩ : ∃ kk, r.e - r.b = kk := ⟨_, rfl⟩
    have HTY := Lib.hid (show Calls Tryd.prog 68 #[.agg #[.bool a, .bool b, .int .i64 cn], .slice (some ⟨bi, i0, none⟩) s.size c, .int .i64 (r.b : Int)] w3 fun e w' => ∃ (A4 : Addr) (c4 : Nat), e = .returned (.tuple #[.slice (some A4) kk c4, .int .i64 (1), .int .i64 (r.e : Int), .nilIface]) ∧ kk ≤ c4 ∧ Rd w' (some A4) (s.extract r.b (r.b + kk)) ∧ Below w3.heap.size w3 w' from by
      refine (typeW T V _ s s.size c r.b a b cn w3 (HR2.out.below hb3) (HE2.out.below hb3) rfl hs hc hrS).mono ?_
      rw [HGT.out]
      rintro e w' ⟨⟨A2, c2, rfl, hle, hkc, hrd⟩, hb⟩
      obtain ⟨ad2, rfl, -⟩ := hrd (by rw [size_ext]; omega)
      rw [hkk] at hkc hrd hle ⊢
      exact ⟨ad2, c2, by rw [show r.b + kk = r.e by omega] <;> rfl, hkc, hrd, hb⟩)
    have hkk2 : 0 < kk := by omega
    have hke : r.b + kk = r.e := by omega
    have HKE := Lib.hid hke
    have hke2 : r.b + kk ≤ s.size := by omega
    have hk2' : 2 ≤ kk := by omega
    clear hb3 hcf3 hkk hke hd
    go_wp2_with (first
      | (go_at_call 68; (with_reducible refine HTY.out.mono ?_); rintro e w4 ⟨A4, c4, rfl, hkc, hrd, hb4⟩; replace hrd := Lib.hid hrd; replace hb4 := Lib.hid hb4))
    all_goals
      (try simp only [Exit.inBlock, Exit.then])
      refine bodyPost_ret (results_tmp5 rfl _ _ _) rfl ?_
      refine ⟨⟨_, _, _, rfl, ?_, ?_, ?_, ?_⟩, below_of HB3.out hb4.out⟩
      · rw [size_ext]; have := HKE.out; omega
      · first | exact Nat.le_refl _ | omega
      · have := rdstrip hrd.out hk2' hke2
        rwa [HKE.out] at this
      · exact fun _ => ⟨_, _, rfl⟩
  · have hj1 : ((jk r.kind : Int) == 1) = false := beq_eq_false_iff_ne.2 fun h => hk4 ((jk_lt _ g6).1 (by exact_mod_cast h))
    have hraw : rawAt s r.kind r.b r.e = s.extract r.b r.e := by unfold rawAt; rw [if_neg hk4]
    unfold IkPost
    rw [hraw]
    have HK4 := Lib.hid hk4
    clear hraw hk4 g7
    go_enter Tryd.func50, Tryd.ntmps50
    go_upto_region 3 with (first
      | (go_at_call 66; (with_reducible refine (HSEA.out w1 (Below.refl _ _)).mono ?_); rintro e w2 ⟨⟨x, rfl, hx1, hx2⟩, hb2⟩; replace hx2 := Lib.hid hx2; replace hb2 := Lib.hid hb2))
    have hxb : x ≤ r.b := by rwa [Nat.zero_add] at hx1
    have hxs : L.skip isBlank s x = r.b := by have := hx2.out; rwa [Nat.zero_add] at this
    obtain ⟨d, hd⟩ : ∃ d, r.b - x = d := ⟨_, rfl⟩
    have hN : nxt (tx (s.extract x s.size)) = some d := by
      have := nxt_win (s := s) (i := x) (m := s.size) (Nat.le_refl _) (by omega) (by omega)
      rwa [hxs, hd] at this
    have HN := Lib.hid hN
    have hcf2 := HCF.out.below hb2.out
    have HCF2 := Lib.hid hcf2
    have j0 := hcf2.c0
    have j1 := hcf2.c1
    have j2 := hcf2.c2
    have HR2 := Lib.hid (HR.out.below hb2.out)
    have HE2 := Lib.hid (HE.out.below hb2.out)
    have HRx := Lib.hid (show Rd w2 (some ⟨bi, i0 + x, none⟩) (s.extract x s.size) by
      have := rd_ite (c := c) (k := x) HR2.out (by omega) (by rw [if_neg (by omega)])
      exact this)
    have hxn : ((x : Int) == -1) = false := beq_eq_false_iff_ne.2 (by omega)
    have hdn : ((d : Int) == -1) = false := beq_eq_false_iff_ne.2 (by omega)
    have hx0 : (0 : Int) ≤ (x : Int) := by omega
    have hxm : (x : Int) ≤ (s.size : Int) := by omega
    have hcx : ¬ c = x := by omega
    have e1 : IntKind.i64.wrap ((x : Int) + (d : Int)) = (r.b : Int) := by rw [IntWalk.i64_in _ (by omega)]; omega
    have HNX := Lib.hid (nextQ _ (s.extract x s.size) (s.size - x) (c - x) d a b cn w2 HRx.out (by rw [size_ext]; omega) (by rw [size_ext]; omega) (by rw [size_ext]; omega) HN.out)
    have HB2 := Lib.hid (below_of HB.out hb2.out)
    clear hN hcf2 hxs hx1
    go_upto_region 5 with (fail)
    go_cut [11] (fun v11 wx => v11 = .int .i64 (d : Int) ∧ Below w2.heap.size w2 wx)
    case first =>
      go_region_with (first
        | (go_at_call 67; (with_reducible refine HNX.out.mono ?_); rintro e w3 ⟨rfl, hb3⟩; replace hb3 := Lib.hid hb3))
      all_goals
        go_wp2_with (fail)
        (try simp only [Act.put, List.getElem_toArray, List.getElem_cons_succ, List.getElem_cons_zero, List.setIfInBounds_toArray, List.set_cons_zero, List.set_cons_succ])
        go_meet
        case rel => exact ⟨rfl, hb3.out⟩
    case rest =>
    obtain ⟨rfl, hb3⟩ := hcut
    obtain ⟨w3, hw3⟩ : ∃ x, x = wc := ⟨_, rfl⟩
    subst hw3
    have hcf3 := HCF2.out.below hb3
    have j0 := hcf3.c0
    have j1 := hcf3.c1
    have j2 := hcf3.c2
    have HB3 := Lib.hid (below_of HB2.out hb3)
    obtain ⟨kk, hkk⟩ : ∃ kk, r.e - r.b = kk := ⟨_, rfl⟩
    have HTY := Lib.hid (show Calls Tryd.prog 68 #[.agg #[.bool a, .bool b, .int .i64 cn], .slice (some ⟨bi, i0, none⟩) s.size c, .int .i64 (r.b : Int)] w3 fun e w' => ∃ (A4 : Addr) (c4 : Nat), e = .returned (.tuple #[.slice (some A4) kk c4, .int .i64 ((jk r.kind : Int)), .int .i64 (r.e : Int), .nilIface]) ∧ kk ≤ c4 ∧ Rd w' (some A4) (s.extract r.b (r.b + kk)) ∧ Below w3.heap.size w3 w' from by
      refine (typeW T V _ s s.size c r.b a b cn w3 (HR2.out.below hb3) (HE2.out.below hb3) rfl hs hc hrS).mono ?_
      rw [HGT.out]
      rintro e w' ⟨⟨A2, c2, rfl, hle, hkc, hrd⟩, hb⟩
      obtain ⟨ad2, rfl, -⟩ := hrd (by rw [size_ext]; omega)
      rw [hkk] at hkc hrd hle ⊢
      exact ⟨ad2, c2, by rw [show r.b + kk = r.e by omega] <;> rfl, hkc, hrd, hb⟩)
    have hkk2 : 0 < kk := by omega
    have hke : r.b + kk = r.e := by omega
    have HKE := Lib.hid hke
    have hke2 : r.b + kk ≤ s.size := by omega
    clear hb3 hcf3 hkk hke hd
    go_wp2_with (first
      | (go_at_call 68; (with_reducible refine HTY.out.mono ?_); rintro e w4 ⟨A4, c4, rfl, hkc, hrd, hb4⟩; replace hrd := Lib.hid hrd; replace hb4 := Lib.hid hb4))
    all_goals
      (try simp only [Exit.inBlock, Exit.then])
      refine bodyPost_ret (results_tmp5 rfl _ _ _) rfl ?_
      refine ⟨⟨_, _, _, rfl, ?_, ?_, ?_, ?_⟩, below_of HB3.out hb4.out⟩
      · rw [size_ext]; have := HKE.out; omega
      · first | exact Nat.le_refl _ | omega
      · have := hrd.out
        rwa [HKE.out] at this
      · exact fun h => absurd h HK4.out
/-- What Get takes a text's value for. -/
theorem gty_root {s : ByteArray} {p : Pl} (sq : Bool) (h : places s = some p) :
    gty sq ((tx s).drop p.b) = .ok (jk p.kind) (p.e - p.b) ∧ L.skip isBlank s 0 = p.b ∧ p.b < p.e ∧ p.e ≤ s.size ∧ p.kind ≤ 6 ∧ (p.kind = 4 → p.b + 2 ≤ p.e) := by
  obtain ⟨-, r1, r2, r3, r4, r5, r6, r7, r8⟩ := places_val h
  have he : ¬ L.skip isBlank s p.e < s.size := by
    unfold places valAt at h
    split at h
    · cases h
    · rename_i j q hv
      split at h
      · rename_i hc
        injection h with h
        subst h
        obtain ⟨rfl, -⟩ := rdv_of (Nat.zero_le _) (by omega) hv |>.symm
        omega
      · cases h
  have hf : p.kind ≤ 3 → Fol ((tx s).drop p.e) := fun hk => fol_of (i := 0) (ps := []) ⟨r2, r3, r4, r5, he⟩ trivial hk
  rw [← r4] at r3
  have hg := gty_val sq (by omega) r3 ((tx s).drop p.e) hf
  rw [← seg_drop (by omega) r5] at hg
  exact ⟨hg, r4.symm, r6, r5, r7, r8⟩
set_option maxRecDepth 100000 in
set_option maxHeartbeats 8000000 in
theorem igetZ (T : Nat → TypeId) (V : Nat → Value) (s : ByteArray) (r : Pl) (a b : Bool) (cn : Int) (bi i0 m c ck : Nat) (A : Option Addr) (w : World) (h : Rd w (some ⟨bi, i0, none⟩) s) (hE : Errs T V w) (hm : m = s.size) (hs : s.size ≤ 1000000) (hc : s.size ≤ c)
    (hr : places s = some r) :
    Calls Tryd.prog 50 #[.agg #[.bool a, .bool b, .int .i64 cn], .slice (some ⟨bi, i0, none⟩) m c, .slice A 0 ck] w (IkPost s r w) := by
  subst hm
  obtain ⟨g1, g2, g3, g5, g6, g7⟩ := gty_root a hr
  have HB := Lib.hid (below_alloc (Below.refl w.heap.size w) (.cells #[.bool a, .bool b, .int .i64 cn] 74))
  have HR := Lib.hid (h.below HB.out)
  have HE := Lib.hid (hE.below HB.out)
  have hcf := CfgAt.new w a b cn
  obtain ⟨w1, hw1⟩ : ∃ w1, w.alloc (.cells #[.bool a, .bool b, .int .i64 cn] 74) = w1 := ⟨_, rfl⟩
  rw [hw1] at HB HR HE hcf
  have HCF := Lib.hid hcf
  have k0 := hcf.c0
  have k1 := hcf.c1
  have k2 := hcf.c2
  have HGT := Lib.hid g1
  clear h hE hr hcf g1
  have hrS : r.b < s.size := by omega
  by_cases hk4 : r.kind = 4
  · have h2 := g7 hk4
    have hj1 : (jk r.kind : Nat) = 1 := (jk_lt _ g6).2 hk4
    rw [hj1] at HGT
    have hraw : rawAt s r.kind r.b r.e = s.extract (r.b + 1) (r.e - 1) := by unfold rawAt; rw [if_pos hk4]
    unfold IkPost
    rw [hraw, hj1]
    clear hraw hj1 hk4 g7
    go_enter Tryd.func50, Tryd.ntmps50
    have hN : nxt (tx s) = some r.b := by
      have := nxt_win (s := s) (i := 0) (m := s.size) (Nat.le_refl _) (by omega) (by omega)
      rwa [g2, ext_all, Nat.sub_zero] at this
    have HNX := Lib.hid (nextQ _ s s.size c r.b a b cn w1 HR.out rfl hs hc hN)
    have hdn : ((r.b : Int) == -1) = false := beq_eq_false_iff_ne.2 (by omega)
    have e1 : IntKind.i64.wrap (r.b : Int) = (r.b : Int) := IntWalk.i64_in _ (by omega)
    clear hN g2
    go_upto_region 5 with (fail)
    go_cut [11] (fun v11 wx => v11 = .int .i64 (r.b : Int) ∧ Below w1.heap.size w1 wx)
    case first =>
      go_region_with (first
        | (go_at_call 67; (with_reducible refine HNX.out.mono ?_); rintro e w3 ⟨rfl, hb3⟩; replace hb3 := Lib.hid hb3))
      all_goals
        go_wp2_with (fail)
        (try simp only [Act.put, List.getElem_toArray, List.getElem_cons_succ, List.getElem_cons_zero, List.setIfInBounds_toArray, List.set_cons_zero, List.set_cons_succ])
        go_meet
        case rel => exact ⟨rfl, hb3.out⟩
    case rest =>
    obtain ⟨rfl, hb3⟩ := hcut
    obtain ⟨w3, hw3⟩ : ∃ x, x = wc := ⟨_, rfl⟩
    subst hw3
    have hcf3 := HCF.out.below hb3
    have j0 := hcf3.c0
    have j1 := hcf3.c1
    have j2 := hcf3.c2
    have HB3 := Lib.hid (below_of HB.out hb3)
    obtain ⟨kk, hkk⟩ : ∃ kk, r.e - r.b = kk := ⟨_, rfl⟩
    have HTY := Lib.hid (show Calls Tryd.prog 68 #[.agg #[.bool a, .bool b, .int .i64 cn], .slice (some ⟨bi, i0, none⟩) s.size c, .int .i64 (r.b : Int)] w3 fun e w' => ∃ (A4 : Addr) (c4 : Nat), e = .returned (.tuple #[.slice (some A4) kk c4, .int .i64 (1), .int .i64 (r.e : Int), .nilIface]) ∧ kk ≤ c4 ∧ Rd w' (some A4) (s.extract r.b (r.b + kk)) ∧ Below w3.heap.size w3 w' from by
      refine (typeW T V _ s s.size c r.b a b cn w3 (HR.out.below hb3) (HE.out.below hb3) rfl hs hc hrS).mono ?_
      rw [HGT.out]
      rintro e w' ⟨⟨A2, c2, rfl, hle, hkc, hrd⟩, hb⟩
      obtain ⟨ad2, rfl, -⟩ := hrd (by rw [size_ext]; omega)
      rw [hkk] at hkc hrd hle ⊢
      exact ⟨ad2, c2, by rw [show r.b + kk = r.e by omega] <;> rfl, hkc, hrd, hb⟩)
    have hkk2 : 0 < kk := by omega
    have hke : r.b + kk = r.e := by omega
    have HKE := Lib.hid hke
    have hke2 : r.b + kk ≤ s.size := by omega
    have hk2' : 2 ≤ kk := by omega
    clear hb3 hcf3 hkk hke
    go_wp2_with (first
      | (go_at_call 68; (with_reducible refine HTY.out.mono ?_); rintro e w4 ⟨A4, c4, rfl, hkc, hrd, hb4⟩; replace hrd := Lib.hid hrd; replace hb4 := Lib.hid hb4))
    all_goals
      (try simp only [Exit.inBlock, Exit.then])
      refine bodyPost_ret (results_tmp5 rfl _ _ _) rfl ?_
      refine ⟨⟨_, _, _, rfl, ?_, ?_, ?_, ?_⟩, below_of HB3.out hb4.out⟩
      · rw [size_ext]; have := HKE.out; omega
      · first | exact Nat.le_refl _ | omega
      · have := rdstrip hrd.out hk2' hke2
        rwa [HKE.out] at this
      · exact fun _ => ⟨_, _, rfl⟩
  · have hj1 : ((jk r.kind : Int) == 1) = false := beq_eq_false_iff_ne.2 fun h => hk4 ((jk_lt _ g6).1 (by exact_mod_cast h))
    have hraw : rawAt s r.kind r.b r.e = s.extract r.b r.e := by unfold rawAt; rw [if_neg hk4]
    unfold IkPost
    rw [hraw]
    have HK4 := Lib.hid hk4
    clear hraw hk4 g7
    go_enter Tryd.func50, Tryd.ntmps50
    have hN : nxt (tx s) = some r.b := by
      have := nxt_win (s := s) (i := 0) (m := s.size) (Nat.le_refl _) (by omega) (by omega)
      rwa [g2, ext_all, Nat.sub_zero] at this
    have HNX := Lib.hid (nextQ _ s s.size c r.b a b cn w1 HR.out rfl hs hc hN)
    have hdn : ((r.b : Int) == -1) = false := beq_eq_false_iff_ne.2 (by omega)
    have e1 : IntKind.i64.wrap (r.b : Int) = (r.b : Int) := IntWalk.i64_in _ (by omega)
    clear hN g2
    go_upto_region 5 with (fail)
    go_cut [11] (fun v11 wx => v11 = .int .i64 (r.b : Int) ∧ Below w1.heap.size w1 wx)
    case first =>
      go_region_with (first
        | (go_at_call 67; (with_reducible refine HNX.out.mono ?_); rintro e w3 ⟨rfl, hb3⟩; replace hb3 := Lib.hid hb3))
      all_goals
        go_wp2_with (fail)
        (try simp only [Act.put, List.getElem_toArray, List.getElem_cons_succ, List.getElem_cons_zero, List.setIfInBounds_toArray, List.set_cons_zero, List.set_cons_succ])
        go_meet
        case rel => exact ⟨rfl, hb3.out⟩
    case rest =>
    obtain ⟨rfl, hb3⟩ := hcut
    obtain ⟨w3, hw3⟩ : ∃ x, x = wc := ⟨_, rfl⟩
    subst hw3
    have hcf3 := HCF.out.below hb3
    have j0 := hcf3.c0
    have j1 := hcf3.c1
    have j2 := hcf3.c2
    have HB3 := Lib.hid (below_of HB.out hb3)
    obtain ⟨kk, hkk⟩ : ∃ kk, r.e - r.b = kk := ⟨_, rfl⟩
    have HTY := Lib.hid (show Calls Tryd.prog 68 #[.agg #[.bool a, .bool b, .int .i64 cn], .slice (some ⟨bi, i0, none⟩) s.size c, .int .i64 (r.b : Int)] w3 fun e w' => ∃ (A4 : Addr) (c4 : Nat), e = .returned (.tuple #[.slice (some A4) kk c4, .int .i64 ((jk r.kind : Int)), .int .i64 (r.e : Int), .nilIface]) ∧ kk ≤ c4 ∧ Rd w' (some A4) (s.extract r.b (r.b + kk)) ∧ Below w3.heap.size w3 w' from by
      refine (typeW T V _ s s.size c r.b a b cn w3 (HR.out.below hb3) (HE.out.below hb3) rfl hs hc hrS).mono ?_
      rw [HGT.out]
      rintro e w' ⟨⟨A2, c2, rfl, hle, hkc, hrd⟩, hb⟩
      obtain ⟨ad2, rfl, -⟩ := hrd (by rw [size_ext]; omega)
      rw [hkk] at hkc hrd hle ⊢
      exact ⟨ad2, c2, by rw [show r.b + kk = r.e by omega] <;> rfl, hkc, hrd, hb⟩)
    have hkk2 : 0 < kk := by omega
    have hke : r.b + kk = r.e := by omega
    have HKE := Lib.hid hke
    have hke2 : r.b + kk ≤ s.size := by omega
    clear hb3 hcf3 hkk hke
    go_wp2_with (first
      | (go_at_call 68; (with_reducible refine HTY.out.mono ?_); rintro e w4 ⟨A4, c4, rfl, hkc, hrd, hb4⟩; replace hrd := Lib.hid hrd; replace hb4 := Lib.hid hb4))
    all_goals
      (try simp only [Exit.inBlock, Exit.then])
      refine bodyPost_ret (results_tmp5 rfl _ _ _) rfl ?_
      refine ⟨⟨_, _, _, rfl, ?_, ?_, ?_, ?_⟩, below_of HB3.out hb4.out⟩
      · rw [size_ext]; have := HKE.out; omega
      · first | exact Nat.le_refl _ | omega
      · have := hrd.out
        rwa [HKE.out] at this
      · exact fun h => absurd h HK4.out
end Go.Proofs.YtbgcjnhebfgicaaDoor.Jp

/- Config.Get and Config.GetString with keys that lead to a value. -/
namespace Go.Proofs.YtbgcjnhebfgicaaDoor.Jp
open Go.RowKit L
set_option linter.unusedVariables false
set_option linter.unusedSimpArgs false

/-- internalGetConfig, whatever the keys. -/
theorem igetA (T : Nat → TypeId) (V : Nat → Value) (s : ByteArray) (kd : List ByteArray) (p r : Pl) (a b : Bool) (cn : Int) (bi i0 m c : Nat) (A : Option Addr) (nk ck : Nat) (Bk : Nat → Prop) (w : World) (h : Rd w (some ⟨bi, i0, none⟩) s) (hE : Errs T V w) (hT : Tb w) (hm : m = s.size) (hs : s.size ≤ 1000000) (hc : s.size ≤ c)
    (hK : Row w Bk 1 A nk ck (keysV kd)) (hkn : kd.length ≤ 2147483647) (hp : places s = some p) (hl : Leads s p kd r) :
    Calls Tryd.prog 50 #[.agg #[.bool a, .bool b, .int .i64 cn], .slice (some ⟨bi, i0, none⟩) m c, .slice A nk ck] w (IkPost s r w) := by
  have hr := (places_val hp).2
  cases kd with
  | nil =>
    obtain rfl : nk = 0 := (keys_len hK).1
    cases hl
    exact igetZ T V s p a b cn bi i0 m c ck A w h hE hm hs hc hp
  | cons k ks => exact igetK T V s (k :: ks) p r a b cn bi i0 m c _ _ A nk ck Bk w h hE hT hm hs hc hK hkn hr hr.2.2.2.1 hl (by simp)
/-- What Config.Get answers of the value r. -/
def CkPost (s : ByteArray) (r : Pl) (w : World) (e : Ending) (w' : World) : Prop :=
  (∃ (A' : Option Addr) (n' c' : Nat), e = .returned (.tuple #[.slice A' n' c', .int .i64 (jk r.kind : Int), .int .i64 (r.e : Int), .nilIface]) ∧ n' = (rawAt s r.kind r.b r.e).size ∧ n' ≤ c' ∧ Rd w' A' (rawAt s r.kind r.b r.e) ∧ (r.kind = 4 → ∃ b' i' : Nat, A' = some ⟨b', i', none⟩)) ∧ Below w.heap.size w w'
set_option maxRecDepth 100000 in
set_option maxHeartbeats 4000000 in
theorem cgetA (T : Nat → TypeId) (V : Nat → Value) (s : ByteArray) (kd : List ByteArray) (p r : Pl) (a b : Bool) (cn : Int) (bi i0 m c : Nat) (A : Option Addr) (nk ck : Nat) (Bk : Nat → Prop) (w : World) (h : Rd w (some ⟨bi, i0, none⟩) s) (hE : Errs T V w) (hT : Tb w) (hm : m = s.size) (hs : s.size ≤ 1000000) (hc : s.size ≤ c)
    (hK : Row w Bk 1 A nk ck (keysV kd)) (hkn : kd.length ≤ 2147483647) (hp : places s = some p) (hl : Leads s p kd r) :
    Calls Tryd.prog 33 #[.agg #[.bool a, .bool b, .int .i64 cn], .slice (some ⟨bi, i0, none⟩) m c, .slice A nk ck] w (CkPost s r w) := by
  have HB := Lib.hid (below_alloc (Below.refl w.heap.size w) (.cells #[.bool a, .bool b, .int .i64 cn] 74))
  have hcf := CfgAt.new w a b cn
  obtain ⟨w1, hw1⟩ : ∃ w1, w.alloc (.cells #[.bool a, .bool b, .int .i64 cn] 74) = w1 := ⟨_, rfl⟩
  rw [hw1] at HB hcf
  have j0 := hcf.c0
  have j1 := hcf.c1
  have j2 := hcf.c2
  have HIG := Lib.hid (igetA T V s kd p r a b cn bi i0 m c A nk ck Bk w1 (h.below HB.out) (hE.below HB.out) (hT.below HB.out) hm hs hc (hK.keep (.of_below HB.out)) hkn hp hl)
  clear h hE hT hm hK hp hl hcf
  go_enter Tryd.func33, Tryd.ntmps33
  go_wp2_with (first
    | (go_at_call 50; (with_reducible refine HIG.out.mono ?_); rintro e w2 ⟨⟨A2, n2, c2, rfl, h1, h2, h3, h4⟩, hb2⟩; replace h1 := Lib.hid h1; replace h3 := Lib.hid h3; replace h4 := Lib.hid h4; replace hb2 := Lib.hid hb2))
  (try simp only [Exit.inBlock, Exit.then])
  refine bodyPost_ret (results_tmp4 rfl _ _ _) rfl ?_
  exact ⟨⟨A2, n2, c2, rfl, h1.out, h2, h3.out, h4.out⟩, below_of HB.out hb2.out⟩
set_option maxRecDepth 100000 in
set_option maxHeartbeats 4000000 in
theorem errNewW (t : ByteArray) (w : World) : Calls Tryd.prog 51 #[.string t] w fun e w' => (∃ ty v, e = .returned (.iface ty v)) ∧ Below w.heap.size w w' := by
  go_enter Tryd.func51, Tryd.ntmps51
  go_wp2
  go_ret
  exact ⟨⟨_, _, rfl⟩, below_alloc (Below.refl _ _) _⟩
/-- A string's characters. -/
def chars (s : ByteArray) (r : Pl) : ByteArray := strOfNums (unq (s.extract (r.b + 1) (r.e - 1)) 0)
/-- What Config.GetString answers of the value r. -/
def GsPost (s : ByteArray) (r : Pl) (w : World) (e : Ending) (w' : World) : Prop :=
  ((r.kind = 4 ∧ e = .returned (.tuple #[.string (chars s r), .nilIface])) ∨ (r.kind ≠ 4 ∧ ∃ t v, e = .returned (.tuple #[.string ⟨#[]⟩, .iface t v]))) ∧ Below w.heap.size w w'
theorem str_val {s : ByteArray} {n off : Nat} {r : Pl} (hr : Rdv s n off r) (h4 : r.kind = 4) : EscOk (s.extract (r.b + 1) (r.e - 1)) 0 := by
  have hv := hr.2.2.1
  have hv2 := vok _ _ _ _ (by have := hr.2.1; omega) hr.2.2.1
  obtain ⟨v1, v2, v3, v4, v5, v6, v7, v8, v9, v10⟩ := hv2
  rw [← v4] at v8
  rw [← hr.2.2.2.1] at hv
  cases n with
  | zero => cases hv
  | succ n =>
    have h34 := (v8 h4).1
    unfold valN at hv
    rw [if_neg (by omega), if_neg (by omega), if_pos h34] at hv
    simp only [Option.map_eq_some_iff, Prod.mk.injEq] at hv
    obtain ⟨x, g1, g2, -⟩ := hv
    rw [g2] at g1
    exact name_ok (x := (r.b, r.e)) g1
set_option maxRecDepth 100000 in
set_option maxHeartbeats 4000000 in
theorem getSA (T : Nat → TypeId) (V : Nat → Value) (tn : TypeId) (vn : Value) (s : ByteArray) (kd : List ByteArray) (p r : Pl) (a b : Bool) (cn : Int) (bi i0 m c : Nat) (A : Option Addr) (nk ck : Nat) (Bk : Nat → Prop) (w : World) (h : Rd w (some ⟨bi, i0, none⟩) s) (hE : Errs T V w) (hT : Tb w) (hNV : Gl w 0 tn vn) (hm : m = s.size) (hs : s.size ≤ 1000000) (hc : s.size ≤ c)
    (hK : Row w Bk 1 A nk ck (keysV kd)) (hkn : kd.length ≤ 2147483647) (hp : places s = some p) (hl : Leads s p kd r) :
    Calls Tryd.prog 34 #[.agg #[.bool a, .bool b, .int .i64 cn], .slice (some ⟨bi, i0, none⟩) m c, .slice A nk ck] w (GsPost s r w) := by
  obtain ⟨n', off', hrv, -, -, -⟩ := leads_at hl (places_val hp).2
  have hk6 := hrv.2.2.2.2.2.2.1
  have hre := hrv.2.2.2.2.1
  have HB := Lib.hid (below_alloc (Below.refl w.heap.size w) (.cells #[.bool a, .bool b, .int .i64 cn] 74))
  have hcf := CfgAt.new w a b cn
  obtain ⟨w1, hw1⟩ : ∃ w1, w.alloc (.cells #[.bool a, .bool b, .int .i64 cn] 74) = w1 := ⟨_, rfl⟩
  rw [hw1] at HB hcf
  have HCF := Lib.hid hcf
  have j0 := hcf.c0
  have j1 := hcf.c1
  have j2 := hcf.c2
  have HT := Lib.hid (hT.below HB.out)
  have HNV := Lib.hid (hNV.below HB.out)
  have HCG := Lib.hid (cgetA T V s kd p r a b cn bi i0 m c A nk ck Bk w1 (h.below HB.out) (hE.below HB.out) (hT.below HB.out) hm hs hc (hK.keep (.of_below HB.out)) hkn hp hl)
  have HES := Lib.hid (fun h4 : r.kind = 4 => str_val hrv h4)
  clear h hE hT hm hK hp hl hcf hNV hrv
  by_cases hk4 : r.kind = 4
  · have hj1 : jk r.kind = 1 := (jk_lt _ hk6).2 hk4
    have hraw : rawAt s r.kind r.b r.e = s.extract (r.b + 1) (r.e - 1) := by unfold rawAt; rw [if_pos hk4]
    obtain ⟨t, ht⟩ : ∃ t, s.extract (r.b + 1) (r.e - 1) = t := ⟨_, rfl⟩
    have hts : t.size ≤ 1000000 := by rw [← ht, size_ext]; omega
    have HCH := Lib.hid (show chars s r = strOfNums (unq t 0) by unfold chars; rw [ht])
    have HEO := Lib.hid (show EscOk t 0 by rw [← ht]; exact HES.out hk4)
    have HCG2 := Lib.hid (show Calls Tryd.prog 33 #[.agg #[.bool a, .bool b, .int .i64 cn], .slice (some ⟨bi, i0, none⟩) m c, .slice A nk ck] w1 fun e w' => (∃ (b' i' c' : Nat), e = .returned (.tuple #[.slice (some ⟨b', i', none⟩) t.size c', .int .i64 1, .int .i64 (r.e : Int), .nilIface]) ∧ t.size ≤ c' ∧ Rd w' (some ⟨b', i', none⟩) t) ∧ Below w1.heap.size w1 w' from by
      refine HCG.out.mono ?_
      rintro e w' ⟨⟨A2, n2, c2, rfl, h1, h2, h3, h4⟩, hb⟩
      obtain ⟨b', i', rfl⟩ := h4 hk4
      rw [hraw, ht] at h1 h3
      subst h1
      rw [hj1]
      exact ⟨⟨b', i', c2, rfl, h2, h3⟩, hb⟩)
    have HK4 := Lib.hid hk4
    clear ht hraw hj1 hk4
    rcases first92 t with ⟨hno, hfree⟩ | ⟨q, hq, hqlt, hqb, hqf⟩
    · have HF := Lib.hid (show strOfNums (unq t 0) = t by
        rw [unq_bl (n := t.size) (Nat.le_refl _) (fun j _ => hfree j), ext_all, unq_drop0 (Nat.le_refl _), unq_out (Nat.le_refl _), List.append_nil, bl_nums])
      have HNO := Lib.hid hno
      clear hno hfree
      go_enter Tryd.func34, Tryd.ntmps34
      go_wp2_with (first
        | (go_at_call 33; (with_reducible refine HCG2.out.mono ?_); rintro e w2 ⟨⟨b', i', c2, rfl, h2, h3⟩, hb2⟩
           have hcv : (convert 65 9 (.slice (some ⟨b', i', none⟩) t.size c2)).run Tryd.prog w2 = .ok (.string t) w2 := h3.string Tryd.underlying65 Tryd.underlying5 Tryd.underlying9
           have HIX := Lib.hid (idxByteW b' i' t.size c2 t (-1) w2 h3 rfl HNO.out.symm)
           replace h3 := Lib.hid h3
           replace hb2 := Lib.hid hb2)
        | (go_at_call 52; (with_reducible refine HIX.out.mono ?_); rintro e w3 ⟨rfl, rfl⟩))
      (try simp only [Exit.inBlock, Exit.then])
      refine bodyPost_ret (results_tmp2 rfl _ _ _) rfl ?_
      exact ⟨.inl ⟨HK4.out, by rw [HCH.out, HF.out]; rfl⟩, below_of HB.out hb2.out⟩
    · have hqn : ((q : Int) == -1) = false := by rw [beq_eq_false_iff_ne]; omega
      have HQ := Lib.hid hq
      clear hq hqb hqf
      go_enter Tryd.func34, Tryd.ntmps34
      go_upto_region 10 with (first
        | (go_at_call 33; (with_reducible refine HCG2.out.mono ?_); rintro e w2 ⟨⟨b', i', c2, rfl, h2, h3⟩, hb2⟩
           have HIX := Lib.hid (idxByteW b' i' t.size c2 t (q : Int) w2 h3 rfl HQ.out.symm)
           replace h3 := Lib.hid h3
           replace hb2 := Lib.hid hb2)
        | (go_at_call 52; (with_reducible refine HIX.out.mono ?_); rintro e w3 ⟨rfl, rfl⟩))
      have hbl : b' < w2.heap.size := by
        obtain ⟨ad, e, hl, -⟩ := h3.out (by omega)
        injection e with e
        subst e
        exact hl
      have hz12 : w1.heap.size ≤ w2.heap.size := hb2.out.size
      have hz01 : w.heap.size ≤ w1.heap.size := HB.out.size
      go_cut [12] (fun v12 wx => v12 = .pointer (some ⟨w2.heap.size, 0, none⟩) ∧ Below w2.heap.size w2 wx ∧ wx.heap[w2.heap.size]? = some (.cells (List.replicate 64 (Value.int .u8 0)).toArray 99 (0, 0)))
      case first =>
        go_wp2_with (fail)
        go_meet
        case rel => exact ⟨rfl, below_alloc (Below.refl _ _) _, heap_alloc_new _ _⟩
      case rest =>
      obtain ⟨rfl, hb3, hs3⟩ := hcut
      obtain ⟨w3, hw3⟩ : ∃ x, x = wc := ⟨_, rfl⟩
      subst hw3
      have hcf3 := (HCF.out.below hb2.out).below hb3
      have j0 := hcf3.c0
      have j1 := hcf3.c1
      have j2 := hcf3.c2
      have hb03 : Below w.heap.size w w3 := below_of (below_of HB.out hb2.out) hb3
      have hTl := HT.out.lt
      have HUN := Lib.hid (show Calls Tryd.prog 53 #[.agg #[.bool a, .bool b, .int .i64 cn], .slice (some ⟨b', i', none⟩) t.size c2, .slice (some ⟨w2.heap.size, 0, none⟩) 64 64] w3.drew (UnP t b' w2.heap.size (List.replicate 64 (Value.int .u8 0)).length 99 w.heap.size w w3.drew) from
        unescW a b cn b' i' t.size c2 w2.heap.size 64 64 t (List.replicate 64 (Value.int .u8 0)) 99 w.heap.size w w3.drew (h3.out.below hb3).drew rfl h2 hts HEO.out hs3 (by rw [List.length_replicate]) (by omega) ⟨hb03.os, hb03.tape, hb03.output, hb03.size, hb03.block⟩ hb03.size (by omega) (Nat.lt_of_lt_of_le hbl hb3.size)
          ((HT.out.below (below_of hb2.out hb3)).below (w' := w3.drew) ⟨rfl, rfl, rfl, Nat.le_refl _, fun _ _ => rfl⟩) (by omega))
      clear hcf3 hs3 hb3
      go_upto_region 11 with (fail)
      go_cut [11, 13] (fun v11 v13 wx => ∃ (h7 o7 n7 c7 : Nat), v13 = .slice (some ⟨h7, o7, none⟩) n7 c7 ∧ v11 = .nilIface ∧ n7 = (unq t 0).length ∧ Ints wx h7 o7 (unq t 0) ∧ Below w.heap.size w wx)
      case first =>
        go_region_with (first
          | (go_at_call 53; (with_reducible refine HUN.out.mono ?_); rintro e w4 ⟨⟨h7, o7, n7, c7, rfl, hn7, hc7, hi7, hw7⟩, -, hb7, -⟩
             replace hn7 := Lib.hid hn7
             replace hi7 := Lib.hid hi7
             replace hb7 := Lib.hid hb7))
        all_goals
          go_wp2_with (fail)
          (try simp only [Act.put, List.getElem_toArray, List.getElem_cons_succ, List.getElem_cons_zero, List.setIfInBounds_toArray, List.set_cons_zero, List.set_cons_succ])
          go_meet
          case rel => exact ⟨h7, o7, n7, c7, rfl, rfl, hn7.out, hi7.out, hb7.out⟩
      case rest =>
      obtain ⟨h7, o7, n7, c7, rfl, rfl, rfl, hi7, hb7⟩ := hcut
      obtain ⟨w4, hw4⟩ : ∃ x, x = wc := ⟨_, rfl⟩
      subst hw4
      have hcv := run_convert_bytes_arg w4 65 5 Tryd.underlying65 Tryd.underlying5 h7 o7 (unq t 0).length c7 (unq t 0) rfl hi7 9 Tryd.underlying9
      clear j0 j1 j2
      go_wp2
      (try simp only [Exit.inBlock, Exit.then])
      refine bodyPost_ret (results_tmp2 rfl _ _ _) rfl ?_
      exact ⟨.inl ⟨HK4.out, by rw [HCH.out]; rfl⟩, hb7⟩
  · have hj1 : ((jk r.kind : Int) == 1) = false := beq_eq_false_iff_ne.2 fun h => hk4 ((jk_lt _ hk6).1 (by exact_mod_cast h))
    obtain ⟨kk, hkk⟩ : ∃ kk : Int, (jk r.kind : Int) = kk := ⟨_, rfl⟩
    have HCG2 := Lib.hid (show Calls Tryd.prog 33 #[.agg #[.bool a, .bool b, .int .i64 cn], .slice (some ⟨bi, i0, none⟩) m c, .slice A nk ck] w1 fun e w' => (∃ (A' : Option Addr) (n' c' : Nat), e = .returned (.tuple #[.slice A' n' c', .int .i64 kk, .int .i64 (r.e : Int), .nilIface])) ∧ Below w1.heap.size w1 w' from by
      refine HCG.out.mono ?_
      rintro e w' ⟨⟨A2, n2, c2, rfl, h1, h2, h3, h4⟩, hb⟩
      rw [hkk]
      exact ⟨⟨_, _, _, rfl⟩, hb⟩)
    rw [hkk] at hj1
    have HK4 := Lib.hid hk4
    clear hkk hk4
    by_cases h6 : kk = 6
    · subst h6
      go_enter Tryd.func34, Tryd.ntmps34
      go_wp2_with (first
        | (go_at_call 33; (with_reducible refine HCG2.out.mono ?_); rintro e w2 ⟨⟨A', n', c', rfl⟩, hb2⟩
           have hg := (HNV.out.below hb2).2
           replace hb2 := Lib.hid hb2))
      go_quiet (fail)
      go_wp2
      (try simp only [Exit.inBlock, Exit.then])
      refine bodyPost_ret (results_tmp2 rfl _ _ _) rfl ?_
      exact ⟨.inr ⟨HK4.out, _, _, rfl⟩, (fun (h : Below w.heap.size w w2) => ⟨h.os, h.tape, h.output, h.size, h.block⟩) (below_of HB.out hb2.out)⟩
    · have hk6 : (kk == 6) = false := beq_eq_false_iff_ne.2 h6
      go_enter Tryd.func34, Tryd.ntmps34
      go_wp2_with (first
        | (go_at_call 33; (with_reducible refine HCG2.out.mono ?_); rintro e w2 ⟨⟨A', n', c', rfl⟩, hb2⟩
           replace hb2 := Lib.hid hb2)
        | (go_at_call 51; go_must (refine (errNewW _ _).mono ?_); rintro e w3 ⟨⟨ty, v, rfl⟩, hb3⟩; replace hb3 := Lib.hid hb3))
      (try simp only [Exit.inBlock, Exit.then])
      refine bodyPost_ret (results_tmp2 rfl _ _ _) rfl ?_
      exact ⟨.inr ⟨HK4.out, _, _, rfl⟩, below_of (below_of HB.out hb2.out) hb3.out⟩
end Go.Proofs.YtbgcjnhebfgicaaDoor.Jp

/- The doors of a configuration's Get and GetString. -/
namespace Go.Proofs.YtbgcjnhebfgicaaDoor.Jp
open Go.RowKit L
set_option linter.unusedVariables false
set_option linter.unusedSimpArgs false

set_option maxRecDepth 100000 in
set_option maxHeartbeats 4000000 in
theorem confW (x y : Bool) (w : World) : Calls Tryd.prog 32 #[.bool x, .bool y] w fun e w' => e = .returned (.agg #[.bool x, .bool y, .int .i64 0]) ∧ Below w.heap.size w w' := by
  obtain ⟨w1, hw1⟩ : ∃ w1, w.alloc (.cells #[.bool false, .bool false, .int .i64 0] 74) = w1 := ⟨_, rfl⟩
  have hb1 : Below w.heap.size w w1 := by rw [← hw1]; exact below_alloc (Below.refl _ _) _
  have hcf : CfgAt w1 w.heap.size false false 0 := by rw [← hw1]; exact CfgAt.new _ _ _ _
  have q0 := hcf.c0
  have q1 := hcf.c1
  have q2 := hcf.c2
  have e0 : w1.frozen? ⟨w.heap.size, 0, none⟩ = false := by have h := hcf; unfold CfgAt at h; simp [World.frozen?, h]
  have e1 : w1.frozen? ⟨w.heap.size, 1, none⟩ = false := by have h := hcf; unfold CfgAt at h; simp [World.frozen?, h]
  have e2 : w1.frozen? ⟨w.heap.size, 2, none⟩ = false := by have h := hcf; unfold CfgAt at h; simp [World.frozen?, h]
  clear hcf
  go_enter Tryd.func32, Tryd.ntmps32
  go_wp2
  refine bodyPost_ret (v := .agg #[.bool x, .bool y, .int .i64 0]) (by simp [results, Tryd.results32, go_sem, q0, q1, q2]) rfl ?_
  refine ⟨rfl, ?_⟩
  iterate 3 with_reducible refine below_set ?_ (Nat.le_refl _) _
  exact hb1
set_option maxRecDepth 100000 in
set_option maxHeartbeats 4000000 in
theorem jqGetW (T : Nat → TypeId) (V : Nat → Value) (s : ByteArray) (kd : List ByteArray) (p r : Pl) (x y : Bool) (A : Option Addr) (nk ck : Nat) (Bk : Nat → Prop) (w : World) (hE : Errs T V w) (hT : Tb w) (hs : s.size ≤ 1000000) (hK : Row w Bk 1 A nk ck (keysV kd)) (hkn : kd.length ≤ 2147483647) (hp : places s = some p) (hl : Leads s p kd r) :
    Calls Tryd.prog 15 #[.string s, .slice A nk ck, .bool x, .bool y] w fun e w' => e = .returned (.tuple #[.agg #[.string ⟨#[]⟩, .string (rawAt s r.kind r.b r.e), .int .i64 (jk r.kind : Int), .int .i64 (r.e : Int)], .bool true]) ∧ Below w.heap.size w w' := by
  obtain ⟨w1, hw1⟩ : ∃ w1, w.alloc (.cells #[.string ⟨#[]⟩, .string ⟨#[]⟩, .int .i64 0, .int .i64 0] 38) = w1 := ⟨_, rfl⟩
  have HB1 := Lib.hid (show Below w.heap.size w w1 by rw [← hw1]; exact below_alloc (Below.refl _ _) _)
  have HF1 := Lib.hid (show F4 w1 w.heap.size (.string ⟨#[]⟩) (.string ⟨#[]⟩) (.int .i64 0) (.int .i64 0) by rw [← hw1]; exact F4.new _ _ _ _ _)
  have HZ := Lib.hid (show w1.heap.size = w.heap.size + 1 by rw [← hw1]; simp)
  have HG := Lib.hid (fun (w2 : World) (hb : Below w1.heap.size w1 w2) => (show Calls Tryd.prog 33 #[.agg #[.bool x, .bool y, .int .i64 0], .slice (some ⟨w2.heap.size, 0, none⟩) s.size (grownCap w2 s.size 0 5), .slice A nk ck] (Lib.bytesWorld w2 5 s) (CkPost s r (Lib.bytesWorld w2 5 s)) from by
    have hb3 := below_of (below_of HB1.out hb) (bytesWorld_below w2 5 s)
    exact cgetA T V s kd p r x y 0 w2.heap.size 0 s.size _ A nk ck Bk _ (bytesWorld_rd w2 5 s) (hE.below hb3) (hT.below hb3) rfl hs (bytesCap w2 5 s) (hK.keep (.of_below hb3)) hkn hp hl))
  clear hE hT hK hp hl
  go_enter Tryd.func15, Tryd.ntmps15
  go_wp2_with (first
    | (go_at_call 32; go_must (refine (confW x y _).mono ?_); rintro e w2 ⟨rfl, hb2⟩
       have hcv : (convert 9 65 (.string s)).run Tryd.prog w2 = .ok (.slice (some ⟨w2.heap.size, 0, none⟩) s.size (grownCap w2 s.size 0 5)) (Lib.bytesWorld w2 5 s) := Lib.run_convert_string_bytes w2 9 65 5 s Tryd.underlying9 Tryd.underlying65 Tryd.underlying5
       have HG2 := Lib.hid (HG.out w2 hb2)
       replace hb2 := Lib.hid (below_of hb2 (bytesWorld_below w2 5 s))
       obtain ⟨w3, hw3⟩ : ∃ w3, Lib.bytesWorld w2 5 s = w3 := ⟨_, rfl⟩
       rw [hw3] at hcv HG2 hb2)
    | (go_at_call 33; (with_reducible refine HG2.out.mono ?_); rintro e w4 ⟨⟨A2, n2, c2, rfl, h1, h2, h3, -⟩, hb4⟩
       have hF2 := (HF1.out.below hb2.out).below hb4
       have q0 := hF2.c0
       have q1 := hF2.c1
       have q2 := hF2.c2
       have q3 := hF2.c3
       have e0 := hF2.f 0
       have e1 := hF2.f 1
       have e2 := hF2.f 2
       have e3 := hF2.f 3
       clear hF2
       obtain ⟨rr, hrr⟩ : ∃ rr, rawAt s r.kind r.b r.e = rr := ⟨_, rfl⟩
       rw [hrr] at h1 h3
       subst h1
       have hcv2 : (convert 65 9 (.slice A2 rr.size c2)).run Tryd.prog w4 = .ok (.string rr) w4 := h3.string Tryd.underlying65 Tryd.underlying5 Tryd.underlying9
       replace hrr := Lib.hid hrr
       replace hb4 := Lib.hid hb4
       replace h3 := Lib.hid h3))
  refine bodyPost_ret (v := .tuple #[.agg #[.string ⟨#[]⟩, .string rr, .int .i64 (jk r.kind : Int), .int .i64 (r.e : Int)], .bool true]) (by simp [results, Tryd.results15, go_sem, q0, q1, q2, q3]) rfl ?_
  refine ⟨by rw [hrr.out], ?_⟩
  iterate 4 with_reducible refine below_set ?_ (Nat.le_refl _) _
  exact below_of (below_of HB1.out hb2.out) hb4.out
set_option maxRecDepth 100000 in
set_option maxHeartbeats 4000000 in
theorem jqStrW (T : Nat → TypeId) (V : Nat → Value) (tn : TypeId) (vn : Value) (s : ByteArray) (kd : List ByteArray) (p r : Pl) (x y : Bool) (A : Option Addr) (nk ck : Nat) (Bk : Nat → Prop) (w : World) (hE : Errs T V w) (hT : Tb w) (hNV : Gl w 0 tn vn) (hs : s.size ≤ 1000000) (hK : Row w Bk 1 A nk ck (keysV kd)) (hkn : kd.length ≤ 2147483647) (hp : places s = some p) (hl : Leads s p kd r) :
    Calls Tryd.prog 16 #[.string s, .slice A nk ck, .bool x, .bool y] w fun e w' => ((r.kind = 4 ∧ e = .returned (.tuple #[.string (chars s r), .bool true])) ∨ (r.kind ≠ 4 ∧ ∃ u, e = .returned (.tuple #[.string u, .bool false]))) ∧ Below w.heap.size w w' := by
  have HG := Lib.hid (fun (w2 : World) (hb : Below w.heap.size w w2) => (show Calls Tryd.prog 34 #[.agg #[.bool x, .bool y, .int .i64 0], .slice (some ⟨w2.heap.size, 0, none⟩) s.size (grownCap w2 s.size 0 5), .slice A nk ck] (Lib.bytesWorld w2 5 s) (GsPost s r (Lib.bytesWorld w2 5 s)) from by
    have hb3 := below_of hb (bytesWorld_below w2 5 s)
    exact getSA T V tn vn s kd p r x y 0 w2.heap.size 0 s.size _ A nk ck Bk _ (bytesWorld_rd w2 5 s) (hE.below hb3) (hT.below hb3) (hNV.below hb3) rfl hs (bytesCap w2 5 s) (hK.keep (.of_below hb3)) hkn hp hl))
  clear hE hT hK hp hl hNV
  go_enter Tryd.func16, Tryd.ntmps16
  go_wp2_with (first
    | (go_at_call 32; go_must (refine (confW x y _).mono ?_); rintro e w2 ⟨rfl, hb2⟩
       have hcv : (convert 9 65 (.string s)).run Tryd.prog w2 = .ok (.slice (some ⟨w2.heap.size, 0, none⟩) s.size (grownCap w2 s.size 0 5)) (Lib.bytesWorld w2 5 s) := Lib.run_convert_string_bytes w2 9 65 5 s Tryd.underlying9 Tryd.underlying65 Tryd.underlying5
       have HG2 := Lib.hid (HG.out w2 hb2)
       replace hb2 := Lib.hid (below_of hb2 (bytesWorld_below w2 5 s))
       obtain ⟨w3, hw3⟩ : ∃ w3, Lib.bytesWorld w2 5 s = w3 := ⟨_, rfl⟩
       rw [hw3] at hcv HG2 hb2)
    | (go_at_call 34; (with_reducible refine HG2.out.mono ?_); rintro e w4 ⟨⟨hk, rfl⟩ | ⟨hk, ty, v, rfl⟩, hb4⟩ <;> replace hb4 := Lib.hid hb4 <;> replace hk := Lib.hid hk))
  · (try simp only [Exit.inBlock, Exit.then])
    refine bodyPost_ret (results_tmp2 rfl _ _ _) rfl ?_
    exact ⟨.inl ⟨hk.out, rfl⟩, below_of hb2.out hb4.out⟩
  · (try simp only [Exit.inBlock, Exit.then])
    refine bodyPost_ret (results_tmp2 rfl _ _ _) rfl ?_
    exact ⟨.inr ⟨hk.out, _, rfl⟩, below_of hb2.out hb4.out⟩
end Go.Proofs.YtbgcjnhebfgicaaDoor.Jp

/- FnJpConfigGet: the walk of the law; the laid table. -/
namespace Go.Proofs.YtbgcjnhebfgicaaDoor.Jp
open Go.RowKit L
set_option linter.unusedVariables false
set_option linter.unusedSimpArgs false

/-- The table of the short escapes. -/
def escTab : List Int := (List.range 117).map fun (e : Nat) => if e = 34 ∨ e = 92 ∨ e = 47 ∨ e = 98 ∨ e = 102 ∨ e = 110 ∨ e = 114 ∨ e = 116 then shortI (e : Int) else 0
set_option maxRecDepth 100000 in
theorem tb_of {W : World} (hr : Lib.VarReads Tryd.prog W "pub-tetrapla/pub/jsonparser.backslashCharEscapeTable" (Lib.tabData .u8 escTab)) : Tb W := by
  obtain ⟨g', t, cs, fuel, p, hg, ht, hv, hd⟩ := hr
  obtain rfl : 11 = g' := Option.some.inj ((show Tryd.prog.globalNamed "pub-tetrapla/pub/jsonparser.backslashCharEscapeTable" = some 11 by kernel_rfl).symm.trans hg)
  obtain rfl : 132 = t := Option.some.inj ((show (Tryd.prog.globals[11]?).map (·.type) = some 132 by kernel_rfl).symm.trans ht)
  have hcs := Lib.cells_of_tab Tryd.underlying132 Tryd.underlying5 (show Tryd.prog.cellsOf 5 = 1 by kernel_rfl) (show Tryd.prog.cellsOf 132 = 117 by kernel_rfl) hd
  have hc : ∀ e : Nat, e < 117 → W.cell? ⟨11, e, none⟩ = some (.int .u8 (if e = 34 ∨ e = 92 ∨ e = 47 ∨ e = 98 ∨ e = 102 ∨ e = 110 ∨ e = 114 ∨ e = 116 then shortI e else 0)) := fun e he => by
    rw [World.var?_cell hg hv e, ← Array.getElem?_toList, hcs]
    simp [escTab, he]
  refine ⟨World.block_lt_of_cell? W _ (hc 0 (by decide)), fun e he => ?_⟩
  rw [hc e (by omega), if_pos he]
set_option maxRecDepth 100000 in
set_option maxHeartbeats 8000000 in
theorem lawCG (T : Nat → TypeId) (V : Nat → Value) (tn : TypeId) (vn : Value) (s : ByteArray) (A : Option Addr) (n c : Nat) (ks : List ByteArray) (x y : Bool) (w : World) (hs0 : s.size ≤ 140737488351232) (hR : Row w (fun _ => True) 1 A n c (keysV ks)) (hks : ∀ k ∈ ks, k.size ≤ 9223372036854775807) (hE : Errs T V w) (hT : Tb w) (hNV : Gl w 0 tn vn) :
    Calls Tryd.prog 4 #[.string s, .slice A n c, .bool x, .bool y] w fun e w' => e = .returned (.bool true) ∧ Below w.heap.size w w' := by
  have HE := Lib.hid hE
  have HT := Lib.hid hT
  have HNV := Lib.hid hNV
  have HR := Lib.hid hR
  have HKS := Lib.hid hks
  have HKL := Lib.hid (keys_len hR).1
  clear hE hT hNV hR hks
  by_cases hbig : 2147483647 < s.size
  · go_enter Tryd.func4, Tryd.ntmps4
    go_wp2
    go_ret
    exact ⟨rfl, Below.refl _ _⟩
  have hd1 : decide (2147483647 < (s.size : Int)) = false := by simp; omega
  go_enter Tryd.func4, Tryd.ntmps4
  go_upto_region 3 with (first
    | (go_at_call 14; refine (fits1W A n c ks (fun _ => True) _ HR.out HKS.out).mono ?_; rintro e w1 ⟨rfl, b, rfl, hb⟩; replace hb := Lib.hid hb; cases b))
  · go_ret
    exact ⟨rfl, Below.refl _ _⟩
  · go_upto_region 4 with (first
      | (go_at_call 11; go_must (refine (jpFoundW s ks (fun _ => True) A n c _ HR.out (hb.out (by trivial)).2 (by omega)).mono ?_); rintro e w1 ⟨hb1, ⟨root, r, An, cn, Ak, ck, hsz, hpl, hld, hval, rfl, hpm⟩ | rfl⟩ <;> replace hb1 := Lib.hid hb1))
    · obtain ⟨w2, hw2⟩ : ∃ w2, w1.alloc (.cells #[.int .i64 (r.kind : Int), .int .i64 (r.b : Int), .int .i64 (r.e : Int), .slice An r.names.length cn, .slice Ak r.kids.length ck] 25) = w2 := ⟨_, rfl⟩
      rw [hw2]
      have hb2 : Below w1.heap.size w1 w2 := by rw [← hw2]; exact below_alloc (Below.refl _ _) _
      have hp2 : B5 w2 w1.heap.size (.int .i64 (r.kind : Int)) (.int .i64 (r.b : Int)) (.int .i64 (r.e : Int)) (.slice An r.names.length cn) (.slice Ak r.kids.length ck) := by rw [← hw2]; exact B5.new _ _ _ _ _ _
      have HP2 := Lib.hid hp2
      have HB2 := Lib.hid (below_of hb1.out hb2)
      obtain ⟨nv, off, hrd⟩ := hval
      have hrb : r.b < r.e := hrd.2.2.2.2.2.1
      have hre : r.e ≤ s.size := hrd.2.2.2.2.1
      have hk6 : r.kind ≤ 6 := hrd.2.2.2.2.2.2.1
      have HS2 := Lib.hid hrd.2.2.2.2.2.2.2
      have HRD := Lib.hid hrd
      have hsm : s.size ≤ 1000000 := by omega
      have hkn : ks.length ≤ 2147483647 := by have := (hb.out (by trivial)).1; have := HKL.out; omega
      obtain ⟨rr, hrr⟩ : ∃ rr, rawAt s r.kind r.b r.e = rr := ⟨_, rfl⟩
      obtain ⟨kk, hkk⟩ : ∃ kk : Int, (jk r.kind : Int) = kk := ⟨_, rfl⟩
      have HKK := Lib.hid hkk.symm
      have HRR := Lib.hid hrr
      have HG := Lib.hid (show ∀ W, Below w.heap.size w W → Calls Tryd.prog 15 #[.string s, .slice A n c, .bool x, .bool y] W fun e w' => e = .returned (.tuple #[.agg #[.string ⟨#[]⟩, .string rr, .int .i64 kk, .int .i64 (r.e : Int)], .bool true]) ∧ Below W.heap.size W w' from fun W hB => by
        rw [← hrr, ← hkk]
        exact jqGetW T V s ks root r x y A n c _ W (HE.out.below hB) (HT.out.below hB) hsm (HR.out.keep (.of_below hB)) hkn hpl hld)
      have HSg := Lib.hid (show ∀ W, Below w.heap.size w W → _ from fun W hB => jqStrW T V tn vn s ks root r x y A n c _ W (HE.out.below hB) (HT.out.below hB) (HNV.out.below hB) hsm (HR.out.keep (.of_below hB)) hkn hpl hld)
      have hi0 : (0 : Int) ≤ (r.b : Int) := by omega
      have hi1 : (r.b : Int) ≤ (r.e : Int) := by omega
      have hi2 : (r.e : Int) ≤ (s.size : Int) := by omega
      clear hb2 hp2 hw2 hpl hld hpm hrd hrr hkk
      go_upto_region 7 with (first
        | (go_at_call 15; (with_reducible refine (HG.out _ HB2.out).mono ?_); rintro e w3 ⟨rfl, hb3⟩
           have HP3 := Lib.hid (B5.below HP2.out hb3)
           replace hb3 := Lib.hid (below_of HB2.out hb3)))
      obtain ⟨w4, hw4⟩ : ∃ w4, w3.alloc (.cells #[.string ⟨#[]⟩, .string rr, .int .i64 kk, .int .i64 (r.e : Int)] 38) = w4 := ⟨_, rfl⟩
      rw [hw4]
      have hb4 : Below w3.heap.size w3 w4 := by rw [← hw4]; exact below_alloc (Below.refl _ _) _
      have HF4 := Lib.hid (show F4 w4 w3.heap.size (.string ⟨#[]⟩) (.string rr) (.int .i64 kk) (.int .i64 (r.e : Int)) by rw [← hw4]; exact F4.new _ _ _ _ _)
      have HP4 := Lib.hid (B5.below HP3.out hb4)
      have HB4 := Lib.hid (below_of hb3.out hb4)
      clear hb4 hw4
      by_cases hk4 : r.kind = 4
      · have hkb : ((r.kind : Int) == 4) = true := by rw [beq_iff_eq]; omega
        obtain ⟨uu, huu⟩ : ∃ uu, chars s r = uu := ⟨_, rfl⟩
        have hul : (uu.toList == uu.toList) = true := beq_self_eq_true _
        have HSS := Lib.hid (show Calls Tryd.prog 16 #[.string s, .slice A n c, .bool x, .bool y] w4 fun e w' => e = .returned (.tuple #[.string uu, .bool true]) ∧ Below w4.heap.size w4 w' from by
          refine (HSg.out w4 HB4.out).mono ?_
          rintro e w' ⟨⟨-, rfl⟩ | ⟨h, -⟩, hb⟩
          · rw [huu]; exact ⟨rfl, hb⟩
          · exact absurd hk4 h)
        have h2e := HS2.out hk4
        have HUN := Lib.hid (show ∀ W, Calls Tryd.prog 17 #[.string (s.extract r.b r.e)] W fun e w' => e = .returned (.string uu) ∧ Below W.heap.size W w' from fun W => by
          have hz : (s.extract r.b r.e).size = r.e - r.b := by rw [size_ext]; omega
          have := unquoteW (s.extract r.b r.e) (s.extract (r.b + 1) (r.e - 1)) W (by rw [hz, ByteArray.extract_extract]; congr 1; omega) (by omega) (by omega) (str_val HRD.out hk4)
          rw [← huu]
          exact this)
        clear huu hk4
        go_wp2_with (first
          | (go_at_call 16; (with_reducible refine HSS.out.mono ?_); rintro e w5 ⟨rfl, hb5⟩
             have hF5 := HF4.out.below hb5
             have hP5 := B5.below HP4.out hb5
             have q0 := hF5.c0
             have q1 := hF5.c1
             have q2 := hF5.c2
             have q3 := hF5.c3
             have c0 := hP5.c0
             have c1 := hP5.c1
             have c2 := hP5.c2
             have c3 := hP5.c3
             have c4 := hP5.c4
             have HP5 := Lib.hid hP5
             replace hb5 := Lib.hid (below_of HB4.out hb5)
             clear hF5 hP5)
          | (go_at_call 13; go_must (refine (toldYes s rr r.kind r.b r.e kk _ _ _ _ hsm hrb hre HS2.out hk6 HRR.out HKK.out).mono ?_); rintro e w6 ⟨rfl, hb6⟩
             have hP6 := B5.below HP5.out hb6
             have c0 := hP6.c0
             have c1 := hP6.c1
             have c2 := hP6.c2
             replace hb6 := Lib.hid (below_of hb5.out hb6)
             clear hP6)
          | (go_at_call 17; (with_reducible refine (HUN.out _).mono ?_); rintro e w7 ⟨rfl, hb7⟩; replace hb7 := Lib.hid hb7))
        go_ret
        exact ⟨rfl, below_of hb6.out hb7.out⟩
      · have hkb : ((r.kind : Int) == 4) = false := beq_eq_false_iff_ne.2 (by omega)
        have HSS := Lib.hid (show Calls Tryd.prog 16 #[.string s, .slice A n c, .bool x, .bool y] w4 fun e w' => (∃ u, e = .returned (.tuple #[.string u, .bool false])) ∧ Below w4.heap.size w4 w' from by
          refine (HSg.out w4 HB4.out).mono ?_
          rintro e w' ⟨⟨h, -⟩ | ⟨-, u, rfl⟩, hb⟩
          · exact absurd h hk4
          · exact ⟨⟨u, rfl⟩, hb⟩)
        clear hk4
        go_wp2_with (first
          | (go_at_call 16; (with_reducible refine HSS.out.mono ?_); rintro e w5 ⟨⟨su, rfl⟩, hb5⟩
             have hF5 := HF4.out.below hb5
             have hP5 := B5.below HP4.out hb5
             have q0 := hF5.c0
             have q1 := hF5.c1
             have q2 := hF5.c2
             have q3 := hF5.c3
             have c0 := hP5.c0
             have c1 := hP5.c1
             have c2 := hP5.c2
             have c3 := hP5.c3
             have c4 := hP5.c4
             have HP5 := Lib.hid hP5
             replace hb5 := Lib.hid (below_of HB4.out hb5)
             clear hF5 hP5)
          | (go_at_call 13; go_must (refine (toldYes s rr r.kind r.b r.e kk _ _ _ _ hsm hrb hre HS2.out hk6 HRR.out HKK.out).mono ?_); rintro e w6 ⟨rfl, hb6⟩
             have hP6 := B5.below HP5.out hb6
             have c0 := hP6.c0
             have c1 := hP6.c1
             have c2 := hP6.c2
             replace hb6 := Lib.hid (below_of hb5.out hb6)
             clear hP6))
        go_ret
        exact ⟨rfl, hb6.out⟩
    · go_wp2
      go_ret
      exact ⟨rfl, below_alloc hb1.out _⟩
end Go.Proofs.YtbgcjnhebfgicaaDoor.Jp
