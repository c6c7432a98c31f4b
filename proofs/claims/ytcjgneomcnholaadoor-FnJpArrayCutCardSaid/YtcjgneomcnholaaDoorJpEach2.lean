/- ArrayEach over an array that is cut off: the walk of arrayEachConfig. -/
import Derived.Test.YtcjgneomcnholaaDoorJpEach
import Derived.Test.YtcjgneomcnholaaDoorJpEachP
import Derived.Deep.DeepCutAuto
import Derived.Deep.CutBlock
namespace Go.Proofs.YtcjgneomcnholaaDoor.Jp
open Go.RowKit L
set_option linter.unusedVariables false
set_option linter.unusedSimpArgs false

/-- The errors' variables lie ahead of block G. -/
structure Ahead (G : Nat) : Prop where
  g1 : 1 < G
  g2 : 2 < G
  g3 : 3 < G
  g4 : 4 < G
  g5 : 5 < G
  g6 : 6 < G
theorem Gl.keeps {z G : Nat} {w w' : World} {g : Nat} {t : TypeId} {v : Value} (h : Gl w g t v) (hk : Kp (Old z G) w w') (hg : g < G) (hz : G < z) : Gl w' g t v :=
  ⟨Nat.lt_of_lt_of_le h.1 hk.size, (World.cell?_of_block (hk.block g ⟨by omega, by omega⟩ h.1)).trans h.2⟩
theorem Errs.keeps {z G : Nat} {T : Nat → TypeId} {V : Nat → Value} {w w' : World} (h : Errs T V w) (hk : Kp (Old z G) w w') (hA : Ahead G) (hz : G < z) : Errs T V w' :=
  ⟨h.e1.keeps hk hA.g1 hz, h.e2.keeps hk hA.g2 hz, h.e3.keeps hk hA.g3 hz, h.e4.keeps hk hA.g4 hz, h.e5.keeps hk hA.g5 hz, h.e6.keeps hk hA.g6 hz⟩
theorem errs_drew {T : Nat → TypeId} {V : Nat → Value} {w : World} (h : Errs T V w) : Errs T V w.drew := ⟨h.e1, h.e2, h.e3, h.e4, h.e5, h.e6⟩
theorem CfgAt.keeps {z G : Nat} {w w' : World} {g : Nat} {a b : Bool} {n : Int} (h : CfgAt w g a b n) (hk : Kp (Old z G) w w') (hz : g < z) (hg : g ≠ G) : CfgAt w' g a b n := (hk.block g ⟨hz, hg⟩ h.lt).trans h
theorem rdkeeps {z G : Nat} {w w' : World} {ad : Addr} {s : ByteArray} (h : Rd w (some ad) s) (hk : Kp (Old z G) w w') (hz : ad.block < z) (hg : ad.block ≠ G) : Rd w' (some ad) s := fun hs => by
  obtain ⟨ad', e, hlt, hc⟩ := h hs
  injection e with e
  subst e
  exact ⟨ad, rfl, Nat.lt_of_lt_of_le hlt hk.size, fun j hj => (World.cell?_of_block (by rw [add_block]; exact hk.block _ ⟨hz, hg⟩ hlt)).trans (hc j hj)⟩
theorem Kp.below_of {z G : Nat} {a b c : World} (h : Kp (Old z G) a b) (k : Below b.heap.size b c) : Kp (Old z G) a c := h.trans (.of_below k)
theorem Out.new {G : Nat} {w : World} (hG : w.heap[G]? = some (.cells #[.slice none 0 0] 33 (0, 0))) : Out w.heap.size G w 0 [] :=
  ⟨(Array.getElem?_eq_some_iff.1 hG).1, Nat.le_refl _, _, hG, World.ownsRow_nil _ _ _ _⟩
theorem Out.drewN {z G n : Nat} {w : World} {xs : List Value} (h : Out z G w n xs) (k : Nat) : Out z G (w.drewN k) n xs := ⟨h.lt, h.sz, h.row⟩
theorem skip_idem {s : ByteArray} {i : Nat} (h : L.skip isBlank s i < s.size) : L.skip isBlank s (L.skip isBlank s i) = L.skip isBlank s i := by
  obtain ⟨c, hc, h2, _⟩ := tx_at s _ h
  have hnb : blankB c = false := skip_head (s := s) (i := i) (c := c) h2 h
  rw [skip_tw s (i := L.skip isBlank s i) (Nat.le_refl _), hc, List.takeWhile_cons, if_neg (by rw [hnb]; decide)]
  rfl
theorem EChain.skip {s : ByteArray} {n E off : Nat} {q : Pl} {qs : List Pl} (h : EChain s n E off (q :: qs)) : EChain s n E (L.skip isBlank s off) (q :: qs) := by
  have hr : Rdv s n (L.skip isBlank s off) q := by
    obtain ⟨h1, h2, h3, h4, h5⟩ := h.head
    have e := skip_idem (s := s) (i := off) h2
    exact ⟨by omega, by rw [e]; exact h2, by rw [e]; exact h3, by rw [e]; exact h4, h5⟩
  cases qs with
  | nil => exact ⟨hr, h.2⟩
  | cons r qs => exact ⟨hr, h.2⟩
theorem Had.none {S : ByteArray} {m : Nat} {kids : List Pl} (h : ∀ q, kids.head? = some q → m ≤ q.e) : Had S m kids 0 [] :=
  ⟨[], kids, [], rfl, Told.nil, (fun q h => absurd h (by simp)), h, Or.inl ⟨rfl, rfl⟩⟩
theorem keeps_mono {y z G : Nat} {a b : World} (h : Kp (Old z G) a b) (hy : y ≤ z) : Kp (Old y G) a b := ⟨h.os, h.tape, h.output, h.size, fun j hj hl => h.block j ⟨by have := hj.1; omega, hj.2⟩ hl⟩
theorem raw_le (s : ByteArray) (dt d k : Nat) : (rawOf s dt d k).size ≤ s.size := by
  unfold rawOf
  split <;> (rw [size_ext]; omega)
theorem rdnil (w : World) : Rd w none ⟨#[]⟩ := fun h => absurd h (by decide)
/-- What arrayEachConfig answers over an array cut off: an error, and what the call back has been told. -/
def EachPost (S : ByteArray) (m : Nat) (kids : List Pl) (G : Nat) (w : World) (e : Ending) (w' : World) : Prop :=
  ∃ (x : Int) (t : TypeId) (v : Value) (z n : Nat) (xs : List Value), e = .returned (.tuple #[.int .i64 x, .iface t v]) ∧ w.heap.size ≤ z ∧ Out z G w' n xs ∧ n ≤ 1000000 ∧ Had S m kids n xs ∧ Kp (Old w.heap.size G) w w'
set_option maxRecDepth 100000 in
set_option maxHeartbeats 4000000 in
theorem eachCfg (T : Nat → TypeId) (V : Nat → Value) (ad : Addr) (S t : ByteArray) (nf i E m c : Nat) (kids : List Pl) (G : Nat) (cn : Int) (w : World)
    (hR : Rd w (some ad) t) (hE : Errs T V w) (hA : Ahead G) (hGw : G < w.heap.size) (hG : w.heap[G]? = some (.cells #[.slice none 0 0] 33 (0, 0))) (hadG : ad.block ≠ G) (hadw : ad.block < w.heap.size)
    (hm : m = t.size) (htS : t = S.extract 0 m) (ht : tx t = (tx S).take m) (hS : S.size ≤ 65536) (hmS : m < E) (hES : E ≤ S.size) (hc : m ≤ c)
    (hi : i = L.skip isBlank S 0) (hil : i < S.size) (h91 : bt S i = 91)
    (hkids : (kids = [] ∧ L.skip isBlank S (i + 1) + 1 = E) ∨ (bt S (L.skip isBlank S (i + 1)) ≠ 93 ∧ EChain S nf E (i + 1) kids)) :
    Calls Tryd.prog 65 #[.agg #[.bool false, .bool false, .int .i64 cn], .slice (some ad) m c, .func (.func 40) #[] #[.pointer (some ⟨G, 0, none⟩)], .slice none 0 0] w (EachPost S m kids G w) := by
  subst hm
  have HTS := Lib.hid htS
  clear htS
  obtain ⟨w1, hw1⟩ : ∃ w1, w.alloc (.cells #[.bool false, .bool false, .int .i64 cn] 91) = w1 := ⟨_, rfl⟩
  have HB1 := Lib.hid (show Below w.heap.size w w1 by rw [← hw1]; exact below_alloc (Below.refl _ _) _)
  have hz1 : w1.heap.size = w.heap.size + 1 := by rw [← hw1]; simp
  have hcf : CfgAt w1 w.heap.size false false cn := by rw [← hw1]; exact CfgAt.new _ _ _ _
  have HCF := Lib.hid hcf
  have g0 := hcf.c0
  have g1 := hcf.c1
  have g2 := hcf.c2
  have HR := Lib.hid (hR.below HB1.out)
  have HE := Lib.hid (hE.below HB1.out)
  have HG := Lib.hid ((HB1.out.block G hGw).trans hG)
  have HT := Lib.hid ht
  have HK := Lib.hid hkids
  have HZ1 := Lib.hid hz1
  clear hcf hR hE hG ht hkids hz1
  have hhd : t.size ≤ i → ∀ q, kids.head? = some q → t.size ≤ q.e := fun hh q hq => by
    rcases HK.out with ⟨h, _⟩ | ⟨_, h⟩
    · rw [h] at hq; cases hq
    · cases hkk : kids with
      | nil => rw [hkk] at hq; cases hq
      | cons q' qs =>
        rw [hkk] at hq h
        injection hq with hq
        subst hq
        have hh2 := h.head
        have h4 := hh2.2.2.2.1
        have h6 := hh2.2.2.2.2.2.1
        have := skip_le isBlank S (i + 1)
        omega
  have HHD := Lib.hid hhd
  clear hhd
  by_cases hm0 : t.size = 0
  · have hs0 : ((t.size : Int) == 0) = true := by rw [hm0]; rfl
    have hg := (HE.out.e6).2
    go_enter Tryd.func65, Tryd.ntmps65
    go_wp2
    go_quiet (fail)
    go_wp2
    (try simp only [Exit.inBlock, Exit.then])
    refine bodyPost_ret (results_tmp2 rfl _ _ _) rfl ?_
    exact ⟨_, _, _, w1.heap.size, 0, [], rfl, by have := HZ1.out; omega, (Out.new HG.out).drewN _, by omega, Had.none (HHD.out (by omega)), .of_below (below_drewN HB1.out _)⟩
  by_cases hmi : t.size ≤ i
  · have ht0 : ((t.size : Int) == 0) = false := beq_eq_false_iff_ne.2 (by omega)
    have hN1 : nxt (tx t) = none := by
      have := (nxt_take (s := S) (i := 0) (m := t.size) (by omega) (by omega)).1 (by omega)
      rw [List.drop_zero, ← HT.out] at this
      exact this
    have HN1 := Lib.hid hN1
    clear hN1 hi
    go_enter Tryd.func65, Tryd.ntmps65
    go_wp2_with (first
      | (go_at_call 84; refine (nextW _ t _ _ false false cn _ HR.out rfl (by omega) (by omega)).mono ?_; rintro e w2 ⟨⟨z, rfl, hz⟩, hb2⟩; replace hz := Lib.hid hz; replace hb2 := Lib.hid hb2
         obtain rfl : z = -1 := by
           rcases hz.out with ⟨q, hq, e⟩ | ⟨_, e⟩
           · rw [HN1.out] at hq; cases hq
           · exact e
         have hg := ((HE.out.below hb2.out).e3).2))
    go_quiet (fail)
    go_wp2
    (try simp only [Exit.inBlock, Exit.then])
    refine bodyPost_ret (results_tmp2 rfl _ _ _) rfl ?_
    exact ⟨_, _, _, w2.heap.size, 0, [], rfl, by have := HZ1.out; have := hb2.out.size; omega, (Out.new ((hb2.out.block G (by have := HZ1.out; omega)).trans HG.out)).drewN _, by omega, Had.none (HHD.out hmi), .of_below (below_drewN (below_of HB1.out hb2.out) _)⟩
  have hN1 : nxt (tx t) = some i := by
    have := (nxt_take (s := S) (i := 0) (m := t.size) (by omega) (by omega)).2 (by omega)
    rw [List.drop_zero, ← HT.out, ← hi, Nat.sub_zero] at this
    exact this
  have HN1 := Lib.hid hN1
  have hcell : w1.cell? (ad.add i) = some (.int .u8 91) := by
    obtain ⟨ad', e, h⟩ := HR.out.at_ (k := i) (by omega)
    injection e with e
    subst e
    rw [h]
    have := (HN1.out)
    obtain ⟨x1, h1, h2, h3⟩ := tx_at t i (by omega)
    obtain ⟨x2, k1, k2, k3⟩ := tx_at S i hil
    rw [HT.out, List.getElem?_take_of_lt (by omega), k3] at h3
    injection h3 with h3
    rw [← h2, ← h3, k2, h91]
  have hi1 : ((i : Int) == -1) = false := beq_eq_false_iff_ne.2 (by omega)
  have ht0 : ((t.size : Int) == 0) = false := beq_eq_false_iff_ne.2 (by omega)
  have hil2 : i < t.size := by omega
  have HI := Lib.hid hi
  clear hN1 hi hmi hm0 h91
  go_enter Tryd.func65, Tryd.ntmps65
  go_upto_region 20 with (first
    | (go_at_call 84; refine (nextW _ t _ _ false false cn _ HR.out rfl (by omega) (by omega)).mono ?_; rintro e w2 ⟨⟨z, rfl, hz⟩, hb2⟩; replace hz := Lib.hid hz; replace hb2 := Lib.hid hb2
       obtain rfl : z = (i : Int) := by
         rcases hz.out with ⟨q, hq, e⟩ | ⟨hq, _⟩
         · rw [HN1.out] at hq; injection hq with hq; rw [e, hq]
         · rw [HN1.out] at hq; cases hq
       clear hz
       have hcell2 : w2.cell? (ad.add i) = some (.int .u8 91) := (hb2.out.cell (by rw [add_block]; have := HZ1.out; omega)).trans hcell))
  have hcf2 := HCF.out.below hb2.out
  have HCF2 := Lib.hid hcf2
  have j0 := hcf2.c0
  have j1 := hcf2.c1
  have j2 := hcf2.c2
  have HR2 := Lib.hid (HR.out.below hb2.out)
  have HE2 := Lib.hid (HE.out.below hb2.out)
  have HG2 := Lib.hid ((hb2.out.block G (by have := HZ1.out; omega)).trans HG.out)
  have HZ2 := Lib.hid (show w.heap.size + 1 ≤ w2.heap.size by have := hb2.out.size; have := HZ1.out; omega)
  have HB2 := Lib.hid (below_of HB1.out hb2.out)
  clear hcf2 hcell2 hcell g0 g1 g2
  obtain ⟨A2, hA2⟩ : ∃ A2, (if c = i + 1 then some ad else some (⟨ad.block, ad.off + (i + 1), none⟩ : Addr)) = A2 := ⟨_, rfl⟩
  have HTT := Lib.hid (show Rd w2 A2 (t.extract (i + 1) t.size) by rw [← hA2]; exact rdc1 HR2.out (i := i) hc)
  have e2 : (0 : Int) ≤ (i : Int) + 1 := by omega
  have e3 : (i : Int) + 1 ≤ (t.size : Int) := by omega
  have e4 : ((i : Int) + 1).toNat = i + 1 := by omega
  have e1 : IntKind.i64.wrap ((i : Int) + 1) = (i : Int) + 1 := IntWalk.i64_in _ (by omega)
  go_region_with (first
    | (go_at_call 84; refine (nextW _ (t.extract (i + 1) t.size) _ _ false false cn _ (HTT.out.drew) cut_size (by rw [size_ext]; omega) (by rw [size_ext]; omega)).mono ?_; rintro e w3 ⟨⟨z, rfl, hz⟩, hb3⟩; replace hz := Lib.hid hz; replace hb3 := Lib.hid (below_drew_one hb3)))
  clear e1 e2 e3 e4 hA2 j0 j1 j2
  have HX := Lib.hid (show tx (t.extract (i + 1) t.size) = ((tx S).take t.size).drop (i + 1) by rw [tx_ext, ← HT.out])
  obtain ⟨j, hj⟩ : ∃ j, L.skip isBlank S (i + 1) = j := ⟨_, rfl⟩
  have hji : i + 1 ≤ j := by rw [← hj]; exact skip_le isBlank S (i + 1)
  have hjS : j < S.size := by
    rcases HK.out with ⟨_, h⟩ | ⟨_, h⟩
    · rw [hj] at h; omega
    · cases hkk : kids with
      | nil => rw [hkk] at h; exact absurd h id
      | cons q qs => rw [hkk] at h; rw [← hj]; exact h.head.2.1
  have HNT := Lib.hid (nxt_take (s := S) (i := i + 1) (m := t.size) (by omega) (by rw [hj]; exact hjS))
  have HJ := Lib.hid hj
  clear hj
  by_cases hjm : t.size ≤ j
  · obtain rfl : z = -1 := by
      rcases hz.out with ⟨q, hq, e⟩ | ⟨_, e⟩
      · rw [HX.out, HNT.out.1 (by rw [HJ.out]; exact hjm)] at hq; cases hq
      · exact e
    have hg := ((HE2.out.below hb3.out).e3).2
    clear hz
    go_wp2
    go_quiet (fail)
    go_wp2
    (try simp only [Exit.inBlock, Exit.then])
    refine bodyPost_ret (results_tmp2 rfl _ _ _) rfl ?_
    have hG3 := (hb3.out.block G (by have := HZ2.out; omega)).trans HG2.out
    exact ⟨_, _, _, w3.heap.size, 0, [], rfl, by have := HZ2.out; have := hb3.out.size; omega, (Out.new hG3).drewN _, by omega, Had.none fun q hq => by
      rcases HK.out with ⟨h, _⟩ | ⟨_, h⟩
      · rw [h] at hq; cases hq
      · cases hkk : kids with
        | nil => rw [hkk] at hq; cases hq
        | cons q' qs =>
          rw [hkk] at hq h
          injection hq with hq
          subst hq
          have hh := h.head
          have h4 := hh.2.2.2.1
          have h6 := hh.2.2.2.2.2.1
          rw [HJ.out] at h4
          omega, .of_below (below_drewN (below_of HB2.out hb3.out) _)⟩
  obtain ⟨h93, hch⟩ : bt S j ≠ 93 ∧ EChain S nf E (i + 1) kids := by
    rcases HK.out with ⟨_, h⟩ | h
    · rw [HJ.out] at h; omega
    · rw [HJ.out] at h; exact h
  obtain rfl : z = ((j - (i + 1) : Nat) : Int) := by
    rcases hz.out with ⟨q, hq, e⟩ | ⟨hq, _⟩
    · rw [HX.out, HNT.out.2 (by rw [HJ.out]; omega), HJ.out] at hq; injection hq with hq; rw [e, hq]
    · rw [HX.out, HNT.out.2 (by rw [HJ.out]; omega)] at hq; cases hq
  have hz1 : (((j - (i + 1) : Nat) : Int) == -1) = false := beq_eq_false_iff_ne.2 (by omega)
  have hzs : (i : Int) + 1 + ((j - (i + 1) : Nat) : Int) = (j : Int) := by omega
  have hzw : IntKind.i64.wrap (j : Int) = (j : Int) := IntWalk.i64_in _ (by omega)
  have hcj : w3.cell? (ad.add j) = some (.int .u8 (bt S j)) := by
    obtain ⟨ad', e, h⟩ := (HR2.out.below hb3.out).at_ (k := j) (by omega)
    injection e with e
    subst e
    rw [h]
    obtain ⟨x1, h1, h2, h3⟩ := tx_at t j (by omega)
    obtain ⟨x2, k1, k2, k3⟩ := tx_at S j hjS
    rw [HT.out, List.getElem?_take_of_lt (by omega), k3] at h3
    injection h3 with h3
    rw [← h2, ← h3, k2]
  have h93b : (bt S j == 93) = false := beq_eq_false_iff_ne.2 h93
  have hjt : j < t.size := by omega
  have HCH := Lib.hid hch
  have HG3 := Lib.hid ((hb3.out.block G (by have := HZ2.out; omega)).trans HG2.out)
  have HR3 := Lib.hid (HR2.out.below hb3.out)
  have HE3 := Lib.hid (HE2.out.below hb3.out)
  have HCF3 := Lib.hid (HCF2.out.below hb3.out)
  have HB3 := Lib.hid (below_of HB2.out hb3.out)
  clear hz h93 hch
  obtain ⟨q0, qs0, hkk⟩ : ∃ q qs, kids = q :: qs := by
    cases hkk : kids with
    | nil => have := HCH.out; rw [hkk] at this; exact absurd this id
    | cons q qs => exact ⟨q, qs, rfl⟩
  have HKK := Lib.hid hkk
  have HCJ := Lib.hid (show EChain S nf E j (q0 :: qs0) by have h := HCH.out; rw [hkk] at h; have h2 := h.skip; rw [HJ.out] at h2; exact h2)
  have HZ3 := Lib.hid (show w.heap.size + 1 ≤ w3.heap.size by have := HZ2.out; have := hb3.out.size; omega)
  clear hkk
  go_upto_block 0 with (fail)
  clear hcj h93b hzs hzw hz1
  go_cut [8] (fun v8 wx => False)
  case rest => exact hcut.elim
  case first =>
    go_wp2_with (fail)
    go_loopg [8] (kids.length + 1) (fun d v8 wx => ∃ (o : Nat) (ds : List Pl) (q : Pl) (qs : List Pl) (xs : List Value), v8 = .int .i64 ((o : Int) + 1) ∧ kids = ds ++ q :: qs ∧ EChain S nf E (o + 1) (q :: qs) ∧ Told S ds xs ∧ (∀ p ∈ ds, p.e < t.size) ∧ ds.length ≤ o + 1 ∧ o + 1 ≤ t.size ∧ qs.length < d ∧ Out w3.heap.size G wx ds.length xs ∧ Kp (Old w3.heap.size G) w3 wx)
    case atStart =>
      refine ⟨j - 1, [], q0, qs0, [], by go_num, HKK.out, ?_, .nil, fun p hp => absurd hp (by simp), by simp, by omega, ?_, Out.new HG3.out, Kp.refl _ _⟩
      · rw [show j - 1 + 1 = j by omega]; exact HCJ.out
      · rw [HKK.out]; simp only [List.length_cons]; omega
    case round =>
      obtain ⟨o, ds, q, qs, xs, rfl, hkd, hec, htd, hds, hdl, hot, hqd, hout, hkp⟩ := hrel
      have HKD := Lib.hid hkd
      have HEC := Lib.hid hec
      have HTD := Lib.hid htd
      have HDS := Lib.hid hds
      have HQD := Lib.hid hqd
      have HOUT := Lib.hid hout
      have HKP := Lib.hid hkp
      have hzz : G < w3.heap.size := hout.lt
      have HRr := Lib.hid (rdkeeps HR3.out hkp (by have := HZ3.out; omega) hadG)
      have HEr := Lib.hid (HE3.out.keeps hkp hA hzz)
      have hcfr := HCF3.out.keeps hkp (by have := HZ3.out; omega) (by omega)
      have HCFr := Lib.hid hcfr
      have j0 := hcfr.c0
      have j1 := hcfr.c1
      have j2 := hcfr.c2
      obtain ⟨r1, r2, r3, r4, r5, r6, r7, r8⟩ := hec.head
      have HGT := Lib.hid (getT_kid (s := S) (n := nf) (i := o + 1) (m := t.size) (p := q) false r1 r2 r3)
      have HX := Lib.hid (show tx (t.extract (o + 1) t.size) = ((tx S).take t.size).drop (o + 1) by rw [tx_ext, ← HT.out])
      have HQB := Lib.hid r4
      have hob : o + 1 ≤ q.b := by rw [r4]; exact skip_le isBlank S (o + 1)
      have HFOL := Lib.hid (echain_fol hec)
      clear hkd hec htd hds hqd hout hkp hcfr r1 r2 r3 r4
      obtain ⟨A2, hA2⟩ : ∃ A2, (if c = o + 1 then some ad else some (⟨ad.block, ad.off + (o + 1), none⟩ : Addr)) = A2 := ⟨_, rfl⟩
      have HTT := Lib.hid (show Rd wr A2 (t.extract (o + 1) t.size) by rw [← hA2]; exact rdc1 HRr.out (i := o) hc)
      have e2 : (0 : Int) ≤ (o : Int) + 1 := by omega
      have e3 : (o : Int) + 1 ≤ (t.size : Int) := by omega
      have e4 : ((o : Int) + 1).toNat = o + 1 := by omega
      have e1 : IntKind.i64.wrap ((o : Int) + 1) = (o : Int) + 1 := IntWalk.i64_in _ (by omega)
      by_cases hmb : t.size ≤ q.b
      · have HG1 := Lib.hid (show getT false (tx (t.extract (o + 1) t.size)) = none by rw [HX.out]; exact HGT.out.1 (by rw [← HQB.out]; exact hmb))
        go_upto_region 26 with (fail)
        go_region_with (first
          | (go_at_call 50; refine (cgetW T V _ (t.extract (o + 1) t.size) _ _ false false cn _ (HTT.out.drew) (errs_drew HEr.out) cut_size (by rw [size_ext]; omega) (by rw [size_ext]; omega)).mono ?_; rw [HG1.out]; rintro e w4 ⟨rfl, hb4⟩; replace hb4 := Lib.hid (below_drew_one hb4)))
        all_goals
          clear e1 e2 e3 e4 hA2 j0 j1 j2
          go_wp2_with (first
            | (go_at_call 40; refine (onCall w3.heap.size G ds.length _ _ _ ⟨#[]⟩ _ _ _ xs _ (HOUT.out.below hb4.out) (rdnil _) rfl (by decide) (by omega)).mono ?_; rintro e w5 ⟨rfl, ho5, hk5⟩; replace ho5 := Lib.hid ho5; replace hk5 := Lib.hid hk5))
          (try simp only [Exit.inBlock, Exit.then])
          refine bodyPost_ret (results_tmp2 rfl _ _ _) rfl ?_
          exact ⟨_, _, _, w3.heap.size, ds.length + 1, _, rfl, by have := HZ3.out; omega, ho5.out, by omega, Had.more HKD.out HTD.out HDS.out (by omega) _ _ _, (((Kp.of_below HB3.out).trans (keeps_mono (HKP.out.trans (.of_below hb4.out)) (by have := HZ3.out; omega))).trans (keeps_mono hk5.out (by have := HZ3.out; omega)))⟩
      · have HRP := Lib.hid (roundP HTS.out rfl hmS hES HEC.out HKD.out HTD.out HDS.out hot (by omega))
        rcases HRP.out with ⟨d, dt, err, hg, hmq⟩ | ⟨d, dt, k, f, y, hg, hy, hoy, hfm, hy0, hnx, had⟩ | ⟨d, dt, k, f, y, u, r', qs', hg, hy, hoy, hfm, hy0, hnx, hum, h44, hqs, hec2, hqm, htl⟩
        · have HG1 := Lib.hid hg
          clear hg HRP
          by_cases hd0 : d = 0
          · subst hd0
            go_upto_region 26 with (fail)
            go_region_with (first
              | (go_at_call 50; refine (cgetW T V _ (t.extract (o + 1) t.size) _ _ false false cn _ (HTT.out.drew) (errs_drew HEr.out) cut_size (by rw [size_ext]; omega) (by rw [size_ext]; omega)).mono ?_; rw [HG1.out]; rintro e w4 ⟨rfl, hb4⟩; replace hb4 := Lib.hid (below_drew_one hb4)))
            all_goals
              clear e1 e2 e3 e4 hA2 j0 j1 j2
              go_wp2
              (try simp only [Exit.inBlock, Exit.then])
              refine bodyPost_ret (results_tmp2 rfl _ _ _) rfl ?_
              exact ⟨_, _, _, w3.heap.size, ds.length, _, rfl, by have := HZ3.out; omega, HOUT.out.below hb4.out, by omega, Had.same HKD.out HTD.out HDS.out hmq, ((Kp.of_below HB3.out).trans (keeps_mono (HKP.out.trans (.of_below hb4.out)) (by have := HZ3.out; omega)))⟩
          · have hdn : ((d : Int) == 0) = false := beq_eq_false_iff_ne.2 (by omega)
            go_upto_region 26 with (fail)
            go_region_with (first
              | (go_at_call 50; refine (cgetW T V _ (t.extract (o + 1) t.size) _ _ false false cn _ (HTT.out.drew) (errs_drew HEr.out) cut_size (by rw [size_ext]; omega) (by rw [size_ext]; omega)).mono ?_; rw [HG1.out]; rintro e w4 ⟨rfl, hb4⟩; replace hb4 := Lib.hid (below_drew_one hb4)))
            all_goals
              clear e1 e2 e3 e4 hA2 j0 j1 j2
              go_wp2_with (first
                | (go_at_call 40; refine (onCall w3.heap.size G ds.length _ _ _ ⟨#[]⟩ _ _ _ xs _ (HOUT.out.below hb4.out) (rdnil _) rfl (by decide) (by omega)).mono ?_; rintro e w5 ⟨rfl, ho5, hk5⟩; replace ho5 := Lib.hid ho5; replace hk5 := Lib.hid hk5))
              (try simp only [Exit.inBlock, Exit.then])
              refine bodyPost_ret (results_tmp2 rfl _ _ _) rfl ?_
              exact ⟨_, _, _, w3.heap.size, ds.length + 1, _, rfl, by have := HZ3.out; omega, ho5.out, by omega, Had.more HKD.out HTD.out HDS.out hmq _ _ _, (((Kp.of_below HB3.out).trans (keeps_mono (HKP.out.trans (.of_below hb4.out)) (by have := HZ3.out; omega))).trans (keeps_mono hk5.out (by have := HZ3.out; omega)))⟩
        · obtain ⟨rr, hrr⟩ : ∃ rr, rawOf (t.extract (o + 1) t.size) dt d k = rr := ⟨_, rfl⟩
          have hrs : rr.size ≤ 1000000 := by rw [← hrr]; exact Nat.le_trans (raw_le _ _ _ _) (by rw [size_ext]; omega)
          rw [hrr] at had
          have HAD := Lib.hid had
          have HNX := Lib.hid hnx
          have HG1 := Lib.hid hg
          have HRR := Lib.hid hrr
          have HY := Lib.hid hy
          have hyn : ((y : Int) == 0) = false := beq_eq_false_iff_ne.2 (by omega)
          have hs1 : (o : Int) + 1 + (y : Int) = (f : Int) + 1 := by omega
          have hw1 : IntKind.i64.wrap ((f : Int) + 1) = (f : Int) + 1 := IntWalk.i64_in _ (by omega)
          clear hg HRP had hnx hrr hy
          go_upto_region 26 with (fail)
          go_region_with (first
            | (go_at_call 50; refine (cgetW T V _ (t.extract (o + 1) t.size) _ _ false false cn _ (HTT.out.drew) (errs_drew HEr.out) cut_size (by rw [size_ext]; omega) (by rw [size_ext]; omega)).mono ?_; rw [HG1.out]; rintro e w4 ⟨⟨A4, n4, c4, he, h1, h2, h3, h4⟩, hb4⟩; rw [HY.out] at he; subst he; rw [HRR.out] at h1 h4; subst h1; replace h4 := Lib.hid h4; replace hb4 := Lib.hid (below_drew_one hb4)))
          all_goals
            clear e1 e2 e3 e4 hA2 j0 j1 j2
            go_upto_region 33 with (first
              | (go_at_call 40; refine (onCall w3.heap.size G ds.length _ _ _ rr _ _ _ xs _ (HOUT.out.below hb4.out) h4.out rfl hrs (by omega)).mono ?_; rintro e w5 ⟨rfl, ho5, hk5⟩; replace ho5 := Lib.hid ho5; replace hk5 := Lib.hid hk5))
            have hkp5 : Kp (Old w3.heap.size G) w3 w5 := (HKP.out.trans (.of_below hb4.out)).trans hk5.out
            have HK5 := Lib.hid hkp5
            have HR5 := Lib.hid (rdkeeps HR3.out hkp5 (by have := HZ3.out; omega) hadG)
            have HE5 := Lib.hid (HE3.out.keeps hkp5 hA hzz)
            have hcf5 := HCF3.out.keeps hkp5 (by have := HZ3.out; omega) (by omega)
            have j0 := hcf5.c0
            have j1 := hcf5.c1
            have j2 := hcf5.c2
            clear hcf5 hkp5
            obtain ⟨A5, hA5⟩ : ∃ A5, (if c = f + 1 then some ad else some (⟨ad.block, ad.off + (f + 1), none⟩ : Addr)) = A5 := ⟨_, rfl⟩
            have HT5 := Lib.hid (show Rd w5 A5 (t.extract (f + 1) t.size) by rw [← hA5]; exact rdc1 HR5.out (i := f) hc)
            have e2 : (0 : Int) ≤ (f : Int) + 1 := by omega
            have e3 : (f : Int) + 1 ≤ (t.size : Int) := by omega
            have e4 : ((f : Int) + 1).toNat = f + 1 := by omega
            go_region_with (first
              | (go_at_call 84; refine (nextW _ (t.extract (f + 1) t.size) _ _ false false cn _ (HT5.out.drew) cut_size (by rw [size_ext]; omega) (by rw [size_ext]; omega)).mono ?_; rintro e w6 ⟨⟨z, rfl, hz⟩, hb6⟩; replace hz := Lib.hid hz; replace hb6 := Lib.hid (below_drew_one hb6)))
            all_goals
              clear e2 e3 e4 hA5 j0 j1 j2 hs1
              obtain rfl : z = -1 := by
                rcases hz.out with ⟨q', hq, e⟩ | ⟨_, e⟩
                · rw [HNX.out] at hq; cases hq
                · exact e
              have hg5 := ((HE5.out.below hb6.out).e5).2
              clear hz
              go_wp2
              go_quiet (fail)
              go_wp2
              (try simp only [Exit.inBlock, Exit.then])
              refine bodyPost_ret (results_tmp2 rfl _ _ _) rfl ?_
              exact ⟨_, _, _, w3.heap.size, ds.length + 1, _, rfl, by have := HZ3.out; omega, (ho5.out.below hb6.out).drewN _, by omega, HAD.out _, ((((Kp.of_below HB3.out).trans (keeps_mono HK5.out (by have := HZ3.out; omega))).trans (.of_below (below_drewN hb6.out _))))⟩
        · obtain ⟨rr, hrr⟩ : ∃ rr, rawOf (t.extract (o + 1) t.size) dt d k = rr := ⟨_, rfl⟩
          have hrs : rr.size ≤ 1000000 := by rw [← hrr]; exact Nat.le_trans (raw_le _ _ _ _) (by rw [size_ext]; omega)
          rw [hrr] at htl
          have HAD := Lib.hid htl
          have HNX := Lib.hid hnx
          have HG1 := Lib.hid hg
          have HRR := Lib.hid hrr
          have HY := Lib.hid hy
          have hyn : ((y : Int) == 0) = false := beq_eq_false_iff_ne.2 (by omega)
          have hs1 : (o : Int) + 1 + (y : Int) = (f : Int) + 1 := by omega
          have hw1 : IntKind.i64.wrap ((f : Int) + 1) = (f : Int) + 1 := IntWalk.i64_in _ (by omega)
          clear hg HRP htl hnx hrr hy
          go_upto_region 26 with (fail)
          go_region_with (first
            | (go_at_call 50; refine (cgetW T V _ (t.extract (o + 1) t.size) _ _ false false cn _ (HTT.out.drew) (errs_drew HEr.out) cut_size (by rw [size_ext]; omega) (by rw [size_ext]; omega)).mono ?_; rw [HG1.out]; rintro e w4 ⟨⟨A4, n4, c4, he, h1, h2, h3, h4⟩, hb4⟩; rw [HY.out] at he; subst he; rw [HRR.out] at h1 h4; subst h1; replace h4 := Lib.hid h4; replace hb4 := Lib.hid (below_drew_one hb4)))
          all_goals
            clear e1 e2 e3 e4 hA2 j0 j1 j2
            go_upto_region 33 with (first
              | (go_at_call 40; refine (onCall w3.heap.size G ds.length _ _ _ rr _ _ _ xs _ (HOUT.out.below hb4.out) h4.out rfl hrs (by omega)).mono ?_; rintro e w5 ⟨rfl, ho5, hk5⟩; replace ho5 := Lib.hid ho5; replace hk5 := Lib.hid hk5))
            have hkp5 : Kp (Old w3.heap.size G) w3 w5 := (HKP.out.trans (.of_below hb4.out)).trans hk5.out
            have HK5 := Lib.hid hkp5
            have HR5 := Lib.hid (rdkeeps HR3.out hkp5 (by have := HZ3.out; omega) hadG)
            have HE5 := Lib.hid (HE3.out.keeps hkp5 hA hzz)
            have hcf5 := HCF3.out.keeps hkp5 (by have := HZ3.out; omega) (by omega)
            have j0 := hcf5.c0
            have j1 := hcf5.c1
            have j2 := hcf5.c2
            clear hcf5 hkp5
            obtain ⟨A5, hA5⟩ : ∃ A5, (if c = f + 1 then some ad else some (⟨ad.block, ad.off + (f + 1), none⟩ : Addr)) = A5 := ⟨_, rfl⟩
            have HT5 := Lib.hid (show Rd w5 A5 (t.extract (f + 1) t.size) by rw [← hA5]; exact rdc1 HR5.out (i := f) hc)
            have e2 : (0 : Int) ≤ (f : Int) + 1 := by omega
            have e3 : (f : Int) + 1 ≤ (t.size : Int) := by omega
            have e4 : ((f : Int) + 1).toNat = f + 1 := by omega
            go_region_with (first
              | (go_at_call 84; refine (nextW _ (t.extract (f + 1) t.size) _ _ false false cn _ (HT5.out.drew) cut_size (by rw [size_ext]; omega) (by rw [size_ext]; omega)).mono ?_; rintro e w6 ⟨⟨z, rfl, hz⟩, hb6⟩; replace hz := Lib.hid hz; replace hb6 := Lib.hid (below_drew_one hb6)))
            all_goals
              clear e2 e3 e4 hA5 j0 j1 j2 hs1
              obtain rfl : z = (u : Int) := by
                rcases hz.out with ⟨q', hq, e⟩ | ⟨hq, _⟩
                · rw [HNX.out] at hq; injection hq with hq; rw [e, hq]
                · rw [HNX.out] at hq; cases hq
              clear hz
              obtain ⟨p, hp⟩ : ∃ p, f + 1 + u = p := ⟨_, rfl⟩
              rw [hp] at hum h44 hec2
              have hzu : ((u : Int) == -1) = false := beq_eq_false_iff_ne.2 (by omega)
              have hs2 : (f : Int) + 1 + (u : Int) = (p : Int) := by omega
              have hw2 : IntKind.i64.wrap (p : Int) = (p : Int) := IntWalk.i64_in _ (by omega)
              have hw3 : IntKind.i64.wrap ((p : Int) + 1) = (p : Int) + 1 := IntWalk.i64_in _ (by omega)
              have hcp : w6.cell? (ad.add p) = some (.int .u8 44) := by
                obtain ⟨ad', e, h⟩ := (HR5.out.below hb6.out).at_ (k := p) (by omega)
                injection e with e
                subst e
                rw [h]
                obtain ⟨x1, h1, h2, h3⟩ := tx_at t p (by omega)
                obtain ⟨x2, k1, k2, k3⟩ := tx_at S p (by omega)
                rw [HT.out, List.getElem?_take_of_lt (by omega), k3] at h3
                injection h3 with h3
                rw [← h2, ← h3, k2, h44]
              have HEC2 := Lib.hid hec2
              have HQS := Lib.hid hqs
              clear hec2 hqs h44
              go_wp2
              go_roundg (gk - 1)
              case measure => have := HQD.out; rw [HQS.out] at this; simp only [List.length_cons] at this; omega
              case rel =>
                refine ⟨p, ds ++ [q], r', qs', _, by go_num, by rw [HKD.out, HQS.out]; simp, HEC2.out, HAD.out _, ?_, by simp; omega, by omega, ?_, by have := ho5.out.below hb6.out; simpa using this, HK5.out.trans (.of_below hb6.out)⟩
                · intro p' hp'
                  rcases List.mem_append.1 hp' with h | h
                  · exact HDS.out p' h
                  · simp only [List.mem_singleton] at h; subst h; exact hqm
                · have := HQD.out; rw [HQS.out] at this; simp only [List.length_cons] at this; omega
end Go.Proofs.YtcjgneomcnholaaDoor.Jp
