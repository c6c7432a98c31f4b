/- The walk of parseRawString. -/
import Derived.Test.YtgemkbpilmmajaaDoorFcNum
import Derived.Lib.IndexLaws
namespace Go.Proofs.YtgemkbpilmmajaaDoor.Fc
open Go.RowKit L
set_option linter.unusedVariables false
set_option linter.unusedSimpArgs false
set_option linter.unusedSectionVars false

theorem idx_cases (t : Tx) (c : UInt8) : (Lib.indexByte t c = -1 ∧ ∀ k : Nat, t[k]? ≠ some c) ∨ ∃ n : Nat, Lib.indexByte t c = n ∧ t[n]? = some c ∧ ∀ k : Nat, k < n → t[k]? ≠ some c := by
  have h := Lib.indexByte_ge t c
  by_cases h1 : Lib.indexByte t c = -1
  · exact .inl ⟨h1, Lib.indexByte_none h1⟩
  · obtain ⟨n, hn⟩ : ∃ n : Nat, Lib.indexByte t c = n := ⟨(Lib.indexByte t c).toNat, by omega⟩
    exact .inr ⟨n, hn, Lib.indexByte_some hn⟩
theorem idxW (t : ByteArray) (c : Int) (r : Int) (w : World) (h : Lib.indexByte (tx t) c.toNat.toUInt8 = r) : Calls Tryd.prog 63 #[.string t, .int .u8 c] w fun e w' => e = .returned (.int .i64 r) ∧ w = w' := by
  rw [← h]
  exact (Tryd.strings_IndexByte t c w).mono fun e w' h => ⟨h.1, h.2.symm⟩
theorem bsl_nil : bsl [] = 0 := rfl
theorem bsl_snoc (l : Tx) (c : UInt8) : bsl (l ++ [c]) = if c = 92 then bsl l + 1 else 0 := by
  unfold bsl
  rw [List.reverse_append, List.reverse_singleton, List.singleton_append, List.takeWhile_cons]
  by_cases h : c = 92
  · subst h; simp
  · simp [h]
theorem bsl_take {l : Tx} {i : Nat} {c : UInt8} (h : l[i]? = some c) : bsl (l.take (i + 1)) = if c = 92 then bsl (l.take i) + 1 else 0 := by
  rw [List.take_add_one, h, Option.toList_some, bsl_snoc]
theorem bsl_app {x : Tx} (hx : x = [] ∨ ∃ a c, x = a ++ [c] ∧ c ≠ 92) (y : Tx) : bsl (x ++ y) = bsl y := by
  rcases hx with rfl | ⟨a, c, rfl, hc⟩
  · rfl
  · unfold bsl
    simp only [List.reverse_append, List.reverse_singleton, List.singleton_append]
    rw [List.takeWhile_append]
    split
    · rw [List.takeWhile_cons_of_neg (by simpa using hc)]
      rename_i hl
      rw [List.append_nil]
      have := List.takeWhile_prefix (fun c : UInt8 => c == 92) (l := y.reverse)
      rw [this.eq_of_length hl]
    · rfl
/-- Where the search for the closing mark stands. -/
structure RS (s t : ByteArray) (p : Nat) : Prop where
  ht : tx t = (tx s).drop p
  hp : p ≤ s.size
  hno : ∀ k, k < p → endAt (tx s) k = false
  hq : p = 0 ∨ 0 < p ∧ (tx s)[p - 1]? = some 34
/-- The first quotation mark. -/
def FQ (t : ByteArray) (n : Nat) : Prop := (tx t)[n]? = some 34 ∧ ∀ k, k < n → (tx t)[k]? ≠ some 34
theorem RS.start (s : ByteArray) : RS s s 0 := ⟨rfl, Nat.zero_le _, fun k hk => absurd hk (by omega), .inl rfl⟩
theorem RS.size {s t : ByteArray} {p : Nat} (h : RS s t p) : t.size + p = s.size := by
  have h1 := congrArg List.length h.ht
  rw [List.length_drop, tx_len, tx_len] at h1
  have := h.hp
  omega
theorem RS.at_ {s t : ByteArray} {p : Nat} (h : RS s t p) (k : Nat) : (tx s)[p + k]? = (tx t)[k]? := by
  rw [h.ht, List.getElem?_drop]
theorem RS.bsl {s t : ByteArray} {p : Nat} (h : RS s t p) (n : Nat) : bsl ((tx s).take (p + n)) = bsl ((tx t).take n) := by
  rw [List.take_add, ← h.ht]
  refine bsl_app ?_ _
  rcases h.hq with e | e
  · exact .inl (by rw [e]; rfl)
  · obtain ⟨hp, e⟩ := e
    refine .inr ⟨(tx s).take (p - 1), 34, ?_, by decide⟩
    have := List.take_add_one (l := tx s) (i := p - 1)
    rw [e] at this
    rw [show p - 1 + 1 = p by omega] at this
    simpa using this
theorem FQ.lt {t : ByteArray} {n : Nat} (h : FQ t n) : n < t.size := by
  have := h.1
  rw [List.getElem?_eq_some_iff] at this
  obtain ⟨h1, -⟩ := this
  rwa [tx_len] at h1
theorem rs_no {s t : ByteArray} {p n : Nat} (R : RS s t p) (hf : ∀ k, k < n → (tx t)[k]? ≠ some 34) : ∀ k, k < p + n → endAt (tx s) k = false := fun k hk => by
  by_cases h : k < p
  · exact R.hno k h
  · have := hf (k - p) (by omega)
    rw [← R.at_, show p + (k - p) = k by omega] at this
    unfold endAt
    simp [this]
theorem rs_end {s t : ByteArray} {p n : Nat} (R : RS s t p) (F : FQ t n) (he : bsl ((tx t).take n) % 2 = 0) : rawEnd (tx s) = some (p + n) := by
  unfold rawEnd
  rw [List.find?_range_eq_some]
  refine ⟨?_, ?_, fun k hk => by rw [rs_no R F.2 k hk]; rfl⟩
  · unfold endAt
    rw [R.at_, F.1, R.bsl, he]
    rfl
  · have := F.lt
    have := R.size
    rw [List.mem_range, tx_len]; omega
theorem rs_none {s t : ByteArray} {p : Nat} (R : RS s t p) (hf : ∀ k : Nat, (tx t)[k]? ≠ some 34) : rawEnd (tx s) = none := by
  unfold rawEnd
  rw [List.find?_eq_none]
  intro k hk
  rw [List.mem_range, tx_len] at hk
  have := R.size
  rw [rs_no R (n := t.size) (fun k _ => hf k) k (by omega)]
  simp
theorem rs_next {s t u : ByteArray} {p n : Nat} (R : RS s t p) (F : FQ t n) (ho : ¬ bsl ((tx t).take n) % 2 = 0) (hu : tx u = (tx t).drop (n + 1)) : RS s u (p + (n + 1)) := by
  have h1 := F.lt
  have h2 := R.size
  refine ⟨by rw [hu, R.ht, List.drop_drop], by omega, fun k hk => ?_, .inr ?_⟩
  · by_cases h : k < p + n
    · exact rs_no R F.2 k h
    · obtain rfl : k = p + n := by omega
      unfold endAt
      rw [R.bsl]
      simp [ho]
  · rw [show p + (n + 1) - 1 = p + n by omega, R.at_]; exact ⟨by omega, F.1⟩
/-- What parseRawString answers. -/
def RPost (l : Tx) (w : World) (e : Ending) (w' : World) : Prop :=
  ((∃ n a b, rawEnd l = some n ∧ e = .returned (.tuple #[.string a, .string b, .nilIface]) ∧ tx a = l.take n ∧ tx b = l.drop (n + 1)) ∨
    (rawEnd l = none ∧ ∃ a b t v, e = .returned (.tuple #[.string a, .string b, .iface t v]))) ∧ Below w.heap.size w w'
theorem RPost.no {l : Tx} {w w' : World} {e : Ending} {a b : ByteArray} {t : TypeId} {v : Value} (h : rawEnd l = none) (hb : Below w.heap.size w w') (he : e = .returned (.tuple #[.string a, .string b, .iface t v])) : RPost l w e w' :=
  ⟨.inr ⟨h, _, _, _, _, he⟩, hb⟩
theorem RPost.yes {l : Tx} {w w' : World} {e : Ending} {a b : ByteArray} {n : Nat} (h : rawEnd l = some n) (hw : Below w.heap.size w w') (he : e = .returned (.tuple #[.string a, .string b, .nilIface])) (ha : tx a = l.take n) (hb : tx b = l.drop (n + 1)) : RPost l w e w' :=
  ⟨.inl ⟨n, a, b, h, he, ha, hb⟩, hw⟩
theorem tx_pre' {s : ByteArray} {x n : Nat} (h : x = n) : tx (s.extract 0 x) = (tx s).take n := by rw [h, tx_pre]
/-- The search is at a quotation mark, a backslash ahead of it. -/
structure RW (s t : ByteArray) (p m : Nat) : Prop where
  R : RS s t p
  F : FQ t (m + 1)
  b : bsl ((tx t).take (m + 1)) = bsl ((tx t).take m) + 1
theorem bsl_zero {t : ByteArray} {m : Nat} {c : UInt8} (h : (tx t)[m]? = some c) (hc : ¬ c = 92) : bsl ((tx t).take (m + 1)) = 0 := by
  rw [bsl_take h, if_neg hc]
theorem bsl_one {t : ByteArray} {m : Nat} {c : UInt8} (h : (tx t)[m]? = some c) (hc : c = 92) : bsl ((tx t).take (m + 1)) = bsl ((tx t).take m) + 1 := by
  rw [bsl_take h, if_pos hc]
set_option maxRecDepth 100000 in
set_option maxHeartbeats 4000000 in
theorem rawW (s : ByteArray) (w : World) (hs : s.size ≤ 1000000) : Calls Tryd.prog 89 #[.string s] w (RPost (tx s) w) := by
  rcases idx_cases (tx s) 34 with ⟨h, hn⟩ | ⟨n, h, hq, hf⟩
  · have HI := Lib.hid h
    have HN := Lib.hid (rs_none (RS.start s) hn)
    clear h hn
    go_enter Tryd.func89, Tryd.ntmps89
    go_wp2_with (first
      | (go_at_call 63; go_must (refine (idxW s 34 (-1) _ HI.out).mono ?_); rintro e w' ⟨rfl, rfl⟩)
      | (go_at_call 45; go_must (refine (newW _ _).mono ?_); rintro e w' ⟨⟨et, ev, rfl⟩, hb⟩))
    go_ret3
    exact RPost.no HN.out hb rfl
  · have hF : FQ s n := ⟨hq, hf⟩
    have hnl := hF.lt
    have HI := Lib.hid h
    have HF := Lib.hid hF
    clear h hq hf hF
    rcases n with _ | m
    · have HN := Lib.hid (rs_end (RS.start s) HF.out rfl)
      go_enter Tryd.func89, Tryd.ntmps89
      go_wp2_with (first
        | (go_at_call 63; go_must (refine (idxW s 34 0 _ HI.out).mono ?_); rintro e w' ⟨rfl, rfl⟩))
      go_quiet (fail)
      go_wp2
      go_ret3
      exact RPost.yes HN.out ⟨rfl, rfl, rfl, Nat.le_refl _, fun _ _ => rfl⟩ rfl rfl (tx_ext s 1)
    · replace HI := Lib.hid (show Lib.indexByte (tx s) (34 : Int).toNat.toUInt8 = (m : Int) + 1 from HI.out)
      have hz_x := bt_at s m (by omega)
      have hr_x := bt_range s (m : Nat)
      obtain ⟨c, -, hcx, hca⟩ := tx_at s m (by omega)
      obtain ⟨x, hz⟩ : ∃ z, bt s (m : Nat) = z := ⟨_, rfl⟩
      rw [hz] at hz_x hr_x hcx
      clear hz
      have HX := Lib.hid hcx
      have HA := Lib.hid hca
      clear hcx hca
      have hm0 : ((m : Int) + 1 == 0) = false := by rw [beq_eq_false_iff_ne]; omega
      by_cases h92 : x = 92
      · have HW := Lib.hid (show RW s s 0 m from ⟨RS.start s, HF.out, bsl_one HA.out ((u8 HX.out 92).2 h92)⟩)
        subst h92
        go_enter Tryd.func89, Tryd.ntmps89
        go_wp2_with (first
          | (go_at_call 63; go_must (refine (idxW s 34 ((m : Int) + 1) _ HI.out).mono ?_); rintro e w' ⟨rfl, rfl⟩))
        go_loopg [0, 5] (s.size + 1) (fun d v0 v5 wx => ∃ (t : ByteArray) (p m : Nat), v0 = .string t ∧ v5 = .int .i64 ((m : Int) + 1) ∧ w = wx ∧ RW s t p m ∧ t.size < d)
        case atStart => exact ⟨s, 0, m, rfl, rfl, rfl, HW.out, by omega⟩
        case round =>
          obtain ⟨t, p, m, rfl, rfl, hwx, hW, hd⟩ := hrel
          subst hwx
          have hml := hW.F.lt
          have hts := hW.R.size
          have HW := Lib.hid hW
          have HTS := Lib.hid hts
          have HD := Lib.hid hd
          have htle : t.size ≤ s.size := by omega
          clear hW hd hts
          go_upto_block 2 with (fail)
          go_cut [7] (fun v7 wx => ∃ i : Nat, v7 = .int .i64 (i : Int) ∧ w = wx ∧ i ≤ m ∧ bsl ((tx t).take (m + 1)) = m + 1 - i)
          case first =>
            go_wp2_with fail
            go_loopg [7] (m + 1) (fun d v7 wx => ∃ i : Nat, v7 = .int .i64 (i : Int) ∧ w = wx ∧ i ≤ m ∧ i ≤ d ∧ bsl ((tx t).take (m + 1)) = (m + 1 - i) + bsl ((tx t).take i))
            case atStart => exact ⟨m, by go_num, rfl, Nat.le_refl _, by omega, by rw [HW.out.b]; omega⟩
            case round =>
              obtain ⟨i, rfl, hwx, hi, hd, hb⟩ := hrel
              subst hwx
              have HB := Lib.hid hb
              have HD2 := Lib.hid hd
              clear hb hd
              rcases i with _ | j
              · go_wp2
                go_meet
                case rel => exact ⟨0, rfl, rfl, by omega, by rw [HB.out]; rfl⟩
              · have hz_x := bt_at t j (by omega)
                have hr_x := bt_range t (j : Nat)
                obtain ⟨c, -, hcx, hca⟩ := tx_at t j (by omega)
                obtain ⟨x, hz⟩ : ∃ z, bt t (j : Nat) = z := ⟨_, rfl⟩
                rw [hz] at hz_x hr_x hcx
                clear hz
                have HX := Lib.hid hcx
                have HA := Lib.hid hca
                clear hcx hca
                by_cases h92 : x = 92
                · have HB2 := Lib.hid (bsl_one HA.out ((u8 HX.out 92).2 h92))
                  subst h92
                  go_wp2
                  go_roundg (gk - 1)
                  case measure => have := HD2.out; omega
                  case rel => exact ⟨j, by go_num, rfl, by omega, by have := HD2.out; omega, by rw [HB.out, HB2.out]; omega⟩
                · have HB2 := Lib.hid (bsl_zero HA.out fun e => h92 ((u8 HX.out 92).1 e))
                  go_wp2
                  go_meet
                  case rel => exact ⟨j + 1, by go_num, rfl, by omega, by rw [HB.out, HB2.out]; rfl⟩
          case rest =>
            obtain ⟨i, rfl, hwx, hi, hb⟩ := hcut
            subst hwx
            have HB := Lib.hid hb
            clear hb
            by_cases hpar : (m + 1 - i) % 2 = 0
            · have HN := Lib.hid (rs_end HW.out.R HW.out.F (by rw [HB.out]; exact hpar))
              go_wp2
              go_quiet (fail)
              go_wp2
              go_ret3
              refine RPost.yes HN.out ⟨rfl, rfl, rfl, Nat.le_refl _, fun _ _ => rfl⟩ rfl (tx_pre' ?_) ?_
              · have := HTS.out; omega
              · rw [tx_ext, HW.out.R.ht, List.drop_drop] <;> rfl
            · have HQ := Lib.hid (show ¬ bsl ((tx t).take (m + 1)) % 2 = 0 by rw [HB.out]; exact hpar)
              obtain ⟨u, hu⟩ : ∃ u, t.extract (m + 1 + 1) t.size = u := ⟨_, rfl⟩
              have hul : u.size < t.size := by rw [← hu, ByteArray.size_extract]; omega
              have HU := Lib.hid (rs_next HW.out.R HW.out.F HQ.out (u := u) (by rw [← hu, tx_ext]))
              rcases idx_cases (tx u) 34 with ⟨h, hn⟩ | ⟨n, h, hq, hf⟩
              · have HI := Lib.hid h
                have HN := Lib.hid (rs_none HU.out hn)
                clear h hn
                go_wp2_with (first
                  | (go_at_call 63; go_must (refine (idxW u 34 (-1) _ HI.out).mono ?_); rintro e w' ⟨rfl, rfl⟩)
                  | (go_at_call 45; go_must (refine (newW _ _).mono ?_); rintro e w' ⟨⟨et, ev, rfl⟩, hb⟩))
                go_ret3
                exact RPost.no HN.out hb rfl
              · have hF : FQ u n := ⟨hq, hf⟩
                have hnl := hF.lt
                have HI := Lib.hid h
                have HF := Lib.hid hF
                have hus := HU.out.size
                have HUS := Lib.hid hus
                clear h hq hf hF hus
                rcases n with _ | m2
                · have HN := Lib.hid (rs_end HU.out HF.out rfl)
                  go_wp2_with (first
                    | (go_at_call 63; go_must (refine (idxW u 34 0 _ HI.out).mono ?_); rintro e w' ⟨rfl, rfl⟩))
                  go_quiet (fail)
                  go_wp2
                  go_ret3
                  refine RPost.yes HN.out ⟨rfl, rfl, rfl, Nat.le_refl _, fun _ _ => rfl⟩ rfl (tx_pre' ?_) ?_
                  · have := HUS.out; omega
                  · rw [tx_ext, HU.out.ht, List.drop_drop] <;> rfl
                · replace HI := Lib.hid (show Lib.indexByte (tx u) (34 : Int).toNat.toUInt8 = (m2 : Int) + 1 from HI.out)
                  have hz_x := bt_at u m2 (by omega)
                  have hr_x := bt_range u (m2 : Nat)
                  obtain ⟨c, -, hcx, hca⟩ := tx_at u m2 (by omega)
                  obtain ⟨x, hz⟩ : ∃ z, bt u (m2 : Nat) = z := ⟨_, rfl⟩
                  rw [hz] at hz_x hr_x hcx
                  clear hz
                  have HX := Lib.hid hcx
                  have HA := Lib.hid hca
                  clear hcx hca
                  have hm0 : ((m2 : Int) + 1 == 0) = false := by rw [beq_eq_false_iff_ne]; omega
                  by_cases h92 : x = 92
                  · have HW2 := Lib.hid (show RW s u _ m2 from ⟨HU.out, HF.out, bsl_one HA.out ((u8 HX.out 92).2 h92)⟩)
                    subst h92
                    go_wp2_with (first
                      | (go_at_call 63; go_must (refine (idxW u 34 ((m2 : Int) + 1) _ HI.out).mono ?_); rintro e w' ⟨rfl, rfl⟩))
                    go_roundg (gk - 1)
                    case measure => have := HD.out; omega
                    case rel => exact ⟨u, _, m2, rfl, rfl, rfl, HW2.out, by have := HD.out; omega⟩
                  · have HN := Lib.hid (rs_end HU.out HF.out (by rw [bsl_zero HA.out fun e => h92 ((u8 HX.out 92).1 e)]))
                    go_wp2_with (first
                      | (go_at_call 63; go_must (refine (idxW u 34 ((m2 : Int) + 1) _ HI.out).mono ?_); rintro e w' ⟨rfl, rfl⟩))
                    go_quiet (fail)
                    go_wp2
                    go_ret3
                    refine RPost.yes HN.out ⟨rfl, rfl, rfl, Nat.le_refl _, fun _ _ => rfl⟩ rfl (tx_pre' ?_) ?_
                    · have := HUS.out; omega
                    · rw [tx_ext, HU.out.ht, List.drop_drop] <;> rfl
      · have HN := Lib.hid (rs_end (RS.start s) HF.out (by rw [bsl_zero HA.out fun e => h92 ((u8 HX.out 92).1 e)]))
        go_enter Tryd.func89, Tryd.ntmps89
        go_wp2_with (first
          | (go_at_call 63; go_must (refine (idxW s 34 ((m : Int) + 1) _ HI.out).mono ?_); rintro e w' ⟨rfl, rfl⟩))
        go_quiet (fail)
        go_wp2
        go_ret3
        exact RPost.yes HN.out ⟨rfl, rfl, rfl, Nat.le_refl _, fun _ _ => rfl⟩ rfl (by rw [Nat.zero_add]; exact tx_pre _ _) (by rw [Nat.zero_add]; exact tx_ext _ _)
end Go.Proofs.YtgemkbpilmmajaaDoor.Fc
