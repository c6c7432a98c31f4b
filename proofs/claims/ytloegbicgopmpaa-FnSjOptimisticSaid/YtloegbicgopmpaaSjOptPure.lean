/- The plain law of FnSjOptimistic: over numbers and lists alone, for every path and every two whole numbers. -/
import Derived.Test.YtloegbicgopmpaaSjOptWalk
namespace Go.Proofs.Ytloegbicgopmpaa.Pure
open Go.RowKit Go.Proofs.Ytloegbicgopmpaa.PFnSjOptimistic Go.Proofs.YtloegbicgopmpaaW.PrintWords Go.Proofs.YtloegbicgopmpaaW.PrintLast

theorem wrap_id {i : Int} (h0 : -9223372036854775808 ≤ i) (h : i ≤ 9223372036854775807) : wrap64 i = i := by
  unfold wrap64; omega

theorem bt_app_left (a b : ByteArray) (i : Int) (h1 : 0 ≤ i) (h : i < (a.size : Int)) : bt (a ++ b) i = bt a i := by
  by_cases h0 : i.toNat < a.size
  · unfold bt
    rw [dif_pos h0, dif_pos (by rw [ByteArray.size_append]; omega), ByteArray.getElem_append_left h0]
  · have : a.size = 0 := by omega
    omega

theorem bt_app_right (a b : ByteArray) (i : Int) (h0 : (a.size : Int) ≤ i) : bt (a ++ b) i = bt b (i - a.size) := by
  unfold bt
  have e : (i - (a.size : Int)).toNat = i.toNat - a.size := by omega
  by_cases h : i.toNat - a.size < b.size
  · rw [dif_pos (by rw [ByteArray.size_append]; omega), dif_pos (by omega), ByteArray.getElem_append_right (by omega)]
    simp only [e]
  · rw [dif_neg (by rw [ByteArray.size_append]; omega), dif_neg (by omega)]

theorem bt_ext (a : ByteArray) (p q : Nat) (i : Int) (h0 : 0 ≤ i) (h : i < ((a.extract p q).size : Int)) : bt (a.extract p q) i = bt a (p + i) := by
  have hs : (a.extract p q).size = min q a.size - p := ByteArray.size_extract
  unfold bt
  have e : ((p : Int) + i).toNat = p + i.toNat := by omega
  rw [dif_pos (by omega), dif_pos (by omega), ByteArray.getElem_extract]
  simp only [e]

def Good (c : Int) : Prop := 46 ≤ c ∧ c ≤ 122 ∧ (c ≤ 57 ∨ 65 ≤ c)

/-- One round at a byte that is let by. -/
theorem opt_step (s : ByteArray) (hs : s.size ≤ 140737488351232) (i : Int) (h0 : 0 ≤ i) (h1 : i < (s.size : Int)) (hg : Good (bt s i)) (k : Nat) :
    sjson_isOptimisticPath.l0 (k + 3) s i = sjson_isOptimisticPath.l0 k s (i + 1) := by
  obtain ⟨ha, hb, hc⟩ := hg
  simp only [sjson_isOptimisticPath.l0]
  rw [if_pos h1, if_pos h0, if_neg (by omega)]
  simp only [sjson_isOptimisticPath.j1]
  have e1 : decide (bt s i > 122) = false := by simpa using hb
  rw [e1, if_neg (by simp), if_pos h0, if_pos h1]
  by_cases h57 : bt s i > 57
  · rw [if_pos h57]
    simp only [sjson_isOptimisticPath.j2]
    have e2 : decide (bt s i < 65) = false := by simp; omega
    rw [e2, if_neg (by simp), if_pos h0, if_pos h1, if_neg (by omega), wrap_id (by omega) (by omega)]
  · rw [if_neg h57]
    simp only [sjson_isOptimisticPath.j2]
    rw [if_neg (by simp), if_pos h0, if_pos h1, if_neg (by omega), wrap_id (by omega) (by omega)]

theorem opt_bad (s : ByteArray) (i : Int) (h0 : 0 ≤ i) (h1 : i < (s.size : Int)) (hg : ¬ Good (bt s i)) (k : Nat) :
    sjson_isOptimisticPath.l0 (k + 3) s i = some false := by
  simp only [sjson_isOptimisticPath.l0]
  rw [if_pos h1, if_pos h0]
  by_cases h46 : bt s i < 46
  · rw [if_pos h46]
    simp only [sjson_isOptimisticPath.j1]
    simp
  · rw [if_neg h46]
    simp only [sjson_isOptimisticPath.j1]
    by_cases h122 : bt s i > 122
    · simp [h122]
    · have e1 : decide (bt s i > 122) = false := by simpa using h122
      rw [e1, if_neg (by simp), if_pos h0, if_pos h1]
      have hb : bt s i > 57 ∧ bt s i < 65 := by
        unfold Good at hg; omega
      rw [if_pos hb.1]
      simp only [sjson_isOptimisticPath.j2]
      simp [hb.2]

theorem opt_yes (s : ByteArray) (hs : s.size ≤ 140737488351232) (hg : ∀ j : Int, 0 ≤ j → j < s.size → Good (bt s j)) (d : Nat) : ∀ i : Int, 0 ≤ i → (s.size : Int) - i = d →
    sjson_isOptimisticPath.l0 (3 * d + 1) s i = some true := by
  induction d with
  | zero =>
    intro i h0 hd
    simp only [sjson_isOptimisticPath.l0]; rw [if_neg (by omega)]
  | succ d ih =>
    intro i h0 hd
    rw [show 3 * (d + 1) + 1 = (3 * d + 1) + 3 by omega, opt_step s hs i h0 (by omega) (hg i h0 (by omega))]
    exact ih (i + 1) (by omega) (by omega)

theorem opt_no (s : ByteArray) (hs : s.size ≤ 140737488351232) (p : Int) (hp0 : 0 ≤ p) (hp : p < s.size) (hb : ¬ Good (bt s p)) (d : Nat) : ∀ i : Int, 0 ≤ i → p - i = d → (∀ j : Int, 0 ≤ j → j < p → Good (bt s j)) →
    sjson_isOptimisticPath.l0 (3 * d + 3) s i = some false := by
  induction d with
  | zero =>
    intro i h0 hd _
    obtain rfl : i = p := by omega
    exact opt_bad s i h0 hp hb 0
  | succ d ih =>
    intro i h0 hd hg
    rw [show 3 * (d + 1) + 3 = (3 * d + 3) + 3 by omega, opt_step s hs i h0 (by omega) (hg i h0 (by omega))]
    exact ih (i + 1) (by omega) (by omega) hg

def IsPath (c : Int) : Prop := c = 46 ∨ (97 ≤ c ∧ c ≤ 122) ∨ (65 ≤ c ∧ c ≤ 90) ∨ (48 ≤ c ∧ c ≤ 57)
theorem IsPath.good {c : Int} (h : IsPath c) : Good c := by unfold IsPath at h; unfold Good; omega

/-- The law's own loop over the path. -/
theorem law_loop (a0 : ByteArray) (a1 a2 : Int) (hs : a0.size ≤ 140737488351232) (K : Nat) (hend : (∀ j : Int, 0 ≤ j → j < a0.size → IsPath (bt a0 j)) → laws_FnSjOptimistic.l0 (K + 1) a0 a1 a2 (a0.size : Int) = some true)
    (d : Nat) : ∀ i : Int, 0 ≤ i → (a0.size : Int) - i = d → (∀ j : Int, 0 ≤ j → j < i → IsPath (bt a0 j)) → laws_FnSjOptimistic.l0 (K + 1 + d) a0 a1 a2 i = some true := by
  induction d with
  | zero =>
    intro i h0 hd hp
    obtain rfl : i = (a0.size : Int) := by omega
    exact hend (fun j a b => hp j a (by omega))
  | succ d ih =>
    intro i h0 hd hp
    by_cases hi : IsPath (bt a0 i)
    · have hn := ih (i + 1) (by omega) (by omega) (fun j a b => by
        by_cases e : j = i
        · rw [e]; exact hi
        · exact hp j a (by omega))
      have e : K + 1 + (d + 1) = (K + 1 + d) + 1 := by omega
      rw [e]
      simp only [laws_FnSjOptimistic.l0]
      rw [if_pos (show i < (a0.size : Int) by omega), if_pos h0, wrap_id (show -9223372036854775808 ≤ i + 1 by omega) (by omega)]
      unfold IsPath at hi
      repeat' split
      all_goals first | exact hn | (exfalso; omega)
    · have e : K + 1 + (d + 1) = (K + 1 + d) + 1 := by omega
      rw [e]
      simp only [laws_FnSjOptimistic.l0]
      rw [if_pos (show i < (a0.size : Int) by omega), if_pos h0]
      unfold IsPath at hi
      repeat' split
      all_goals first | rfl | (exfalso; omega)

theorem mark_bad (i : Int) (h0 : 0 ≤ i) (h5 : i < 5) : ¬ Good (bt (⟨#[124, 35, 64, 42, 63]⟩ : ByteArray) i) := by
  have : i = 0 ∨ i = 1 ∨ i = 2 ∨ i = 3 ∨ i = 4 := by omega
  unfold Good
  rcases this with rfl | rfl | rfl | rfl | rfl
  · have e : bt (⟨#[124, 35, 64, 42, 63]⟩ : ByteArray) 0 = 124 := by decide +kernel
    rw [e]; omega
  · have e : bt (⟨#[124, 35, 64, 42, 63]⟩ : ByteArray) 1 = 35 := by decide +kernel
    rw [e]; omega
  · have e : bt (⟨#[124, 35, 64, 42, 63]⟩ : ByteArray) 2 = 64 := by decide +kernel
    rw [e]; omega
  · have e : bt (⟨#[124, 35, 64, 42, 63]⟩ : ByteArray) 3 = 42 := by decide +kernel
    rw [e]; omega
  · have e : bt (⟨#[124, 35, 64, 42, 63]⟩ : ByteArray) 4 = 63 := by decide +kernel
    rw [e]; omega

theorem one_size (x : Int) : (strOfNums [x]).size = 1 := by simp [strOfNums, ByteArray.size]
theorem one_bt (x : Int) (h0 : 0 ≤ x) (h1 : x ≤ 255) : bt (strOfNums [x]) 0 = x := by
  unfold bt
  rw [dif_pos (by rw [one_size]; decide)]
  show (((UInt8.ofNat x.toNat).toNat : Nat) : Int) = x
  rw [UInt8.toNat_ofNat']
  omega

theorem FnSjOptimistic : laws_FnSjOptimistic.Pure := by
  intro a0 a1 a2 hs h1 h2
  have b2 : -9223372036854775808 ≤ a2 ∧ a2 ≤ 9223372036854775807 := by
    simp [Lit.wf, IntKind.min, IntKind.max, IntKind.signed, IntKind.bits] at h2
    omega
  by_cases hz : (a0.size : Int) > 2147483647
  · exact ⟨0, by unfold laws_FnSjOptimistic.f; rw [if_pos hz]⟩
  refine ⟨3 * (a0.size + 1) + 3 + 1 + a0.size + 1, ?_⟩
  unfold laws_FnSjOptimistic.f
  rw [if_neg hz]
  by_cases c1 : a1 < 0
  · rw [if_pos c1]; simp only [laws_FnSjOptimistic.j0]; simp
  rw [if_neg c1]
  by_cases c2 : a1 > (a0.size : Int)
  · rw [if_pos c2]; simp only [laws_FnSjOptimistic.j0]; simp
  rw [if_neg c2]
  simp only [laws_FnSjOptimistic.j0]
  by_cases c3 : (a0.size : Int) > 4096
  · simp [c3]
  have e3 : decide ((a0.size : Int) > 4096) = false := by simpa using c3
  rw [e3, if_neg (by simp)]
  refine law_loop a0 a1 a2 hs (3 * (a0.size + 1) + 3) (fun hp => ?_) a0.size 0 (by omega) (by omega) (fun j a b => by omega)
  simp only [laws_FnSjOptimistic.l0]
  have hm0 : 0 ≤ Int.tmod (wrap64 ((Int.tmod a2 5) + 5)) 5 ∧ Int.tmod (wrap64 ((Int.tmod a2 5) + 5)) 5 < 5 := by
    have q := Int.tmod_lt_of_pos a2 (show (0 : Int) < 5 by decide)
    have q2 : -5 < Int.tmod a2 5 := Int.lt_tmod_of_pos a2 (by decide)
    rw [wrap_id (by omega) (by omega)]
    exact ⟨Int.tmod_nonneg 5 (by omega), Int.tmod_lt_of_pos _ (by decide)⟩
  generalize Int.tmod (wrap64 ((Int.tmod a2 5) + 5)) 5 = m at hm0
  rw [if_neg (by omega), if_pos hm0.1, if_pos hm0.2]
  have hyes : ∀ (s : ByteArray), s.size ≤ a0.size + 1 → (∀ j : Int, 0 ≤ j → j < s.size → Good (bt s j)) → impl_SjOptimistic.f (3 * (a0.size + 1) + 3) s = some true := by
    intro s hz hg
    have h := opt_yes s (by omega) hg s.size 0 (by omega) (by omega)
    have h' : sjson_isOptimisticPath.l0 (3 * (a0.size + 1) + 3) s 0 = some true := at_rounds (g := fun k => sjson_isOptimisticPath.l0 k s 0) (fun k => (sjson_isOptimisticPath.mono_l k).1 s 0) (by omega) h
    unfold impl_SjOptimistic.f sjson_DoorOptimistic.f sjson_isOptimisticPath.f
    rw [h']; rfl
  have hno : ∀ (s : ByteArray) (p : Int), s.size ≤ a0.size + 1 → 0 ≤ p → p < s.size → ¬ Good (bt s p) → (∀ j : Int, 0 ≤ j → j < p → Good (bt s j)) → impl_SjOptimistic.f (3 * (a0.size + 1) + 3) s = some false := by
    intro s p hz hp0 hp hb hg
    have h := opt_no s (by omega) p hp0 hp hb p.toNat 0 (by omega) (by omega) hg
    have h' : sjson_isOptimisticPath.l0 (3 * (a0.size + 1) + 3) s 0 = some false := at_rounds (g := fun k => sjson_isOptimisticPath.l0 k s 0) (fun k => (sjson_isOptimisticPath.mono_l k).1 s 0) (by omega) h
    unfold impl_SjOptimistic.f sjson_DoorOptimistic.f sjson_isOptimisticPath.f
    rw [h']; rfl
  rw [hyes a0 (by omega) (fun j a b => (hp j a b).good)]
  simp only [Option.bind_some, if_true]
  rw [if_pos (by omega), if_pos (by omega)]
  have hb := mark_bad m hm0.1 hm0.2
  have hbr := bt_range (⟨#[124, 35, 64, 42, 63]⟩ : ByteArray) m
  generalize bt (⟨#[124, 35, 64, 42, 63]⟩ : ByteArray) m = c at hb hbr
  have z1 : (a0.extract 0 a1.toNat).size = a1.toNat := by rw [ByteArray.size_extract]; omega
  have z2 : (strOfNums [c]).size = 1 := one_size c
  have z3 : (a0.extract a1.toNat a0.size).size = a0.size - a1.toNat := by rw [ByteArray.size_extract]; omega
  have z4 : (a0.extract 0 a1.toNat ++ strOfNums [c]).size = a1.toNat + 1 := by rw [ByteArray.size_append, z1, z2]
  rw [if_pos (by omega), if_pos (by omega)]
  have hr := hno ((a0.extract 0 a1.toNat ++ strOfNums [c]) ++ a0.extract a1.toNat a0.size) a1 (by rw [ByteArray.size_append]; omega) (by omega) (by rw [ByteArray.size_append]; omega)
    (by
      rw [bt_app_left _ _ _ (by omega) (by omega), bt_app_right _ _ _ (by omega)]
      have e : a1 - ((a0.extract 0 a1.toNat).size : Int) = 0 := by omega
      rw [e, one_bt c hbr.1 hbr.2]
      exact hb)
    (fun j a b => by
      rw [bt_app_left _ _ _ (by omega) (by omega), bt_app_left _ _ _ (by omega) (by omega), bt_ext _ _ _ _ a (by omega)]
      have e : ((0 : Nat) : Int) + j = j := by omega
      rw [e]
      exact (hp j a (by omega)).good)
  rw [hr]; rfl

end Go.Proofs.Ytloegbicgopmpaa.Pure
