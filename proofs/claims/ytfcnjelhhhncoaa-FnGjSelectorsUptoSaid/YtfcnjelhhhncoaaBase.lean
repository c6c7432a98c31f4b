/- Small lemmas of my own: bytes of a string, slices of bytes that read as a string, worlds that grow. -/
import Derived.WalkKit
import Derived.Below
import Derived.Lib.Hide
import Derived.Lib.ConvBytes
import Derived.Laws.BytesArg
import Derived.Laws.Closers25b
import Derived.Laws.Slices
import Derived.Deep.Draws
import Derived.Laws.OwnMore
import Derived.Laws.AppendOwn
namespace Go.Proofs.Ytfcnjelhhhncoaa.L
open Go.RowKit
set_option linter.unusedVariables false
set_option linter.unusedSimpArgs false

/-! ### bytes -/
def bt (s : ByteArray) (i : Int) : Int := if h : i.toNat < s.size then ((s[i.toNat]'h).toNat : Int) else 0
theorem bt_at (s : ByteArray) (k : Nat) : ∀ h : k < s.size, ((s[k]'h).toNat : Int) = bt s k := fun h => by simp [bt, h]
theorem bt_range (s : ByteArray) (i : Int) : 0 ≤ bt s i ∧ bt s i ≤ 255 := by
  unfold bt
  split
  · rename_i h
    have := (s[i.toNat]'h).toNat_lt
    omega
  · omega
theorem bt_out (s : ByteArray) (i : Int) (h : (s.size : Int) ≤ i) : bt s i = 0 := by
  unfold bt; rw [dif_neg (by omega)]
theorem bt_app_left (a b : ByteArray) (i : Int) (h1 : 0 ≤ i) (h : i < (a.size : Int)) : bt (a ++ b) i = bt a i := by
  have h0 : i.toNat < a.size := by omega
  unfold bt
  rw [dif_pos h0, dif_pos (by rw [ByteArray.size_append]; omega), ByteArray.getElem_append_left h0]
theorem bt_app_right (a b : ByteArray) (i : Int) (h0 : (a.size : Int) ≤ i) : bt (a ++ b) i = bt b (i - a.size) := by
  unfold bt
  have e : (i - (a.size : Int)).toNat = i.toNat - a.size := by omega
  by_cases h : i.toNat - a.size < b.size
  · rw [dif_pos (by rw [ByteArray.size_append]; omega), dif_pos (by omega), ByteArray.getElem_append_right (by omega)]
    simp only [e]
  · rw [dif_neg (by rw [ByteArray.size_append]; omega), dif_neg (by omega)]
theorem size_ext (a : ByteArray) (p q : Nat) : (a.extract p q).size = min q a.size - p := ByteArray.size_extract
theorem bt_ext (a : ByteArray) (p q : Nat) (i : Int) (h0 : 0 ≤ i) (h : i < ((a.extract p q).size : Int)) : bt (a.extract p q) i = bt a (p + i) := by
  have hs := size_ext a p q
  unfold bt
  have e : ((p : Int) + i).toNat = p + i.toNat := by omega
  rw [dif_pos (by omega), dif_pos (by omega), ByteArray.getElem_extract]
  simp only [e]
theorem eq_of_bt {a b : ByteArray} (hs : a.size = b.size) (h : ∀ k : Nat, k < a.size → bt a k = bt b k) : a = b := by
  apply ByteArray.ext
  apply Array.ext hs
  intro i h1 h2
  have := h i h1
  unfold bt at this
  rw [dif_pos (by simpa using h1), dif_pos (by simpa using h2)] at this
  have e : a.data[i].toNat = b.data[i].toNat := by exact_mod_cast this
  exact UInt8.toNat_inj.1 e
theorem nil_iff (s : ByteArray) : s.toList = [] ↔ s.size = 0 := by
  rw [toList_nil_iff_emptyBytes]
  constructor
  · rintro rfl; rfl
  · intro h
    apply ByteArray.ext
    exact Array.eq_empty_of_size_eq_zero h
theorem toList_inj {a b : ByteArray} (h : a.toList = b.toList) : a = b := by
  rw [ByteArray.toList_eq, ByteArray.toList_eq] at h
  apply ByteArray.ext
  exact Array.ext' h
theorem ext_all (a : ByteArray) : a.extract 0 a.size = a := by
  refine eq_of_bt (by rw [size_ext]; omega) fun k hk => ?_
  rw [size_ext] at hk
  rw [bt_ext _ _ _ _ (by omega) (by rw [size_ext]; omega)]
  simp
theorem getD_bt (s : ByteArray) (j : Nat) : ((s.data.toList.getD j 0).toNat : Int) = bt s j := by
  unfold bt
  by_cases h : j < s.size
  · rw [dif_pos (by simpa using h)]
    have h' : j < s.data.toList.length := by simpa using h
    rw [List.getD_eq_getElem?_getD, List.getElem?_eq_getElem h']
    simp
    rfl
  · rw [dif_neg (by simpa using h)]
    have h' : ¬ j < s.data.toList.length := by simpa using h
    rw [List.getD_eq_getElem?_getD, List.getElem?_eq_none (by omega)]
    rfl

theorem wrap_id {i : Int} (h0 : -9223372036854775808 ≤ i) (h : i ≤ 9223372036854775807) : wrap64 i = i := by
  unfold wrap64; omega

/-! ### worlds -/
theorem below_alloc {w W : World} (h : Below w.heap.size w W) (o : Obj) : Below w.heap.size w (W.alloc o) := h.alloc h.size o
theorem below_drewN {B : Nat} {w W : World} (h : Below B w W) (n : Nat) : Below B w (W.drewN n) := ⟨h.os, h.tape, h.output, h.size, h.block⟩
theorem below_then {B : Nat} {w w1 w2 : World} (h : Below B w w1) (hB : B ≤ w1.heap.size) (k : Below w1.heap.size w1 w2) : Below B w w2 :=
  h.trans ⟨k.os, k.tape, k.output, k.size, fun i hi => k.block i (Nat.lt_of_lt_of_le hi hB)⟩
theorem below_step {w w1 w2 : World} (h : Below w.heap.size w w1) (k : Below w1.heap.size w1 w2) : Below w.heap.size w w2 := below_then h h.size k
theorem bcell {W w1 : World} (hb : Below W.heap.size W w1) : (∀ b o, b < W.heap.size → w1.cell? ⟨b, o, none⟩ = W.cell? ⟨b, o, none⟩) ∧ (∀ b o, b < W.heap.size → w1.frozen? ⟨b, o, none⟩ = W.frozen? ⟨b, o, none⟩) :=
  ⟨fun b o h => hb.cell (p := ⟨b, o, none⟩) h, fun b o h => hb.frozen (p := ⟨b, o, none⟩) h⟩
theorem add_block (a : Addr) (n : Nat) : (a.add n).block = a.block := by unfold Addr.add; split <;> rfl
theorem add_add (a : Addr) (i j : Nat) : (a.add i).add j = a.add (i + j) := by
  unfold Addr.add
  by_cases hi : i = 0 <;> by_cases hj : j = 0 <;> simp [hi, hj, Nat.add_assoc]

theorem ret_int {k : IntKind} {a b : Int} (h : a = b) : Ending.returned (.int k a) = .returned (.int k b) := by rw [h]
theorem ret_bool {a b : Bool} (h : a = b) : Ending.returned (.bool a) = .returned (.bool b) := by rw [h]

/-! ### a slice of bytes that reads as a string -/
/-- The slice '.slice A s.size c' holds the bytes of s. -/
def Rd (w : World) (A : Option Addr) (s : ByteArray) : Prop :=
  0 < s.size → ∃ ad, A = some ad ∧ ad.block < w.heap.size ∧ ∀ j, j < s.size → w.cell? (ad.add j) = some (.int .u8 (bt s j))
theorem Rd.below {w w1 : World} {A : Option Addr} {s : ByteArray} (h : Rd w A s) (hb : Below w.heap.size w w1) : Rd w1 A s := fun hs => by
  obtain ⟨ad, rfl, hlt, hc⟩ := h hs
  exact ⟨ad, rfl, Nat.lt_of_lt_of_le hlt hb.size, fun j hj => (hb.cell (by rw [add_block]; exact hlt)).trans (hc j hj)⟩
theorem Rd.keep {w w1 : World} {A : Option Addr} {s : ByteArray} (h : Rd w A s) (hz : w.heap.size ≤ w1.heap.size) (hk : ∀ p : Addr, p.block < w.heap.size → w1.cell? p = w.cell? p) : Rd w1 A s := fun hs => by
  obtain ⟨ad, rfl, hlt, hc⟩ := h hs
  exact ⟨ad, rfl, Nat.lt_of_lt_of_le hlt hz, fun j hj => (hk _ (by rw [add_block]; exact hlt)).trans (hc j hj)⟩
theorem Rd.drewN {w : World} {A : Option Addr} {s : ByteArray} (h : Rd w A s) (n : Nat) : Rd (w.drewN n) A s := h
theorem Rd.drew {w : World} {A : Option Addr} {s : ByteArray} (h : Rd w A s) : Rd w.drew A s := h
theorem Rd.at_ {w : World} {A : Option Addr} {s : ByteArray} (h : Rd w A s) {k : Nat} (hk : k < s.size) : ∃ ad, A = some ad ∧ w.cell? (ad.add k) = some (.int .u8 (bt s k)) := by
  obtain ⟨ad, rfl, _, hc⟩ := h (by omega)
  exact ⟨ad, rfl, hc k hk⟩
theorem Rd.cut {w : World} {A : Option Addr} {s : ByteArray} (h : Rd w A s) {i j c : Nat} (hj : j ≤ s.size) (hc : s.size ≤ c) :
    Rd w (if c = i then A else A.map (·.add (i * 1))) (s.extract i j) := fun hp => by
  rw [size_ext] at hp
  obtain ⟨ad, rfl, hlt, hcell⟩ := h (by omega)
  refine ⟨if c = i then ad else ad.add (i * 1), ?_, ?_, fun k hk => ?_⟩
  · split <;> rfl
  · split
    · exact hlt
    · rw [add_block]; exact hlt
  · rw [size_ext] at hk
    rw [if_neg (by omega), add_add, hcell _ (by omega), bt_ext _ _ _ _ (by omega) (by rw [size_ext]; omega)]
    congr 2
    have : ((i * 1 + k : Nat) : Int) = (i : Int) + k := by omega
    rw [this]
theorem Rd.string {P : Program} {w : World} {src dst e : TypeId} {A : Option Addr} {s : ByteArray} {c : Nat} (h : Rd w A s) (hs : P.underlying src = some (.slice e)) (he : P.underlying e = some (.int .u8)) (hd : P.underlying dst = some .string) :
    (convert src dst (.slice A s.size c)).run P w = .ok (.string s) w := by
  have hstr : strOfNums ((List.range s.size).map fun (j : Nat) => bt s j) = s := by
    refine eq_of_bt (by simp [strOfNums_size]) fun k hk => ?_
    rw [strOfNums_size] at hk
    simp at hk
    rw [← getD_bt, ← getD_bt, strOfNums_data]
    simp [List.getD_eq_getElem?_getD, hk]
    have hr := bt_range s k
    rw [← getD_bt] at hr ⊢
    simp [List.getD_eq_getElem?_getD, List.getElem?_eq_getElem (show k < s.data.toList.length by simpa using hk)] at hr ⊢
    omega
  rcases A with _ | ad
  · have h0 : s.size = 0 := by
      rcases Nat.eq_zero_or_pos s.size with h0 | h0
      · exact h0
      · obtain ⟨ad, h', _⟩ := h h0
        cases h'
    have e0 : s = ByteArray.empty := eq_of_bt (by rw [h0]; rfl) (fun k hk => by omega)
    rw [e0]
    exact run_convert_bytes_nil w src e hs he 0 c dst hd
  · have hl : (loadCells ad s.size).run P w = .ok (((List.range s.size).map fun (j : Nat) => bt s j).map (Value.int .u8)).toArray w := by
      have := run_loadCells_list (P := P) w ad (((List.range s.size).map fun (j : Nat) => bt s j).map (Value.int .u8)) (fun j v hj => by
        have hjl : j < s.size := by
          rcases Nat.lt_or_ge j s.size with h' | h'
          · exact h'
          · rw [List.getElem?_eq_none (by simpa using h')] at hj
            cases hj
        obtain ⟨ad', he', _, hc⟩ := h (by omega)
        injection he' with he'
        subst he'
        rw [hc j hjl]
        simp [List.getElem?_map, List.getElem?_range hjl] at hj
        simp [hj])
      simpa using this
    rw [run_convert_bytes_string w src dst e _ s.size c hs he hd, run_bytesToString w ad s.size c _ hl, foldl_push_bytes]
    have e2 : (⟨ByteArray.empty.data ++ (((List.range s.size).map fun (j : Nat) => bt s j).map fun n => UInt8.ofNat n.toNat).toArray⟩ : ByteArray) = strOfNums ((List.range s.size).map fun (j : Nat) => bt s j) := by
      simp [strOfNums, ByteArray.empty, ByteArray.emptyWithCapacity]
      rfl
    rw [e2, hstr]

theorem bytesWorld_below (w : World) (e : TypeId) (s : ByteArray) : Below w.heap.size w (Lib.bytesWorld w e s) :=
  ⟨rfl, rfl, rfl, by rw [Lib.bytesWorld_size]; omega, fun i hi => Lib.bytesWorld_at_old w e s i hi⟩
theorem bytesWorld_rd (w : World) (e : TypeId) (s : ByteArray) : Rd (Lib.bytesWorld w e s) (some ⟨w.heap.size, 0, none⟩) s := fun _ =>
  ⟨_, rfl, by rw [Lib.bytesWorld_size]; exact Nat.lt_succ_self _, fun j hj => by
    have e1 : (⟨w.heap.size, 0, none⟩ : Addr).add j = ⟨w.heap.size, j, none⟩ := by unfold Addr.add; split <;> simp_all
    rw [e1, Lib.bytesWorld_cell w e s j hj, getD_bt]⟩
theorem bytesCap (w : World) (e : TypeId) (s : ByteArray) : s.size ≤ grownCap w s.size 0 e := grownCap_ge w s.size 0 e
end Go.Proofs.Ytfcnjelhhhncoaa.L
