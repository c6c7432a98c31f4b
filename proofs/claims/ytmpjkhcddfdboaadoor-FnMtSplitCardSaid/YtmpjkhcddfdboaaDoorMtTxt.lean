/- Texts in UTF-8 and what utf8's decoders say of them. -/
import Derived.Test.YtmpjkhcddfdboaaDoorMtFit
import Derived.Shelf.Unicode.DecodeSlow
import Derived.Below
namespace Go.Proofs.YtmpjkhcddfdboaaDoor.M
open Go.Lib Go.RowKit
set_option linter.unusedVariables false
set_option linter.unusedSimpArgs false

/-- A text in UTF-8, its characters' pieces. -/
def Txt (s : ByteArray) (ks : List (List UInt8)) : Prop := Cut s.data.toList ks
theorem Txt.uniq {s : ByteArray} {ks js : List (List UInt8)} (h : Txt s ks) (h' : Txt s js) : ks = js := Cut.uniq h h'
theorem data_ext (s : ByteArray) (i j : Nat) : (s.extract i j).data.toList = (s.data.toList.take j).drop i := by
  rw [ByteArray.data_extract]
  simp [List.extract_eq_take_drop, List.drop_take]
theorem Txt.size {s : ByteArray} {ks : List (List UInt8)} (h : Txt s ks) : s.size = ks.flatten.length := by
  have : s.data.toList.length = ks.flatten.length := by rw [h.2]
  simpa using this
theorem Txt.pos {s : ByteArray} {k : List UInt8} {ks : List (List UInt8)} (h : Txt s (k :: ks)) : 0 < s.size := by
  rw [h.size]
  have := (h.1 k (by simp)).pos
  simp; omega
theorem Txt.nil_iff {s : ByteArray} {ks : List (List UInt8)} (h : Txt s ks) : s.size = 0 ↔ ks = [] := by
  constructor
  · intro e
    cases ks with
    | nil => rfl
    | cons k ks => have := h.pos; omega
  · intro e; subst e; rw [h.size]; rfl
theorem Txt.init {s : ByteArray} {k : List UInt8} {ks : List (List UInt8)} (h : Txt s (ks ++ [k])) : Txt (s.extract 0 (s.size - k.length)) ks ∧ Enc k ∧ k.length ≤ s.size := by
  have h1 := Cut.init h
  refine ⟨?_, h1.2, ?_⟩
  · unfold Txt
    rw [data_ext]
    simpa using h1.1
  · rw [h.size]; simp
theorem Txt.tail {s : ByteArray} {k : List UInt8} {ks : List (List UInt8)} (h : Txt s (k :: ks)) : Txt (s.extract k.length s.size) ks ∧ Enc k ∧ k.length ≤ s.size := by
  have h1 := Cut.tail h
  refine ⟨?_, h.1 k (by simp), ?_⟩
  · unfold Txt
    rw [data_ext]
    have : (s.data.toList.take s.size) = s.data.toList := List.take_of_length_le (by simp)
    rw [this]
    exact h1
  · rw [h.size]; simp
/-- What utf8's decoders say of such a text. -/
theorem Txt.first {s : ByteArray} {k : List UInt8} {ks : List (List UInt8)} (h : Txt s (k :: ks)) : Lib.decodeGo s = (ch k, k.length) := by
  have hp := h.pos
  unfold Lib.decodeGo
  rw [if_neg (by omega)]
  have h1 := Cut.dcd h
  have h2 : Utf8.decode s 0 = decodeL s.data.toList := rfl
  rw [h2, decodeL_dcd, h1.1]
  exact Prod.ext rfl h1.2.all
theorem Txt.last {s : ByteArray} {k : List UInt8} {ks : List (List UInt8)} (h : Txt s (ks ++ [k])) : Lib.decodeLastL s.data.toList = (ch k, k.length) := decode_last h
theorem tabs_below {w w' : World} {a b : Nat} (hT : Lib.Utf8Tabs a b w) (hb : Below w.heap.size w w') : Lib.Utf8Tabs a b w' := by
  have old : ∀ {p : Addr} {v : Value}, w.cell? p = some v → w'.cell? p = some v := fun {p v} hc => (hb.cell (World.block_lt_of_cell? w p hc)).trans hc
  exact ⟨fun c hc => old (hT.1 c hc), fun i hi => ⟨old (hT.2 i hi).1, old (hT.2 i hi).2⟩⟩
theorem tabs_drewN {w : World} {a b : Nat} (hT : Lib.Utf8Tabs a b w) (n : Nat) : Lib.Utf8Tabs a b (w.drewN n) := hT
end Go.Proofs.YtmpjkhcddfdboaaDoor.M
