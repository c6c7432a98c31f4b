/- ArrayEach over an array that is cut off: the walks of ArrayEach and JpArrayEach. -/
import Derived.Test.YtcjgneomcnholaaDoorJpEach2
namespace Go.Proofs.YtcjgneomcnholaaDoor.Jp
open Go.RowKit L
set_option linter.unusedVariables false
set_option linter.unusedSimpArgs false

set_option maxRecDepth 100000 in
set_option maxHeartbeats 4000000 in
theorem arrayEachW (T : Nat → TypeId) (V : Nat → Value) (ad : Addr) (S t : ByteArray) (nf i E m c : Nat) (kids : List Pl) (G : Nat) (w : World)
    (hR : Rd w (some ad) t) (hW : Wd T V w) (hA : Ahead G) (hGw : G < w.heap.size) (hG : w.heap[G]? = some (.cells #[.slice none 0 0] 33 (0, 0))) (hadG : ad.block ≠ G) (hadw : ad.block < w.heap.size)
    (hm : m = t.size) (htS : t = S.extract 0 m) (ht : tx t = (tx S).take m) (hS : S.size ≤ 65536) (hmS : m < E) (hES : E ≤ S.size) (hc : m ≤ c)
    (hi : i = L.skip isBlank S 0) (hil : i < S.size) (h91 : bt S i = 91)
    (hkids : (kids = [] ∧ L.skip isBlank S (i + 1) + 1 = E) ∨ (bt S (L.skip isBlank S (i + 1)) ≠ 93 ∧ EChain S nf E (i + 1) kids)) :
    Calls Tryd.prog 39 #[.slice (some ad) m c, .func (.func 40) #[] #[.pointer (some ⟨G, 0, none⟩)], .slice none 0 0] w (EachPost S m kids G w) := by
  have HR := Lib.hid hR
  have HE := Lib.hid hW.errs
  have HG := Lib.hid hG
  have HT := Lib.hid ht
  have HTS := Lib.hid htS
  have HK := Lib.hid hkids
  have HM := Lib.hid hm
  have HI := Lib.hid hi
  have d0 := hW.d0
  have d1 := hW.d1
  have d2 := hW.d2
  clear hR hW hG ht htS hkids hm hi
  go_enter Tryd.func39, Tryd.ntmps39
  go_wp2_with (first
    | (go_at_call 65; refine (eachCfg T V ad S t nf i E m c kids G 0 _ HR.out HE.out hA hGw HG.out hadG hadw HM.out HTS.out HT.out hS hmS hES hc HI.out hil h91 HK.out).mono ?_; rintro e w1 ⟨x, ty, v, z, n, xs, rfl, hz, ho, hn, hh, hk⟩; replace ho := Lib.hid ho; replace hh := Lib.hid hh; replace hk := Lib.hid hk))
  (try simp only [Exit.inBlock, Exit.then])
  refine bodyPost_ret (results_tmp2 rfl _ _ _) rfl ?_
  exact ⟨x, ty, v, z, n, xs, rfl, hz, ho.out, hn, hh.out, hk.out⟩
end Go.Proofs.YtcjgneomcnholaaDoor.Jp
