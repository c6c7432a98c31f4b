/- utf8.EncodeRune: the kit's contract, laid at this seat's numbers. -/
import Derived.Test.YtkdkdhcjpgmjdaaDoorProg
import Derived.Test.YtkdkdhcjpgmjdaaDoorChecked
import Derived.Shelf.Spec.EncodeRune
import Derived.Shelf.Lays7
namespace Go.Proofs.YtkdkdhcjpgmjdaaDoor
open Go.Shelf
set_option maxRecDepth 100000

def renEnc : Ren where
  f := fun n => match n with | 30 => 80 | 47 => 89 | _ => 0
  t := fun n => match n with | 0 => 0 | 3 => 3 | 4 => 4 | 5 => 5 | 21 => 21 | 25 => 125 | 27 => 136 | 30 => 58 | _ => 0
  g := fun _ => 0
theorem laysEnc : Go.Proofs.Lays7.n30 Tryd.prog renEnc := {
  mixed := by kernel_rfl
  f30 := Tryd.func80.trans (congrArg some (by kernel_rfl))
  f47 := Tryd.func89.trans (congrArg some (by kernel_rfl))
  t0 := Tryd.underlying0
  a0 := Tryd.isAgg0
  z0 := Tryd.sizeOf0
  v0 := Tryd.zeroValue0
  i0 := by kernel_rfl
  t3 := Tryd.underlying3
  a3 := Tryd.isAgg3
  z3 := Tryd.sizeOf3
  v3 := Tryd.zeroValue3
  i3 := by kernel_rfl
  t4 := Tryd.underlying4
  a4 := Tryd.isAgg4
  z4 := Tryd.sizeOf4
  v4 := Tryd.zeroValue4
  i4 := by kernel_rfl
  t5 := Tryd.underlying5
  a5 := Tryd.isAgg5
  z5 := Tryd.sizeOf5
  v5 := Tryd.zeroValue5
  i5 := by kernel_rfl
  t21 := Tryd.underlying21
  a21 := Tryd.isAgg21
  z21 := Tryd.sizeOf21
  v21 := Tryd.zeroValue21
  i21 := by kernel_rfl
  t25 := Tryd.underlying125
  a25 := Tryd.isAgg125
  z25 := Tryd.sizeOf125
  v25 := Tryd.zeroValue125
  i25 := by kernel_rfl
  t27 := Tryd.underlying136
  a27 := Tryd.isAgg136
  z27 := Tryd.sizeOf136
  v27 := Tryd.zeroValue136
  i27 := by kernel_rfl
  t30 := Tryd.underlying58
  a30 := Tryd.isAgg58
  z30 := Tryd.sizeOf58
  v30 := Tryd.zeroValue58
  i30 := by kernel_rfl }
theorem encodeRuneW (b off len cap : Nat) (r : Int) (hlo : -2147483648 ≤ r) (hhi : r ≤ 2147483647) (w : World) (hl : (Lib.runeCells r).length ≤ len)
    (hc : ∀ j, j < (Lib.runeCells r).length → (w.cell? ⟨b, off + j, none⟩).isSome = true) (hf : ∀ j, j < (Lib.runeCells r).length → w.frozen? ⟨b, off + j, none⟩ = false) :
    Calls Tryd.prog 80 #[.slice (some ⟨b, off, none⟩) len cap, .int .i32 r] w fun e w' => e = .returned (.int .i64 (Lib.runeCells r).length) ∧ w' = w.setCells b off (Lib.runeCells r) :=
  Any7.utf8_EncodeRune laysEnc b off len cap r hlo hhi w hl hc hf
end Go.Proofs.YtkdkdhcjpgmjdaaDoor
