/- utf8.EncodeRune: the kit's contract, laid at this seat's numbers. -/
import Derived.Test.YtkdkdhcjpgmjdaaGreatDoorProg
import Derived.Test.YtkdkdhcjpgmjdaaGreatDoorChecked
import Derived.Shelf.Spec.EncodeRune
import Derived.Shelf.Lays7
namespace Go.Proofs.YtkdkdhcjpgmjdaaGreatDoor
open Go.Shelf
set_option maxRecDepth 100000

def renEnc : Ren where
  f := fun n => match n with | 30 => 108 | 47 => 118 | _ => 0
  t := fun n => match n with | 0 => 0 | 3 => 3 | 4 => 4 | 5 => 5 | 21 => 21 | 25 => 168 | 27 => 179 | 30 => 59 | _ => 0
  g := fun _ => 0
theorem laysEnc : Go.Proofs.Lays7.n30 Tryz.prog renEnc := {
  mixed := by kernel_rfl
  f30 := Tryz.func108.trans (congrArg some (by kernel_rfl))
  f47 := Tryz.func118.trans (congrArg some (by kernel_rfl))
  t0 := Tryz.underlying0
  a0 := Tryz.isAgg0
  z0 := Tryz.sizeOf0
  v0 := Tryz.zeroValue0
  i0 := by kernel_rfl
  t3 := Tryz.underlying3
  a3 := Tryz.isAgg3
  z3 := Tryz.sizeOf3
  v3 := Tryz.zeroValue3
  i3 := by kernel_rfl
  t4 := Tryz.underlying4
  a4 := Tryz.isAgg4
  z4 := Tryz.sizeOf4
  v4 := Tryz.zeroValue4
  i4 := by kernel_rfl
  t5 := Tryz.underlying5
  a5 := Tryz.isAgg5
  z5 := Tryz.sizeOf5
  v5 := Tryz.zeroValue5
  i5 := by kernel_rfl
  t21 := Tryz.underlying21
  a21 := Tryz.isAgg21
  z21 := Tryz.sizeOf21
  v21 := Tryz.zeroValue21
  i21 := by kernel_rfl
  t25 := Tryz.underlying168
  a25 := Tryz.isAgg168
  z25 := Tryz.sizeOf168
  v25 := Tryz.zeroValue168
  i25 := by kernel_rfl
  t27 := Tryz.underlying179
  a27 := Tryz.isAgg179
  z27 := Tryz.sizeOf179
  v27 := Tryz.zeroValue179
  i27 := by kernel_rfl
  t30 := Tryz.underlying59
  a30 := Tryz.isAgg59
  z30 := Tryz.sizeOf59
  v30 := Tryz.zeroValue59
  i30 := by kernel_rfl }
theorem encodeRuneW (b off len cap : Nat) (r : Int) (hlo : -2147483648 ≤ r) (hhi : r ≤ 2147483647) (w : World) (hl : (Lib.runeCells r).length ≤ len)
    (hc : ∀ j, j < (Lib.runeCells r).length → (w.cell? ⟨b, off + j, none⟩).isSome = true) (hf : ∀ j, j < (Lib.runeCells r).length → w.frozen? ⟨b, off + j, none⟩ = false) :
    Calls Tryz.prog 108 #[.slice (some ⟨b, off, none⟩) len cap, .int .i32 r] w fun e w' => e = .returned (.int .i64 (Lib.runeCells r).length) ∧ w' = w.setCells b off (Lib.runeCells r) :=
  Any7.utf8_EncodeRune laysEnc b off len cap r hlo hhi w hl hc hf
end Go.Proofs.YtkdkdhcjpgmjdaaGreatDoor
