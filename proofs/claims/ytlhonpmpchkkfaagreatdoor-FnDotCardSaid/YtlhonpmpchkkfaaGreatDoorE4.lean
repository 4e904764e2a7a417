import Derived.Test.YtlhonpmpchkkfaaGreatDoorGH
import Derived.Shelf.Bits.Mul64
import Derived.Shelf.Strconv.Itoa0
import Derived.Shelf.Strconv.Itoa1
import Derived.Shelf.Strconv.Itoa2
set_option linter.unusedSimpArgs false
set_option linter.unusedVariables false
/- The library's product of 128 bits, the length of a number, its digits' count and their laying: the kit's general contracts at this program's numbers. No further condition. -/





set_option linter.unusedVariables false
namespace Go.Proofs.YtlhonpmpchkkfaaGreatDoor
open Go.Shelf Go.RowKit
def Tryz.lays264_ren : Go.Shelf.Ren := ⟨fun | 264 => 131 | n => n, fun | 53 => 123 | 46 => 128 | n => n, fun | n => n⟩
theorem Tryz.lays264 : Go.Proofs.Lays.n264 Tryz.prog Tryz.lays264_ren := {
  mixed := by kernel_rfl
  f264 := Tryz.func131.trans (congrArg some (by kernel_rfl))
  t46 := Tryz.underlying128
  a46 := Tryz.isAgg128
  z46 := Tryz.sizeOf128
  v46 := Tryz.zeroValue128
  t53 := Tryz.underlying123
  a53 := Tryz.isAgg123
  z53 := Tryz.sizeOf123
  v53 := Tryz.zeroValue123 }
def Tryz.lays129_ren : Go.Shelf.Ren := ⟨fun | 129 => 92 | n => n, fun | 53 => 123 | 3 => 3 | 4 => 4 | 46 => 128 | 5 => 5 | 9 => 9 | n => n, fun | n => n⟩
theorem Tryz.lays129 : Go.Proofs.Lays.n129 Tryz.prog Tryz.lays129_ren := {
  mixed := by kernel_rfl
  f129 := Tryz.func92.trans (congrArg some (by kernel_rfl))
  t3 := Tryz.underlying3
  a3 := Tryz.isAgg3
  z3 := Tryz.sizeOf3
  v3 := Tryz.zeroValue3
  t4 := Tryz.underlying4
  a4 := Tryz.isAgg4
  z4 := Tryz.sizeOf4
  v4 := Tryz.zeroValue4
  t5 := Tryz.underlying5
  a5 := Tryz.isAgg5
  z5 := Tryz.sizeOf5
  v5 := Tryz.zeroValue5
  t9 := Tryz.underlying9
  a9 := Tryz.isAgg9
  z9 := Tryz.sizeOf9
  v9 := Tryz.zeroValue9
  t46 := Tryz.underlying128
  a46 := Tryz.isAgg128
  z46 := Tryz.sizeOf128
  v46 := Tryz.zeroValue128
  t53 := Tryz.underlying123
  a53 := Tryz.isAgg123
  z53 := Tryz.sizeOf123
  v53 := Tryz.zeroValue123 }
def Tryz.lays284_ren : Go.Shelf.Ren := ⟨fun | 284 => 95 | 129 => 92 | 317 => 96 | 318 => 110 | n => n, fun | 53 => 123 | 3 => 3 | 212 => 190 | 0 => 0 | 4 => 4 | 46 => 128 | 5 => 5 | 9 => 9 | n => n, fun | 17 => 9 | n => n⟩
theorem Tryz.lays284 : Go.Proofs.LaysM.n284 Tryz.prog Tryz.lays284_ren := {
  mixed := by kernel_rfl
  f129 := Tryz.func92.trans (congrArg some (by kernel_rfl))
  f284 := Tryz.func95.trans (congrArg some (by kernel_rfl))
  f317 := Tryz.func96.trans (congrArg some (by kernel_rfl))
  f318 := Tryz.func110.trans (congrArg some (by kernel_rfl))
  t0 := Tryz.underlying0
  a0 := Tryz.isAgg0
  z0 := Tryz.sizeOf0
  v0 := Tryz.zeroValue0
  t3 := Tryz.underlying3
  a3 := Tryz.isAgg3
  z3 := Tryz.sizeOf3
  v3 := Tryz.zeroValue3
  t4 := Tryz.underlying4
  a4 := Tryz.isAgg4
  z4 := Tryz.sizeOf4
  v4 := Tryz.zeroValue4
  t5 := Tryz.underlying5
  a5 := Tryz.isAgg5
  z5 := Tryz.sizeOf5
  v5 := Tryz.zeroValue5
  t9 := Tryz.underlying9
  a9 := Tryz.isAgg9
  z9 := Tryz.sizeOf9
  v9 := Tryz.zeroValue9
  t46 := Tryz.underlying128
  a46 := Tryz.isAgg128
  z46 := Tryz.sizeOf128
  v46 := Tryz.zeroValue128
  t53 := Tryz.underlying123
  a53 := Tryz.isAgg123
  z53 := Tryz.sizeOf123
  v53 := Tryz.zeroValue123
  t212 := Tryz.underlying190
  a212 := Tryz.isAgg190
  z212 := Tryz.sizeOf190
  v212 := Tryz.zeroValue190
  g17 := by kernel_rfl
  i0 := by kernel_rfl
  i3 := by kernel_rfl
  i4 := by kernel_rfl
  i5 := by kernel_rfl
  i9 := by kernel_rfl
  i46 := by kernel_rfl
  i53 := by kernel_rfl
  i212 := by kernel_rfl
  m17 := by kernel_rfl }
def Tryz.lays285_ren : Go.Shelf.Ren := ⟨fun | 285 => 123 | n => n, fun | 37 => 118 | 53 => 123 | 3 => 3 | 4 => 4 | 51 => 131 | 9 => 9 | 5 => 5 | 0 => 0 | n => n, fun | n => n⟩
theorem Tryz.lays285 : Go.Proofs.Lays.n285 Tryz.prog Tryz.lays285_ren := {
  mixed := by kernel_rfl
  f285 := Tryz.func123.trans (congrArg some (by kernel_rfl))
  t0 := Tryz.underlying0
  a0 := Tryz.isAgg0
  z0 := Tryz.sizeOf0
  v0 := Tryz.zeroValue0
  t3 := Tryz.underlying3
  a3 := Tryz.isAgg3
  z3 := Tryz.sizeOf3
  v3 := Tryz.zeroValue3
  t4 := Tryz.underlying4
  a4 := Tryz.isAgg4
  z4 := Tryz.sizeOf4
  v4 := Tryz.zeroValue4
  t5 := Tryz.underlying5
  a5 := Tryz.isAgg5
  z5 := Tryz.sizeOf5
  v5 := Tryz.zeroValue5
  t9 := Tryz.underlying9
  a9 := Tryz.isAgg9
  z9 := Tryz.sizeOf9
  v9 := Tryz.zeroValue9
  t37 := Tryz.underlying118
  a37 := Tryz.isAgg118
  z37 := Tryz.sizeOf118
  v37 := Tryz.zeroValue118
  t51 := Tryz.underlying131
  a51 := Tryz.isAgg131
  z51 := Tryz.sizeOf131
  v51 := Tryz.zeroValue131
  t53 := Tryz.underlying123
  a53 := Tryz.isAgg123
  z53 := Tryz.sizeOf123
  v53 := Tryz.zeroValue123 }
theorem mulC : MulC := fun x y hx hy w => Any.bits_Mul64 Tryz.lays264 x y hx hy w
theorem lenC : LenC := fun x w hx => Any.bits_Len64 Tryz.lays129 x w (Int.natCast_nonneg _) (by omega)
theorem numC : NumC := fun u w h1 h2 ht => Any.internal_strconv_numDigits Tryz.lays284 u h1 h2 w ht
theorem fmtC : FmtC := fun blk off cap u d w hH hu h64 hs => Any.internal_strconv_formatBase10 Tryz.lays285 blk off cap u d w hH hu h64 hs
end Go.Proofs.YtlhonpmpchkkfaaGreatDoor
