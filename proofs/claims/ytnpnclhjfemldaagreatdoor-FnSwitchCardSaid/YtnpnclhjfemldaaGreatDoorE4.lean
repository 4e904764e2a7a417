/- The library's product of 128 bits, the length of a number, its digits' count and their laying: the kit's general contracts at this program's numbers. No further condition. -/
import Derived.Test.YtnpnclhjfemldaaGreatDoorA5
import Derived.Shelf.Bits.Mul64
import Derived.Shelf.Strconv.Itoa0
import Derived.Shelf.Strconv.Itoa1
import Derived.Shelf.Strconv.Itoa2
set_option linter.unusedVariables false
namespace Go.Proofs.YtnpnclhjfemldaaGreatDoor
open Go.Shelf Go.RowKit
def Tryz.lays264_ren : Go.Shelf.Ren := ⟨fun | 264 => 263 | n => n, fun | 53 => 172 | 46 => 192 | n => n, fun | n => n⟩
theorem Tryz.lays264 : Go.Proofs.Lays.n264 Tryz.prog Tryz.lays264_ren := {
  mixed := by kernel_rfl
  f264 := Tryz.func263.trans (congrArg some (by kernel_rfl))
  t46 := Tryz.underlying192
  a46 := Tryz.isAgg192
  z46 := Tryz.sizeOf192
  v46 := Tryz.zeroValue192
  t53 := Tryz.underlying172
  a53 := Tryz.isAgg172
  z53 := Tryz.sizeOf172
  v53 := Tryz.zeroValue172 }
def Tryz.lays129_ren : Go.Shelf.Ren := ⟨fun | 129 => 230 | n => n, fun | 53 => 172 | 3 => 3 | 4 => 4 | 46 => 192 | 5 => 5 | 9 => 9 | n => n, fun | n => n⟩
theorem Tryz.lays129 : Go.Proofs.Lays.n129 Tryz.prog Tryz.lays129_ren := {
  mixed := by kernel_rfl
  f129 := Tryz.func230.trans (congrArg some (by kernel_rfl))
  t3 := Tryz.underlying3
  a3 := Tryz.isAgg3
  z3 := Tryz.sizeOf3
  v3 := Tryz.zeroValue3
  t4 := Tryz.underlying4
  a4 := Tryz.isAgg4
  z4 := Tryz.sizeOf4
  v4 := Tryz.zeroValue4
  t5 := Tryz.underlying5
  a5 := Tryz.isAgg5
  z5 := Tryz.sizeOf5
  v5 := Tryz.zeroValue5
  t9 := Tryz.underlying9
  a9 := Tryz.isAgg9
  z9 := Tryz.sizeOf9
  v9 := Tryz.zeroValue9
  t46 := Tryz.underlying192
  a46 := Tryz.isAgg192
  z46 := Tryz.sizeOf192
  v46 := Tryz.zeroValue192
  t53 := Tryz.underlying172
  a53 := Tryz.isAgg172
  z53 := Tryz.sizeOf172
  v53 := Tryz.zeroValue172 }
def Tryz.lays284_ren : Go.Shelf.Ren := ⟨fun | 284 => 233 | 129 => 230 | 317 => 234 | 318 => 252 | n => n, fun | 53 => 172 | 3 => 3 | 212 => 205 | 0 => 0 | 4 => 4 | 46 => 192 | 5 => 5 | 9 => 9 | n => n, fun | 17 => 2 | n => n⟩
theorem Tryz.lays284 : Go.Proofs.LaysM.n284 Tryz.prog Tryz.lays284_ren := {
  mixed := by kernel_rfl
  f129 := Tryz.func230.trans (congrArg some (by kernel_rfl))
  f284 := Tryz.func233.trans (congrArg some (by kernel_rfl))
  f317 := Tryz.func234.trans (congrArg some (by kernel_rfl))
  f318 := Tryz.func252.trans (congrArg some (by kernel_rfl))
  t0 := Tryz.underlying0
  a0 := Tryz.isAgg0
  z0 := Tryz.sizeOf0
  v0 := Tryz.zeroValue0
  t3 := Tryz.underlying3
  a3 := Tryz.isAgg3
  z3 := Tryz.sizeOf3
  v3 := Tryz.zeroValue3
  t4 := Tryz.underlying4
  a4 := Tryz.isAgg4
  z4 := Tryz.sizeOf4
  v4 := Tryz.zeroValue4
  t5 := Tryz.underlying5
  a5 := Tryz.isAgg5
  z5 := Tryz.sizeOf5
  v5 := Tryz.zeroValue5
  t9 := Tryz.underlying9
  a9 := Tryz.isAgg9
  z9 := Tryz.sizeOf9
  v9 := Tryz.zeroValue9
  t46 := Tryz.underlying192
  a46 := Tryz.isAgg192
  z46 := Tryz.sizeOf192
  v46 := Tryz.zeroValue192
  t53 := Tryz.underlying172
  a53 := Tryz.isAgg172
  z53 := Tryz.sizeOf172
  v53 := Tryz.zeroValue172
  t212 := Tryz.underlying205
  a212 := Tryz.isAgg205
  z212 := Tryz.sizeOf205
  v212 := Tryz.zeroValue205
  g17 := by kernel_rfl
  i0 := by kernel_rfl
  i3 := by kernel_rfl
  i4 := by kernel_rfl
  i5 := by kernel_rfl
  i9 := by kernel_rfl
  i46 := by kernel_rfl
  i53 := by kernel_rfl
  i212 := by kernel_rfl
  m17 := by kernel_rfl }
def Tryz.lays285_ren : Go.Shelf.Ren := ⟨fun | 285 => 251 | n => n, fun | 37 => 145 | 53 => 172 | 3 => 3 | 4 => 4 | 51 => 174 | 9 => 9 | 5 => 5 | 0 => 0 | n => n, fun | n => n⟩
theorem Tryz.lays285 : Go.Proofs.Lays.n285 Tryz.prog Tryz.lays285_ren := {
  mixed := by kernel_rfl
  f285 := Tryz.func251.trans (congrArg some (by kernel_rfl))
  t0 := Tryz.underlying0
  a0 := Tryz.isAgg0
  z0 := Tryz.sizeOf0
  v0 := Tryz.zeroValue0
  t3 := Tryz.underlying3
  a3 := Tryz.isAgg3
  z3 := Tryz.sizeOf3
  v3 := Tryz.zeroValue3
  t4 := Tryz.underlying4
  a4 := Tryz.isAgg4
  z4 := Tryz.sizeOf4
  v4 := Tryz.zeroValue4
  t5 := Tryz.underlying5
  a5 := Tryz.isAgg5
  z5 := Tryz.sizeOf5
  v5 := Tryz.zeroValue5
  t9 := Tryz.underlying9
  a9 := Tryz.isAgg9
  z9 := Tryz.sizeOf9
  v9 := Tryz.zeroValue9
  t37 := Tryz.underlying145
  a37 := Tryz.isAgg145
  z37 := Tryz.sizeOf145
  v37 := Tryz.zeroValue145
  t51 := Tryz.underlying174
  a51 := Tryz.isAgg174
  z51 := Tryz.sizeOf174
  v51 := Tryz.zeroValue174
  t53 := Tryz.underlying172
  a53 := Tryz.isAgg172
  z53 := Tryz.sizeOf172
  v53 := Tryz.zeroValue172 }
theorem mulC : MulC := fun x y hx hy w => Any.bits_Mul64 Tryz.lays264 x y hx hy w
theorem lenC : LenC := fun x w hx => Any.bits_Len64 Tryz.lays129 x w (Int.natCast_nonneg _) (by omega)
theorem numC : NumC := fun u w h1 h2 ht => Any.internal_strconv_numDigits Tryz.lays284 u h1 h2 w ht
theorem fmtC : FmtC := fun blk off cap u d w hH hu h64 hs => Any.internal_strconv_formatBase10 Tryz.lays285 blk off cap u d w hH hu h64 hs
end Go.Proofs.YtnpnclhjfemldaaGreatDoor
