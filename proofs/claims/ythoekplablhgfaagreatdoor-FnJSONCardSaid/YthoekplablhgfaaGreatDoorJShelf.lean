/-
  What the library's contract on bytes.growSlice asks of this program: printed by the shelf's own program.
-/
import Derived.Shelf.Bytes.GrowSlice
import Derived.Ground.NamesProg
import Derived.Test.YthoekplablhgfaaGreatDoorProg
namespace Go.Proofs
open Go.Shelf
def Tryz.laysM290_ren : Go.Shelf.Ren := ⟨fun | 290 => 144 | 324 => 145 | n => n, fun | 37 => 44 | 3 => 3 | 0 => 0 | 4 => 4 | 20 => 20 | 75 => 46 | 5 => 5 | 80 => 38 | 9 => 9 | n => n, fun | 14 => 8 | n => n⟩
theorem Tryz.laysM290 : Go.Proofs.LaysM.n290 Tryz.prog Tryz.laysM290_ren := {
  mixed := by kernel_rfl
  f290 := Tryz.func144.trans (congrArg some (by kernel_rfl))
  f324 := Tryz.func145.trans (congrArg some (by kernel_rfl))
  t0 := Tryz.underlying0
  a0 := Tryz.isAgg0
  z0 := Tryz.sizeOf0
  v0 := Tryz.zeroValue0
  t3 := Tryz.underlying3
  a3 := Tryz.isAgg3
  z3 := Tryz.sizeOf3
  v3 := Tryz.zeroValue3
  t4 := Tryz.underlying4
  a4 := Tryz.isAgg4
  z4 := Tryz.sizeOf4
  v4 := Tryz.zeroValue4
  t20 := Tryz.underlying20
  a20 := Tryz.isAgg20
  z20 := Tryz.sizeOf20
  v20 := Tryz.zeroValue20
  t37 := Tryz.underlying44
  a37 := Tryz.isAgg44
  z37 := Tryz.sizeOf44
  v37 := Tryz.zeroValue44
  t75 := Tryz.underlying46
  a75 := Tryz.isAgg46
  z75 := Tryz.sizeOf46
  v75 := Tryz.zeroValue46
  g14 := by kernel_rfl
  t5 := Tryz.underlying5
  a5 := Tryz.isAgg5
  z5 := Tryz.sizeOf5
  v5 := Tryz.zeroValue5
  t9 := Tryz.underlying9
  a9 := Tryz.isAgg9
  z9 := Tryz.sizeOf9
  v9 := Tryz.zeroValue9
  t80 := Tryz.underlying38
  a80 := Tryz.isAgg38
  z80 := Tryz.sizeOf38
  v80 := Tryz.zeroValue38
  i0 := by kernel_rfl
  i3 := by kernel_rfl
  i4 := by kernel_rfl
  i5 := by kernel_rfl
  i9 := by kernel_rfl
  i20 := by kernel_rfl
  i37 := by kernel_rfl
  i75 := by kernel_rfl
  i80 := by kernel_rfl
  m14 := by kernel_rfl }
end Go.Proofs
