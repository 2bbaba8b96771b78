import Derived.Shelf.Strconv.Itoa1
import Derived.Shelf.Strconv.Itoa2
import Derived.Shelf.LaysM
import Derived.Test.Qxb6604517aDoorProg
namespace Go.Proofs
open Go.Shelf
def Tryd.laysM284_ren : Go.Shelf.Ren := ⟨fun | 284 => 52 | 129 => 56 | 317 => 55 | 318 => 57 | n => n, fun | 53 => 37 | 3 => 3 | 212 => 93 | 0 => 0 | 4 => 4 | 46 => 52 | 5 => 5 | 9 => 9 | n => n, fun | 17 => 3 | n => n⟩
theorem Tryd.laysM284 : Go.Proofs.LaysM.n284 Tryd.prog Tryd.laysM284_ren := {
  mixed := by kernel_rfl
  f129 := Tryd.func56.trans (congrArg some (by kernel_rfl))
  f284 := Tryd.func52.trans (congrArg some (by kernel_rfl))
  f317 := Tryd.func55.trans (congrArg some (by kernel_rfl))
  f318 := Tryd.func57.trans (congrArg some (by kernel_rfl))
  t0 := Tryd.underlying0
  a0 := Tryd.isAgg0
  z0 := Tryd.sizeOf0
  v0 := Tryd.zeroValue0
  t3 := Tryd.underlying3
  a3 := Tryd.isAgg3
  z3 := Tryd.sizeOf3
  v3 := Tryd.zeroValue3
  t4 := Tryd.underlying4
  a4 := Tryd.isAgg4
  z4 := Tryd.sizeOf4
  v4 := Tryd.zeroValue4
  t5 := Tryd.underlying5
  a5 := Tryd.isAgg5
  z5 := Tryd.sizeOf5
  v5 := Tryd.zeroValue5
  t9 := Tryd.underlying9
  a9 := Tryd.isAgg9
  z9 := Tryd.sizeOf9
  v9 := Tryd.zeroValue9
  t46 := Tryd.underlying52
  a46 := Tryd.isAgg52
  z46 := Tryd.sizeOf52
  v46 := Tryd.zeroValue52
  t53 := Tryd.underlying37
  a53 := Tryd.isAgg37
  z53 := Tryd.sizeOf37
  v53 := Tryd.zeroValue37
  t212 := Tryd.underlying93
  a212 := Tryd.isAgg93
  z212 := Tryd.sizeOf93
  v212 := Tryd.zeroValue93
  g17 := by kernel_rfl
  i0 := by kernel_rfl
  i3 := by kernel_rfl
  i4 := by kernel_rfl
  i5 := by kernel_rfl
  i9 := by kernel_rfl
  i46 := by kernel_rfl
  i53 := by kernel_rfl
  i212 := by kernel_rfl
  m17 := by kernel_rfl }
def Tryd.lays285_ren : Go.Shelf.Ren := ⟨fun | 285 => 53 | n => n, fun | 37 => 22 | 53 => 37 | 3 => 3 | 4 => 4 | 51 => 94 | 9 => 9 | 5 => 5 | 0 => 0 | n => n, fun | n => n⟩
theorem Tryd.lays285 : Go.Proofs.Lays.n285 Tryd.prog Tryd.lays285_ren := {
  mixed := by kernel_rfl
  f285 := Tryd.func53.trans (congrArg some (by kernel_rfl))
  t0 := Tryd.underlying0
  a0 := Tryd.isAgg0
  z0 := Tryd.sizeOf0
  v0 := Tryd.zeroValue0
  t3 := Tryd.underlying3
  a3 := Tryd.isAgg3
  z3 := Tryd.sizeOf3
  v3 := Tryd.zeroValue3
  t4 := Tryd.underlying4
  a4 := Tryd.isAgg4
  z4 := Tryd.sizeOf4
  v4 := Tryd.zeroValue4
  t5 := Tryd.underlying5
  a5 := Tryd.isAgg5
  z5 := Tryd.sizeOf5
  v5 := Tryd.zeroValue5
  t9 := Tryd.underlying9
  a9 := Tryd.isAgg9
  z9 := Tryd.sizeOf9
  v9 := Tryd.zeroValue9
  t37 := Tryd.underlying22
  a37 := Tryd.isAgg22
  z37 := Tryd.sizeOf22
  v37 := Tryd.zeroValue22
  t51 := Tryd.underlying94
  a51 := Tryd.isAgg94
  z51 := Tryd.sizeOf94
  v51 := Tryd.zeroValue94
  t53 := Tryd.underlying37
  a53 := Tryd.isAgg37
  z53 := Tryd.sizeOf37
  v53 := Tryd.zeroValue37 }
end Go.Proofs
