/-
  THE SHELF's LAYINGS AT THIS DUMP (written by the kit's lay-shelf.mjs and lay-plain.mjs for this program; cut to the three that are used): internal/strconv.small, numDigits, formatBase10.
-/
import Derived.Shelf.LaysM
import Derived.Shelf.Strconv.Itoa1
import Derived.Shelf.Strconv.Itoa2
import Derived.Test.YbulkcpveDoorProg
namespace Go.Proofs
open Go.Shelf
def Ybad.lays283_ren : Go.Shelf.Ren := ⟨fun | 283 => 8 | n => n, fun | 3 => 3 | 9 => 9 | 4 => 4 | n => n, fun | n => n⟩
theorem Ybad.lays283 : Go.Proofs.Lays.n283 Ybad.prog Ybad.lays283_ren := {
  mixed := by kernel_rfl
  f283 := Ybad.func8.trans (congrArg some (by kernel_rfl))
  t3 := Ybad.underlying3
  a3 := Ybad.isAgg3
  z3 := Ybad.sizeOf3
  v3 := Ybad.zeroValue3
  t4 := Ybad.underlying4
  a4 := Ybad.isAgg4
  z4 := Ybad.sizeOf4
  v4 := Ybad.zeroValue4
  t9 := Ybad.underlying9
  a9 := Ybad.isAgg9
  z9 := Ybad.sizeOf9
  v9 := Ybad.zeroValue9 }
def Ybad.laysM284_ren : Go.Shelf.Ren := ⟨fun | 284 => 9 | 129 => 13 | 317 => 12 | 318 => 14 | n => n, fun | 53 => 30 | 3 => 3 | 212 => 39 | 0 => 0 | 4 => 4 | 46 => 42 | 5 => 5 | 9 => 9 | n => n, fun | 17 => 0 | n => n⟩
theorem Ybad.laysM284 : Go.Proofs.LaysM.n284 Ybad.prog Ybad.laysM284_ren := {
  mixed := by kernel_rfl
  f129 := Ybad.func13.trans (congrArg some (by kernel_rfl))
  f284 := Ybad.func9.trans (congrArg some (by kernel_rfl))
  f317 := Ybad.func12.trans (congrArg some (by kernel_rfl))
  f318 := Ybad.func14.trans (congrArg some (by kernel_rfl))
  t0 := Ybad.underlying0
  a0 := Ybad.isAgg0
  z0 := Ybad.sizeOf0
  v0 := Ybad.zeroValue0
  t3 := Ybad.underlying3
  a3 := Ybad.isAgg3
  z3 := Ybad.sizeOf3
  v3 := Ybad.zeroValue3
  t4 := Ybad.underlying4
  a4 := Ybad.isAgg4
  z4 := Ybad.sizeOf4
  v4 := Ybad.zeroValue4
  t5 := Ybad.underlying5
  a5 := Ybad.isAgg5
  z5 := Ybad.sizeOf5
  v5 := Ybad.zeroValue5
  t9 := Ybad.underlying9
  a9 := Ybad.isAgg9
  z9 := Ybad.sizeOf9
  v9 := Ybad.zeroValue9
  t46 := Ybad.underlying42
  a46 := Ybad.isAgg42
  z46 := Ybad.sizeOf42
  v46 := Ybad.zeroValue42
  t53 := Ybad.underlying30
  a53 := Ybad.isAgg30
  z53 := Ybad.sizeOf30
  v53 := Ybad.zeroValue30
  t212 := Ybad.underlying39
  a212 := Ybad.isAgg39
  z212 := Ybad.sizeOf39
  v212 := Ybad.zeroValue39
  g17 := by kernel_rfl
  i0 := by kernel_rfl
  i3 := by kernel_rfl
  i4 := by kernel_rfl
  i5 := by kernel_rfl
  i9 := by kernel_rfl
  i46 := by kernel_rfl
  i53 := by kernel_rfl
  i212 := by kernel_rfl
  m17 := by kernel_rfl }
def Ybad.lays285_ren : Go.Shelf.Ren := ⟨fun | 285 => 10 | n => n, fun | 37 => 22 | 53 => 30 | 3 => 3 | 4 => 4 | 51 => 23 | 9 => 9 | 5 => 5 | 0 => 0 | n => n, fun | n => n⟩
theorem Ybad.lays285 : Go.Proofs.Lays.n285 Ybad.prog Ybad.lays285_ren := {
  mixed := by kernel_rfl
  f285 := Ybad.func10.trans (congrArg some (by kernel_rfl))
  t0 := Ybad.underlying0
  a0 := Ybad.isAgg0
  z0 := Ybad.sizeOf0
  v0 := Ybad.zeroValue0
  t3 := Ybad.underlying3
  a3 := Ybad.isAgg3
  z3 := Ybad.sizeOf3
  v3 := Ybad.zeroValue3
  t4 := Ybad.underlying4
  a4 := Ybad.isAgg4
  z4 := Ybad.sizeOf4
  v4 := Ybad.zeroValue4
  t5 := Ybad.underlying5
  a5 := Ybad.isAgg5
  z5 := Ybad.sizeOf5
  v5 := Ybad.zeroValue5
  t9 := Ybad.underlying9
  a9 := Ybad.isAgg9
  z9 := Ybad.sizeOf9
  v9 := Ybad.zeroValue9
  t37 := Ybad.underlying22
  a37 := Ybad.isAgg22
  z37 := Ybad.sizeOf22
  v37 := Ybad.zeroValue22
  t51 := Ybad.underlying23
  a51 := Ybad.isAgg23
  z51 := Ybad.sizeOf23
  v51 := Ybad.zeroValue23
  t53 := Ybad.underlying30
  a53 := Ybad.isAgg30
  z53 := Ybad.sizeOf30
  v53 := Ybad.zeroValue30 }
end Go.Proofs
