/-
  THE LIBRARY's CONTRACTS ON slices.Index, Reverse, Delete, BinarySearch and Insert LAID AT THIS SEAT's DUMP, in plain words (written by the guide's lay-plain tool).
-/
import Derived.Shelf.Slices.Turned
import Derived.Shelf.Slices.Cells
import Derived.Shelf.Slices.SearchI
import Derived.Shelf.Slices.Empties
import Derived.Shelf.Spec.SlicesInsert
import Derived.Shelf.Spec.SlicesInsertGrow
import Derived.Test.Qxb6601175aProg
namespace Go.Proofs
open Go.Shelf
def Try.lays108_ren : Go.Shelf.Ren := ⟨fun | 108 => 48 | n => n, fun | 28 => 23 | 3 => 3 | 0 => 0 | 4 => 4 | n => n, fun | n => n⟩
theorem Try.lays108 : Go.Proofs.Lays.n108 Try.prog Try.lays108_ren := {
  mixed := by kernel_rfl
  f108 := Try.func48.trans (congrArg some (by kernel_rfl))
  t0 := Try.underlying0
  a0 := Try.isAgg0
  z0 := Try.sizeOf0
  v0 := Try.zeroValue0
  t3 := Try.underlying3
  a3 := Try.isAgg3
  z3 := Try.sizeOf3
  v3 := Try.zeroValue3
  t4 := Try.underlying4
  a4 := Try.isAgg4
  z4 := Try.sizeOf4
  v4 := Try.zeroValue4
  t28 := Try.underlying23
  a28 := Try.isAgg23
  z28 := Try.sizeOf23
  v28 := Try.zeroValue23 }
def Try.lays112_ren : Go.Shelf.Ren := ⟨fun | 112 => 47 | n => n, fun | 28 => 23 | 3 => 3 | 4 => 4 | 0 => 0 | n => n, fun | n => n⟩
theorem Try.lays112 : Go.Proofs.Lays.n112 Try.prog Try.lays112_ren := {
  mixed := by kernel_rfl
  f112 := Try.func47.trans (congrArg some (by kernel_rfl))
  t0 := Try.underlying0
  a0 := Try.isAgg0
  z0 := Try.sizeOf0
  v0 := Try.zeroValue0
  t3 := Try.underlying3
  a3 := Try.isAgg3
  z3 := Try.sizeOf3
  v3 := Try.zeroValue3
  t4 := Try.underlying4
  a4 := Try.isAgg4
  z4 := Try.sizeOf4
  v4 := Try.zeroValue4
  t28 := Try.underlying23
  a28 := Try.isAgg23
  z28 := Try.sizeOf23
  v28 := Try.zeroValue23 }
def Try.lays2n23_ren : Go.Shelf.Ren := ⟨fun | 23 => 49 | n => n, fun | 22 => 23 | 3 => 3 | 4 => 4 | 0 => 0 | n => n, fun | n => n⟩
theorem Try.lays2n23 : Go.Proofs.Lays2.n23 Try.prog Try.lays2n23_ren := {
  mixed := by kernel_rfl
  f23 := Try.func49.trans (congrArg some (by kernel_rfl))
  t0 := Try.underlying0
  a0 := Try.isAgg0
  z0 := Try.sizeOf0
  v0 := Try.zeroValue0
  t3 := Try.underlying3
  a3 := Try.isAgg3
  z3 := Try.sizeOf3
  v3 := Try.zeroValue3
  t4 := Try.underlying4
  a4 := Try.isAgg4
  z4 := Try.sizeOf4
  v4 := Try.zeroValue4
  t22 := Try.underlying23
  a22 := Try.isAgg23
  z22 := Try.sizeOf23
  v22 := Try.zeroValue23
  i3 := by kernel_rfl }
def Try.lays2n25_ren : Go.Shelf.Ren := ⟨fun | 25 => 50 | 31 => 52 | 32 => 53 | 37 => 56 | n => n, fun | 22 => 23 | 3 => 3 | 4 => 4 | 40 => 107 | 0 => 0 | n => n, fun | n => n⟩
theorem Try.lays2n25 : Go.Proofs.Lays2.n25 Try.prog Try.lays2n25_ren := {
  mixed := by kernel_rfl
  f25 := Try.func50.trans (congrArg some (by kernel_rfl))
  f31 := Try.func52.trans (congrArg some (by kernel_rfl))
  f32 := Try.func53.trans (congrArg some (by kernel_rfl))
  f37 := Try.func56.trans (congrArg some (by kernel_rfl))
  t0 := Try.underlying0
  a0 := Try.isAgg0
  z0 := Try.sizeOf0
  v0 := Try.zeroValue0
  t3 := Try.underlying3
  a3 := Try.isAgg3
  z3 := Try.sizeOf3
  v3 := Try.zeroValue3
  t4 := Try.underlying4
  a4 := Try.isAgg4
  z4 := Try.sizeOf4
  v4 := Try.zeroValue4
  t22 := Try.underlying23
  a22 := Try.isAgg23
  z22 := Try.sizeOf23
  v22 := Try.zeroValue23
  t40 := Try.underlying107
  a40 := Try.isAgg107
  z40 := Try.sizeOf107
  v40 := Try.zeroValue107 }
def Try.lays2n21_ren : Go.Shelf.Ren := ⟨fun | 21 => 51 | 27 => 54 | 28 => 55 | 35 => 57 | 39 => 47 | n => n, fun | 22 => 23 | 3 => 3 | 4 => 4 | 0 => 0 | n => n, fun | n => n⟩
theorem Try.lays2n21 : Go.Proofs.Lays2.n21 Try.prog Try.lays2n21_ren := {
  mixed := by kernel_rfl
  f21 := Try.func51.trans (congrArg some (by kernel_rfl))
  f27 := Try.func54.trans (congrArg some (by kernel_rfl))
  f28 := Try.func55.trans (congrArg some (by kernel_rfl))
  f35 := Try.func57.trans (congrArg some (by kernel_rfl))
  f39 := Try.func47.trans (congrArg some (by kernel_rfl))
  t0 := Try.underlying0
  a0 := Try.isAgg0
  z0 := Try.sizeOf0
  v0 := Try.zeroValue0
  t3 := Try.underlying3
  a3 := Try.isAgg3
  z3 := Try.sizeOf3
  v3 := Try.zeroValue3
  t4 := Try.underlying4
  a4 := Try.isAgg4
  z4 := Try.sizeOf4
  v4 := Try.zeroValue4
  t22 := Try.underlying23
  a22 := Try.isAgg23
  z22 := Try.sizeOf23
  v22 := Try.zeroValue23
  i3 := by kernel_rfl }
end Go.Proofs
