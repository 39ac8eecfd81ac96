/-
  THE LIBRARY's CONTRACT ON strings.HasPrefix LAID AT THIS SEAT's DUMP, in plain words (written by the guide's lay-plain tool).
-/
import Derived.Shelf.Strings.Prefix
import Derived.Test.Qxb6601198aProg
namespace Go.Proofs
open Go.Shelf
def Try.lays99_ren : Go.Shelf.Ren := ⟨fun | 99 => 22 | 206 => 25 | n => n, fun | 9 => 9 | 4 => 4 | 3 => 3 | n => n, fun | n => n⟩
theorem Try.lays99 : Go.Proofs.Lays.n99 Try.prog Try.lays99_ren := {
  mixed := by kernel_rfl
  f99 := Try.func22.trans (congrArg some (by kernel_rfl))
  f206 := Try.func25.trans (congrArg some (by kernel_rfl))
  t3 := Try.underlying3
  a3 := Try.isAgg3
  z3 := Try.sizeOf3
  v3 := Try.zeroValue3
  t4 := Try.underlying4
  a4 := Try.isAgg4
  z4 := Try.sizeOf4
  v4 := Try.zeroValue4
  t9 := Try.underlying9
  a9 := Try.isAgg9
  z9 := Try.sizeOf9
  v9 := Try.zeroValue9 }
end Go.Proofs
