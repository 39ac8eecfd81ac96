/-
  WHAT THE ROWS' LISTED VARIABLES GIVE THE WALKS (the two sentinels of strconv), and that the door's own heap meets the list.
-/
import Derived.Test.Qxb6600430aDoorRows
import Derived.Test.Qxb6600430aDoorBack
import Derived.ProofKit
import Derived.LaidMore
import Derived.OpenShut
import Derived.Stop.Joined
import Derived.Stop.LaidErr
namespace Go.Proofs.Qxb6600430aDoor
open Go.ChangeShapes Go.WideShapes Go.ChangeAt Go.WideMaps Go.WideElems Go.RowKit

/-- the list that every row of this seat bears -/
abbrev laid5 : List (String × DataW Unit) := Rows.fnParseNumberReadsBackEveryNumberRow.laid

theorem own : ownKnob Tryd.prog.godebug = none := by kernel_rfl
theorem tSyn : (Tryd.prog.globals[0]?).map (·.type) = some 34 := by kernel_rfl
theorem tRng : (Tryd.prog.globals[1]?).map (·.type) = some 34 := by kernel_rfl
theorem cells56 : Tryd.prog.cellsOf 56 = 1 := by kernel_rfl
theorem cells9 : Tryd.prog.cellsOf 9 = 1 := by kernel_rfl
theorem star : "*" ++ "errors.errorString" = "*errors.errorString" := by decide
/-- THE ONE ROW OF THAT NAME. -/
theorem row54 (u : TypeId) (h : Tryd.prog.typeName? 3 u = some "*errors.errorString") : u = 54 :=
  typeName_ptr_named (nm := "errors.errorString") (by rw [star]; kernel_rfl) (by kernel_rfl) (by decide) u (by rw [star]; exact h)

/-- The door's own heap meets the list. -/
theorem door_met (os : Os) (args : Array Value) : laidMetH Tryd.prog laid5 ((World.doorLaid Tryd.prog 62 os).forCall (fun _ _ => 0) ⟨#[], args, []⟩).memory :=
  laidMetH_of_parts3 (fuel := 8) (laidMet_of_run' 8 (by kernel_rfl) (by kernel_rfl)) (by kernel_rfl) (by kernel_rfl)

/-- What the list gives: both sentinels are interface values. -/
theorem of_laid {W : World} (h : laidMetH Tryd.prog laid5 W) : ∃ p0 p1, W.var? Tryd.prog "strconv.ErrSyntax" = some #[.iface 54 p0] ∧ W.var? Tryd.prog "strconv.ErrRange" = some #[.iface 54 p1] := by
  rw [MakeChecks.laidMetH_plain _ _ _ (by kernel_rfl)] at h
  obtain ⟨a1, s1, hv1, -, -, -⟩ := laid_sentinel h.tail.tail.tail gRng tRng Tryd.underlying34 row54 Tryd.underlying54 Tryd.underlying56 rfl rfl Tryd.underlying9 cells56 cells9
  obtain ⟨a0, s0, hv0, -, -, -⟩ := laid_sentinel h.tail.tail.tail.tail gSyn tSyn Tryd.underlying34 row54 Tryd.underlying54 Tryd.underlying56 rfl rfl Tryd.underlying9 cells56 cells9
  exact ⟨_, _, hv0, hv1⟩
end Go.Proofs.Qxb6600430aDoor
