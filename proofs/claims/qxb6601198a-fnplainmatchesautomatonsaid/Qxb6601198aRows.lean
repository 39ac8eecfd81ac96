/-
  No cell of these rows narrows 'for every input' (looked for: loops, veiled, ifaces, maps, wideKeys, modest, calm, conditions, laid).
  DERIVED. THE GIVEN ROWS OF THIS SEAT. 5 by the template 'for every input the law returns true; each argument reads behind the call as it read before'; 0 by the template 'total and deterministic' (their statements: Qxb6601198aTotals.lean).
  GIVEN WITH THE SEED: the statements are not yours to turn. If you find one false, say at which input.
  Laid BY PROGRAM, IN A SANDBOX (cutbox-rows.mjs): the forced cells as the released guide's own fill.sh prints them over the translation f1de435d0d9d6fae… (all of the seat's roots in one cut). By AI agents, Wed Nov 11 2026. No macro, syntax, notation, axiom, sorry.
-/
import Derived.Test.Qxb6601198aChecked
import GoSem.Claim
import GoSem.ClaimJoined
import GoSem.ClaimMapViews
import Derived.JoinedTies
import Derived.KernelRfl
namespace Go.Proofs.Qxb6601198a
/- THE CELL 'sum', in the pinned program and in every row, IS THE sha256 OF THE DUMP (.gsa) THAT Qxb6601198aProg.lean LOADS. Nothing in Lean hashes anything: it is a label: what it is worth is what the hold of that sum in a sandbox is worth. -/
noncomputable def Try.pinned : Pinned := { name := "qxb6601198a", sum := "f1de435d0d9d6faef57f3d6742bd4b982602e40835204a7c807e81541ed3c9dc", checked := Try.checked }
namespace Rows
def none {H : Type} : Left H := { results := [], args := [] }

/-- 'zzlaws_internal_document_b1.FnPlainMatchesAutomaton': WHATEVER THE INPUT: true; the input reads as it did. -/
def fnPlainMatchesAutomatonSpec : ChangeSpec := { name := "fnPlainMatchesAutomaton", fn := fun _ => fun
  | [d1, d2] => { results := [.lit (.bool true)], args := [d1, d2] }
  | _ => none }
def fnPlainMatchesAutomatonRow : OpenClaim := { program := "qxb6601198a", sum := "f1de435d0d9d6faef57f3d6742bd4b982602e40835204a7c807e81541ed3c9dc", func := "example.com/kindcheck/kindcheck/zzlaws_internal_document_b1.FnPlainMatchesAutomaton", spec := "fnPlainMatchesAutomaton", apart := false }
def FnPlainMatchesAutomatonSaid : Prop := fnPlainMatchesAutomatonRow.holds Try.pinned (OpenSpec.ofChange fnPlainMatchesAutomatonSpec)

/-- ITS FALSE NEIGHBOUR: 'it returns false'. Refute it at one input. -/
def fnPlainMatchesAutomatonWrong : ChangeSpec := { name := "fnPlainMatchesAutomaton", fn := fun _ => fun
  | [d1, d2] => { results := [.lit (.bool false)], args := [d1, d2] }
  | _ => none }
def FnPlainMatchesAutomatonWrongFalsely : Prop := fnPlainMatchesAutomatonRow.holds Try.pinned (OpenSpec.ofChange fnPlainMatchesAutomatonWrong)

/-- 'zzlaws_internal_document_b1.FnPlainWordReadsAloneWhole': WHATEVER THE INPUT: true; the input reads as it did. -/
def fnPlainWordReadsAloneWholeSpec : ChangeSpec := { name := "fnPlainWordReadsAloneWhole", fn := fun _ => fun
  | [d1, d2] => { results := [.lit (.bool true)], args := [d1, d2] }
  | _ => none }
def fnPlainWordReadsAloneWholeRow : OpenClaim := { program := "qxb6601198a", sum := "f1de435d0d9d6faef57f3d6742bd4b982602e40835204a7c807e81541ed3c9dc", func := "example.com/kindcheck/kindcheck/zzlaws_internal_document_b1.FnPlainWordReadsAloneWhole", spec := "fnPlainWordReadsAloneWhole", apart := false }
def FnPlainWordReadsAloneWholeSaid : Prop := fnPlainWordReadsAloneWholeRow.holds Try.pinned (OpenSpec.ofChange fnPlainWordReadsAloneWholeSpec)

/-- ITS FALSE NEIGHBOUR: 'it returns false'. Refute it at one input. -/
def fnPlainWordReadsAloneWholeWrong : ChangeSpec := { name := "fnPlainWordReadsAloneWhole", fn := fun _ => fun
  | [d1, d2] => { results := [.lit (.bool false)], args := [d1, d2] }
  | _ => none }
def FnPlainWordReadsAloneWholeWrongFalsely : Prop := fnPlainWordReadsAloneWholeRow.holds Try.pinned (OpenSpec.ofChange fnPlainWordReadsAloneWholeWrong)

/-- 'zzlaws_internal_document_b1.FnUtf8ShapedMatchesPendingCount': WHATEVER THE INPUT: true; the input reads as it did. -/
def fnUtf8ShapedMatchesPendingCountSpec : ChangeSpec := { name := "fnUtf8ShapedMatchesPendingCount", fn := fun _ => fun
  | [d] => { results := [.lit (.bool true)], args := [d] }
  | _ => none }
def fnUtf8ShapedMatchesPendingCountRow : OpenClaim := { program := "qxb6601198a", sum := "f1de435d0d9d6faef57f3d6742bd4b982602e40835204a7c807e81541ed3c9dc", func := "example.com/kindcheck/kindcheck/zzlaws_internal_document_b1.FnUtf8ShapedMatchesPendingCount", spec := "fnUtf8ShapedMatchesPendingCount", apart := false }
def FnUtf8ShapedMatchesPendingCountSaid : Prop := fnUtf8ShapedMatchesPendingCountRow.holds Try.pinned (OpenSpec.ofChange fnUtf8ShapedMatchesPendingCountSpec)

/-- ITS FALSE NEIGHBOUR: 'it returns false'. Refute it at one input. -/
def fnUtf8ShapedMatchesPendingCountWrong : ChangeSpec := { name := "fnUtf8ShapedMatchesPendingCount", fn := fun _ => fun
  | [d] => { results := [.lit (.bool false)], args := [d] }
  | _ => none }
def FnUtf8ShapedMatchesPendingCountWrongFalsely : Prop := fnUtf8ShapedMatchesPendingCountRow.holds Try.pinned (OpenSpec.ofChange fnUtf8ShapedMatchesPendingCountWrong)

/-- 'zzlaws_internal_document_b1.FnUtf8ShapedPiecesCancel': WHATEVER THE INPUT: true; the input reads as it did. -/
def fnUtf8ShapedPiecesCancelSpec : ChangeSpec := { name := "fnUtf8ShapedPiecesCancel", fn := fun _ => fun
  | [d1, d2] => { results := [.lit (.bool true)], args := [d1, d2] }
  | _ => none }
def fnUtf8ShapedPiecesCancelRow : OpenClaim := { program := "qxb6601198a", sum := "f1de435d0d9d6faef57f3d6742bd4b982602e40835204a7c807e81541ed3c9dc", func := "example.com/kindcheck/kindcheck/zzlaws_internal_document_b1.FnUtf8ShapedPiecesCancel", spec := "fnUtf8ShapedPiecesCancel", apart := false }
def FnUtf8ShapedPiecesCancelSaid : Prop := fnUtf8ShapedPiecesCancelRow.holds Try.pinned (OpenSpec.ofChange fnUtf8ShapedPiecesCancelSpec)

/-- ITS FALSE NEIGHBOUR: 'it returns false'. Refute it at one input. -/
def fnUtf8ShapedPiecesCancelWrong : ChangeSpec := { name := "fnUtf8ShapedPiecesCancel", fn := fun _ => fun
  | [d1, d2] => { results := [.lit (.bool false)], args := [d1, d2] }
  | _ => none }
def FnUtf8ShapedPiecesCancelWrongFalsely : Prop := fnUtf8ShapedPiecesCancelRow.holds Try.pinned (OpenSpec.ofChange fnUtf8ShapedPiecesCancelWrong)

/-- 'zzlaws_internal_document_b1.FnUtf8ShapedCutsAtLeadBytes': WHATEVER THE INPUT: true; the input reads as it did. -/
def fnUtf8ShapedCutsAtLeadBytesSpec : ChangeSpec := { name := "fnUtf8ShapedCutsAtLeadBytes", fn := fun _ => fun
  | [d1, d2] => { results := [.lit (.bool true)], args := [d1, d2] }
  | _ => none }
def fnUtf8ShapedCutsAtLeadBytesRow : OpenClaim := { program := "qxb6601198a", sum := "f1de435d0d9d6faef57f3d6742bd4b982602e40835204a7c807e81541ed3c9dc", func := "example.com/kindcheck/kindcheck/zzlaws_internal_document_b1.FnUtf8ShapedCutsAtLeadBytes", spec := "fnUtf8ShapedCutsAtLeadBytes", apart := false }
def FnUtf8ShapedCutsAtLeadBytesSaid : Prop := fnUtf8ShapedCutsAtLeadBytesRow.holds Try.pinned (OpenSpec.ofChange fnUtf8ShapedCutsAtLeadBytesSpec)

/-- ITS FALSE NEIGHBOUR: 'it returns false'. Refute it at one input. -/
def fnUtf8ShapedCutsAtLeadBytesWrong : ChangeSpec := { name := "fnUtf8ShapedCutsAtLeadBytes", fn := fun _ => fun
  | [d1, d2] => { results := [.lit (.bool false)], args := [d1, d2] }
  | _ => none }
def FnUtf8ShapedCutsAtLeadBytesWrongFalsely : Prop := fnUtf8ShapedCutsAtLeadBytesRow.holds Try.pinned (OpenSpec.ofChange fnUtf8ShapedCutsAtLeadBytesWrong)

end Rows
end Go.Proofs.Qxb6601198a
