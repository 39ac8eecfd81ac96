/-
  DERIVED. GIVEN WITH THE SEED: THE CARDS: each row of Qxb6600430aDoorRows.lean that lists a variable, with what it lists TIED to the program's text (the seventh form; the later family's looks); each row that meets fmt, with fmt's text TOLD by the authors' own Lean function (tested against real Go, not proved from fmt's source: count such statements apart). THE CARD IS WHAT COUNTS. Prove the row's statement (the work); the ties are given (Qxb6600430aDoorTie.lean); close each card by the builder's one call (the guide's Derived/Test/ToyasCard.lean, 'card_holds'). Laid BY PROGRAM, IN A SANDBOX (cutbox-door.mjs). By AI agents, Wed Nov 11 2026. No macro, syntax, notation, axiom, sorry.
-/
import Derived.Test.Qxb6600430aDoorRows
import GoSem.ClaimSeven
namespace Go.Proofs.Qxb6600430aDoor
namespace Rows

/-- THE TIED CARD OF 'zzlaws_internal_mirror_b1.FnParseNumberMatchesDecimalModel'. -/
def fnParseNumberMatchesDecimalModelCard : Claim7 := { stood := { row := fnParseNumberMatchesDecimalModelRow, standIns := [], harness := (true, "f5d389b0b4a52591e901f1afc83d372723a2620543beb9eb956ebd4a521f7d86"), looks := true }, kinds := [], alts := [], laidByText := true, laidKinds := [.data, .data, .data, .sentinel, .sentinel], laidTests := true, laidLooks := .later }
def FnParseNumberMatchesDecimalModelCardSaid : Prop := Claim7.holds Tryd.pinned (.plain (OpenSpec.ofChange fnParseNumberMatchesDecimalModelSpec)) fnParseNumberMatchesDecimalModelCard

/-- THE TIED CARD OF 'zzlaws_internal_mirror_b1.FnParseNumberAcceptsOnlyCanonicalText'. -/
def fnParseNumberAcceptsOnlyCanonicalTextCard : Claim7 := { stood := { row := fnParseNumberAcceptsOnlyCanonicalTextRow, standIns := [], harness := (true, "f5d389b0b4a52591e901f1afc83d372723a2620543beb9eb956ebd4a521f7d86"), looks := true }, kinds := [], alts := [], laidByText := true, laidKinds := [.data, .data, .data, .sentinel, .sentinel], laidTests := true, laidLooks := .later }
def FnParseNumberAcceptsOnlyCanonicalTextCardSaid : Prop := Claim7.holds Tryd.pinned (.plain (OpenSpec.ofChange fnParseNumberAcceptsOnlyCanonicalTextSpec)) fnParseNumberAcceptsOnlyCanonicalTextCard

/-- THE TIED CARD OF 'zzlaws_internal_mirror_b1.FnParseNumberReadsBackEveryNumber'. -/
def fnParseNumberReadsBackEveryNumberCard : Claim7 := { stood := { row := fnParseNumberReadsBackEveryNumberRow, standIns := [], harness := (true, "f5d389b0b4a52591e901f1afc83d372723a2620543beb9eb956ebd4a521f7d86"), looks := true }, kinds := [], alts := [], laidByText := true, laidKinds := [.data, .data, .data, .sentinel, .sentinel], laidTests := true, laidLooks := .later }
def FnParseNumberReadsBackEveryNumberCardSaid : Prop := Claim7.holds Tryd.pinned (.plain (OpenSpec.ofChange fnParseNumberReadsBackEveryNumberSpec)) fnParseNumberReadsBackEveryNumberCard

/-- THE TIED CARD OF 'zzlaws_internal_mirror_b1.FnIsLabelIdentifierAgreesWithParseNumberOnDigits'. -/
def fnIsLabelIdentifierAgreesWithParseNumberOnDigitsCard : Claim7 := { stood := { row := fnIsLabelIdentifierAgreesWithParseNumberOnDigitsRow, standIns := [], harness := (true, "f5d389b0b4a52591e901f1afc83d372723a2620543beb9eb956ebd4a521f7d86"), looks := true }, kinds := [], alts := [], laidByText := true, laidKinds := [.data, .data, .data, .sentinel, .sentinel], laidTests := true, laidLooks := .later }
def FnIsLabelIdentifierAgreesWithParseNumberOnDigitsCardSaid : Prop := Claim7.holds Tryd.pinned (.plain (OpenSpec.ofChange fnIsLabelIdentifierAgreesWithParseNumberOnDigitsSpec)) fnIsLabelIdentifierAgreesWithParseNumberOnDigitsCard
end Rows
end Go.Proofs.Qxb6600430aDoor
