/-
  DERIVED. GIVEN WITH THE SEED: THE CARDS: each row of Qxb6600273aDoorRows.lean that lists a variable, with what it lists TIED to the program's text (the seventh form; the later family's looks); each row that meets fmt, with fmt's text TOLD by the authors' own Lean function (tested against real Go, not proved from fmt's source: count such statements apart). THE CARD IS WHAT COUNTS. Prove the row's statement (the work); the ties are given (Qxb6600273aDoorTie.lean); close each card by the builder's one call (the guide's Derived/Test/ToyasCard.lean, 'card_holds'). Laid BY PROGRAM, IN A SANDBOX (cutbox-door.mjs). By AI agents, Wed Nov 11 2026. No macro, syntax, notation, axiom, sorry.
-/
import Derived.Test.Qxb6600273aDoorRows
import GoSem.ClaimSeven
namespace Go.Proofs.Qxb6600273aDoor
namespace Rows

/-- THE TIED CARD OF 'zzlaws_internal_warning_b1.FnParseTextsReadsBuiltHeader'. -/
def fnParseTextsReadsBuiltHeaderCard : Claim7 := { stood := { row := fnParseTextsReadsBuiltHeaderRow, standIns := [], harness := (true, "35f893f320af39cedc44f8c180d296163447cad61a2853e113c641a07c6dbac8"), looks := false }, kinds := [], alts := [], laidByText := true, laidKinds := [.data, .pinned], laidTests := true, laidLooks := .later }
def FnParseTextsReadsBuiltHeaderCardSaid : Prop := Claim7.holds Tryd.pinned (.plain (OpenSpec.ofChange fnParseTextsReadsBuiltHeaderSpec)) fnParseTextsReadsBuiltHeaderCard

/-- THE TIED CARD OF 'zzlaws_internal_warning_b1.FnParseTextsConcatenates'. -/
def fnParseTextsConcatenatesCard : Claim7 := { stood := { row := fnParseTextsConcatenatesRow, standIns := [], harness := (true, "35f893f320af39cedc44f8c180d296163447cad61a2853e113c641a07c6dbac8"), looks := false }, kinds := [], alts := [], laidByText := true, laidKinds := [.data, .pinned], laidTests := true, laidLooks := .later }
def FnParseTextsConcatenatesCardSaid : Prop := Claim7.holds Tryd.pinned (.plain (OpenSpec.ofChange fnParseTextsConcatenatesSpec)) fnParseTextsConcatenatesCard
end Rows
end Go.Proofs.Qxb6600273aDoor
