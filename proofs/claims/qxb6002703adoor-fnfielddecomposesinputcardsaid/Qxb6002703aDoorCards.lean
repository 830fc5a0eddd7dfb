/-
  DERIVED. GIVEN WITH THE SEED: THE CARDS: each row of Qxb6002703aDoorRows.lean that lists a variable, with what it lists TIED to the program's text (the seventh form; the later family's looks); each row that meets fmt, with fmt's text TOLD by the authors' own Lean function (tested against real Go, not proved from fmt's source: count such statements apart). THE CARD IS WHAT COUNTS. Prove the row's statement (the work); the ties are given (Qxb6002703aDoorTie.lean); close each card by the builder's one call (the guide's Derived/Test/ToyasCard.lean, 'card_holds'). Laid BY PROGRAM, IN A SANDBOX (cutbox-door.mjs). By AI agents, Wed Nov 11 2026. No macro, syntax, notation, axiom, sorry.
-/
import Derived.Test.Qxb6002703aDoorRows
import GoSem.ClaimSeven
namespace Go.Proofs.Qxb6002703aDoor
namespace Rows

/-- THE TIED CARD OF 'zzlaws_internal_keystore_b1.FnFieldDecomposesInput'. -/
def fnFieldDecomposesInputCard : Claim7 := { stood := { row := fnFieldDecomposesInputRow, standIns := [], harness := (true, "8a86c1c3fe425a6bd29d1a2a9878c9813c5b7f66954afe1e10931ad553129c74"), looks := false }, kinds := [], alts := [], laidByText := true, laidKinds := [.data, .pinned], laidTests := true, laidLooks := .later }
def FnFieldDecomposesInputCardSaid : Prop := Claim7.holds Tryd.pinned (.plain (OpenSpec.ofChange fnFieldDecomposesInputSpec)) fnFieldDecomposesInputCard

/-- THE TIED CARD OF 'zzlaws_internal_keystore_b1.FnFieldIgnoresLeadingBlanks'. -/
def fnFieldIgnoresLeadingBlanksCard : Claim7 := { stood := { row := fnFieldIgnoresLeadingBlanksRow, standIns := [], harness := (true, "8a86c1c3fe425a6bd29d1a2a9878c9813c5b7f66954afe1e10931ad553129c74"), looks := false }, kinds := [], alts := [], laidByText := true, laidKinds := [.data, .pinned], laidTests := true, laidLooks := .later }
def FnFieldIgnoresLeadingBlanksCardSaid : Prop := Claim7.holds Tryd.pinned (.plain (OpenSpec.ofChange fnFieldIgnoresLeadingBlanksSpec)) fnFieldIgnoresLeadingBlanksCard

/-- THE TIED CARD OF 'zzlaws_internal_keystore_b1.FnFieldAppendGoesToRest'. -/
def fnFieldAppendGoesToRestCard : Claim7 := { stood := { row := fnFieldAppendGoesToRestRow, standIns := [], harness := (true, "8a86c1c3fe425a6bd29d1a2a9878c9813c5b7f66954afe1e10931ad553129c74"), looks := false }, kinds := [], alts := [], laidByText := true, laidKinds := [.data, .pinned], laidTests := true, laidLooks := .later }
def FnFieldAppendGoesToRestCardSaid : Prop := Claim7.holds Tryd.pinned (.plain (OpenSpec.ofChange fnFieldAppendGoesToRestSpec)) fnFieldAppendGoesToRestCard

/-- THE TIED CARD OF 'zzlaws_internal_keystore_b1.FnFieldTokensCountWords'. -/
def fnFieldTokensCountWordsCard : Claim7 := { stood := { row := fnFieldTokensCountWordsRow, standIns := [], harness := (true, "8a86c1c3fe425a6bd29d1a2a9878c9813c5b7f66954afe1e10931ad553129c74"), looks := false }, kinds := [], alts := [], laidByText := true, laidKinds := [.data, .pinned], laidTests := true, laidLooks := .later }
def FnFieldTokensCountWordsCardSaid : Prop := Claim7.holds Tryd.pinned (.plain (OpenSpec.ofChange fnFieldTokensCountWordsSpec)) fnFieldTokensCountWordsCard
end Rows
end Go.Proofs.Qxb6002703aDoor
