/-
  DERIVED. GIVEN WITH THE SEED: THE CARDS: each row of Qxb6003357aDoorRows.lean that lists a variable, with what it lists TIED to the program's text (the seventh form; the later family's looks); each row that meets fmt, with fmt's text TOLD by the authors' own Lean function (tested against real Go, not proved from fmt's source: count such statements apart). THE CARD IS WHAT COUNTS. Prove the row's statement (the work); the ties are given (Qxb6003357aDoorTie.lean); close each card by the builder's one call (the guide's Derived/Test/ToyasCard.lean, 'card_holds'). Laid BY PROGRAM, IN A SANDBOX (cutbox-door.mjs). By AI agents, Wed Nov 11 2026. No macro, syntax, notation, axiom, sorry.
-/
import Derived.Test.Qxb6003357aDoorRows
import GoSem.ClaimSeven
namespace Go.Proofs.Qxb6003357aDoor
namespace Rows

/-- THE TIED CARD OF 'zzlaws_rules_g1.FnIsAddressIgnoresCase'. -/
def fnIsAddressIgnoresCaseCard : Claim7 := { stood := { row := fnIsAddressIgnoresCaseRow, standIns := [], harness := (true, "9d97f8429a9f94226b2fe560902326e0f2d3f74dbc688a865abc467b54516988"), looks := false }, kinds := [], alts := [], laidByText := true, laidKinds := [.data, .pinned], laidTests := true, laidLooks := .later }
def FnIsAddressIgnoresCaseCardSaid : Prop := Claim7.holds Tryd.pinned (.plain (OpenSpec.ofChange fnIsAddressIgnoresCaseSpec)) fnIsAddressIgnoresCaseCard

/-- THE TIED CARD OF 'zzlaws_rules_g1.FnIsAddressDecimalQuads'. -/
def fnIsAddressDecimalQuadsCard : Claim7 := { stood := { row := fnIsAddressDecimalQuadsRow, standIns := [], harness := (true, "9d97f8429a9f94226b2fe560902326e0f2d3f74dbc688a865abc467b54516988"), looks := false }, kinds := [], alts := [], laidByText := true, laidKinds := [.data, .pinned], laidTests := true, laidLooks := .later }
def FnIsAddressDecimalQuadsCardSaid : Prop := Claim7.holds Tryd.pinned (.plain (OpenSpec.ofChange fnIsAddressDecimalQuadsSpec)) fnIsAddressDecimalQuadsCard
end Rows
end Go.Proofs.Qxb6003357aDoor
