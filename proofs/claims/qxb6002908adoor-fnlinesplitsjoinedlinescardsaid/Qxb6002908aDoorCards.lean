/-
  DERIVED. GIVEN WITH THE SEED: THE CARDS: each row of Qxb6002908aDoorRows.lean that lists a variable, with what it lists TIED to the program's text (the seventh form; the later family's looks); each row that meets fmt, with fmt's text TOLD by the authors' own Lean function (tested against real Go, not proved from fmt's source: count such statements apart). THE CARD IS WHAT COUNTS. Prove the row's statement (the work); the ties are given (Qxb6002908aDoorTie.lean); close each card by the builder's one call (the guide's Derived/Test/ToyasCard.lean, 'card_holds'). Laid BY PROGRAM, IN A SANDBOX (cutbox-door.mjs). By AI agents, Wed Nov 11 2026. No macro, syntax, notation, axiom, sorry.
-/
import Derived.Test.Qxb6002908aDoorRows
import GoSem.ClaimSeven
namespace Go.Proofs.Qxb6002908aDoor
namespace Rows

/-- THE TIED CARD OF 'zzlaws_root_b1.FnLineMatchesSpec'. -/
def fnLineMatchesSpecCard : Claim7 := { stood := { row := fnLineMatchesSpecRow, standIns := [], harness := (true, "544aec97dcaa2749b1da6738d2f6fd3b6f382b939288d06bdeb208cfb4160e56"), looks := false }, kinds := [], alts := [], laidByText := true, laidKinds := [.data, .pinned], laidTests := true, laidLooks := .later }
def FnLineMatchesSpecCardSaid : Prop := Claim7.holds Tryd.pinned (.plain (OpenSpec.ofChange fnLineMatchesSpecSpec)) fnLineMatchesSpecCard

/-- THE TIED CARD OF 'zzlaws_root_b1.FnLineSplitsJoinedLines'. -/
def fnLineSplitsJoinedLinesCard : Claim7 := { stood := { row := fnLineSplitsJoinedLinesRow, standIns := [], harness := (true, "544aec97dcaa2749b1da6738d2f6fd3b6f382b939288d06bdeb208cfb4160e56"), looks := false }, kinds := [], alts := [], laidByText := true, laidKinds := [.data, .pinned], laidTests := true, laidLooks := .later }
def FnLineSplitsJoinedLinesCardSaid : Prop := Claim7.holds Tryd.pinned (.plain (OpenSpec.ofChange fnLineSplitsJoinedLinesSpec)) fnLineSplitsJoinedLinesCard
end Rows
end Go.Proofs.Qxb6002908aDoor
