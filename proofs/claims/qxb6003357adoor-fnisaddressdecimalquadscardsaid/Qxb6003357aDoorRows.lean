/-
  NARROWER THAN 'FOR EVERY INPUT', by the rows' own cells (each row's printed sentence says how): FnIsAddressIgnoresCase: laid · FnIsAddressDecimalQuads: laid.
  DERIVED. THE GIVEN ROWS OF THIS SEAT. 2 by the template 'for every input the law returns true; each argument reads behind the call as it read before'; 0 by the template 'total and deterministic' (their statements: Qxb6003357aDoorTotals.lean).
  GIVEN WITH THE SEED: the statements are not yours to turn. If you find one false, say at which input.
  Laid BY PROGRAM, IN A SANDBOX (cutbox-rows.mjs): the forced cells as the released guide's own fill.sh prints them over the translation a0b7810f3812c1cd… (all of the seat's roots in one cut). By AI agents, Wed Nov 11 2026. No macro, syntax, notation, axiom, sorry.
-/
import Derived.Test.Qxb6003357aDoorChecked
import GoSem.PinnedTables
import GoSem.Claim
import GoSem.ClaimJoined
import GoSem.ClaimMapViews
import Derived.JoinedTies
import Derived.KernelRfl
namespace Go.Proofs.Qxb6003357aDoor
/- THE CELL 'sum', in the pinned program and in every row, IS THE sha256 OF THE DUMP (.gsa) THAT Qxb6003357aDoorProg.lean LOADS. Nothing in Lean hashes anything: it is a label: what it is worth is what the hold of that sum in a sandbox is worth. -/
noncomputable def Tryd.pinned : Pinned := { name := "qxb6003357adoor", sum := "a0b7810f3812c1cd39bb7a55f96168d7eb639f642808e964dfdbb4c79d88e221", checked := Tryd.checked }
namespace Rows
def none {H : Type} : Left H := { results := [], args := [] }

/- WHAT THE LISTED PACKAGE-LEVEL VARIABLES READ AS WHEN THE CALL BEGINS. Each datum BY PROGRAM (the guide's laid-datum.mjs) off the statement by which the dump's own 'gosem.cut.vars' lays the variable. In a bare row this is a premise. The card (Qxb6003357aDoorCards.lean) ties it to the program's text. -/
def laid_unicode_utf8_acceptRanges {H : Type} : DataW H := .agg [.agg [.lit (.int .u8 128), .lit (.int .u8 191)], .agg [.lit (.int .u8 160), .lit (.int .u8 191)], .agg [.lit (.int .u8 128), .lit (.int .u8 159)], .agg [.lit (.int .u8 144), .lit (.int .u8 191)], .agg [.lit (.int .u8 128), .lit (.int .u8 143)], .agg [.lit (.int .u8 0), .lit (.int .u8 0)], .agg [.lit (.int .u8 0), .lit (.int .u8 0)], .agg [.lit (.int .u8 0), .lit (.int .u8 0)], .agg [.lit (.int .u8 0), .lit (.int .u8 0)], .agg [.lit (.int .u8 0), .lit (.int .u8 0)], .agg [.lit (.int .u8 0), .lit (.int .u8 0)], .agg [.lit (.int .u8 0), .lit (.int .u8 0)], .agg [.lit (.int .u8 0), .lit (.int .u8 0)], .agg [.lit (.int .u8 0), .lit (.int .u8 0)], .agg [.lit (.int .u8 0), .lit (.int .u8 0)], .agg [.lit (.int .u8 0), .lit (.int .u8 0)]]
/-- One of Go's own tables, pinned by name: the form's constant. -/
def laid_unicode_utf8_first : DataW Unit := Go.Pinned.utf8First

/-- 'zzlaws_rules_g1.FnIsAddressIgnoresCase': WHATEVER THE INPUT: true; the input reads as it did. -/
def fnIsAddressIgnoresCaseSpec : ChangeSpec := { name := "fnIsAddressIgnoresCase", fn := fun _ => fun
  | [d] => { results := [.lit (.bool true)], args := [d] }
  | _ => none }
def fnIsAddressIgnoresCaseRow : OpenClaim := { program := "qxb6003357adoor", sum := "a0b7810f3812c1cd39bb7a55f96168d7eb639f642808e964dfdbb4c79d88e221", func := "example.com/zoneglass/zoneglass/zzlaws_rules_g1.FnIsAddressIgnoresCase", spec := "fnIsAddressIgnoresCase", inPlace := ["internal/bytealg.IndexByteString", "internal/bytealg.IndexString"], named := ["unicode/utf8.first", "unicode/utf8.acceptRanges", "internal/bytealg.MaxLen"], apart := false, laid := [("unicode/utf8.acceptRanges", laid_unicode_utf8_acceptRanges), ("unicode/utf8.first", laid_unicode_utf8_first)] }
def FnIsAddressIgnoresCaseSaid : Prop := fnIsAddressIgnoresCaseRow.holds Tryd.pinned (OpenSpec.ofChange fnIsAddressIgnoresCaseSpec)

/-- ITS FALSE NEIGHBOUR: 'it returns false'. Refute it at one input. -/
def fnIsAddressIgnoresCaseWrong : ChangeSpec := { name := "fnIsAddressIgnoresCase", fn := fun _ => fun
  | [d] => { results := [.lit (.bool false)], args := [d] }
  | _ => none }
def FnIsAddressIgnoresCaseWrongFalsely : Prop := fnIsAddressIgnoresCaseRow.holds Tryd.pinned (OpenSpec.ofChange fnIsAddressIgnoresCaseWrong)

/-- 'zzlaws_rules_g1.FnIsAddressDecimalQuads': WHATEVER THE INPUT: true; the input reads as it did. -/
def fnIsAddressDecimalQuadsSpec : ChangeSpec := { name := "fnIsAddressDecimalQuads", fn := fun _ => fun
  | [d1, d2, d3, d4, d5] => { results := [.lit (.bool true)], args := [d1, d2, d3, d4, d5] }
  | _ => none }
def fnIsAddressDecimalQuadsRow : OpenClaim := { program := "qxb6003357adoor", sum := "a0b7810f3812c1cd39bb7a55f96168d7eb639f642808e964dfdbb4c79d88e221", func := "example.com/zoneglass/zoneglass/zzlaws_rules_g1.FnIsAddressDecimalQuads", spec := "fnIsAddressDecimalQuads", inPlace := ["internal/bytealg.IndexByteString", "internal/bytealg.IndexString"], named := ["unicode/utf8.first", "unicode/utf8.acceptRanges", "internal/bytealg.MaxLen"], apart := false, laid := [("unicode/utf8.acceptRanges", laid_unicode_utf8_acceptRanges), ("unicode/utf8.first", laid_unicode_utf8_first)] }
def FnIsAddressDecimalQuadsSaid : Prop := fnIsAddressDecimalQuadsRow.holds Tryd.pinned (OpenSpec.ofChange fnIsAddressDecimalQuadsSpec)

/-- ITS FALSE NEIGHBOUR: 'it returns false'. Refute it at one input. -/
def fnIsAddressDecimalQuadsWrong : ChangeSpec := { name := "fnIsAddressDecimalQuads", fn := fun _ => fun
  | [d1, d2, d3, d4, d5] => { results := [.lit (.bool false)], args := [d1, d2, d3, d4, d5] }
  | _ => none }
def FnIsAddressDecimalQuadsWrongFalsely : Prop := fnIsAddressDecimalQuadsRow.holds Tryd.pinned (OpenSpec.ofChange fnIsAddressDecimalQuadsWrong)

end Rows
end Go.Proofs.Qxb6003357aDoor
