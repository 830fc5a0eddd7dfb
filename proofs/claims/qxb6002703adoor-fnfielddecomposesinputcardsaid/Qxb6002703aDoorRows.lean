/-
  NARROWER THAN 'FOR EVERY INPUT', by the rows' own cells (each row's printed sentence says how): FnFieldDecomposesInput: laid · FnFieldIgnoresLeadingBlanks: laid · FnFieldAppendGoesToRest: laid · FnFieldTokensCountWords: laid.
  DERIVED. THE GIVEN ROWS OF THIS SEAT. 4 by the template 'for every input the law returns true; each argument reads behind the call as it read before'; 0 by the template 'total and deterministic' (their statements: Qxb6002703aDoorTotals.lean).
  GIVEN WITH THE SEED: the statements are not yours to turn. If you find one false, say at which input.
  Laid BY PROGRAM, IN A SANDBOX (cutbox-rows.mjs): the forced cells as the released guide's own fill.sh prints them over the translation 175591c598e23db6… (all of the seat's roots in one cut). By AI agents, Wed Nov 11 2026. No macro, syntax, notation, axiom, sorry.
-/
import Derived.Test.Qxb6002703aDoorChecked
import GoSem.PinnedTables
import GoSem.Claim
import GoSem.ClaimJoined
import GoSem.ClaimMapViews
import Derived.JoinedTies
import Derived.KernelRfl
namespace Go.Proofs.Qxb6002703aDoor
/- THE CELL 'sum', in the pinned program and in every row, IS THE sha256 OF THE DUMP (.gsa) THAT Qxb6002703aDoorProg.lean LOADS. Nothing in Lean hashes anything: it is a label: what it is worth is what the hold of that sum in a sandbox is worth. -/
noncomputable def Tryd.pinned : Pinned := { name := "qxb6002703adoor", sum := "175591c598e23db65220b595a519518aa9834dd26b09d76f0ebe45fe2cb44585", checked := Tryd.checked }
namespace Rows
def none {H : Type} : Left H := { results := [], args := [] }

/- WHAT THE LISTED PACKAGE-LEVEL VARIABLES READ AS WHEN THE CALL BEGINS. Each datum BY PROGRAM (the guide's laid-datum.mjs) off the statement by which the dump's own 'gosem.cut.vars' lays the variable. In a bare row this is a premise. The card (Qxb6002703aDoorCards.lean) ties it to the program's text. -/
def laid_unicode_utf8_acceptRanges {H : Type} : DataW H := .agg [.agg [.lit (.int .u8 128), .lit (.int .u8 191)], .agg [.lit (.int .u8 160), .lit (.int .u8 191)], .agg [.lit (.int .u8 128), .lit (.int .u8 159)], .agg [.lit (.int .u8 144), .lit (.int .u8 191)], .agg [.lit (.int .u8 128), .lit (.int .u8 143)], .agg [.lit (.int .u8 0), .lit (.int .u8 0)], .agg [.lit (.int .u8 0), .lit (.int .u8 0)], .agg [.lit (.int .u8 0), .lit (.int .u8 0)], .agg [.lit (.int .u8 0), .lit (.int .u8 0)], .agg [.lit (.int .u8 0), .lit (.int .u8 0)], .agg [.lit (.int .u8 0), .lit (.int .u8 0)], .agg [.lit (.int .u8 0), .lit (.int .u8 0)], .agg [.lit (.int .u8 0), .lit (.int .u8 0)], .agg [.lit (.int .u8 0), .lit (.int .u8 0)], .agg [.lit (.int .u8 0), .lit (.int .u8 0)], .agg [.lit (.int .u8 0), .lit (.int .u8 0)]]
/-- One of Go's own tables, pinned by name: the form's constant. -/
def laid_unicode_utf8_first : DataW Unit := Go.Pinned.utf8First

/-- 'zzlaws_internal_keystore_b1.FnFieldDecomposesInput': WHATEVER THE INPUT: true; the input reads as it did. -/
def fnFieldDecomposesInputSpec : ChangeSpec := { name := "fnFieldDecomposesInput", fn := fun _ => fun
  | [d] => { results := [.lit (.bool true)], args := [d] }
  | _ => none }
def fnFieldDecomposesInputRow : OpenClaim := { program := "qxb6002703adoor", sum := "175591c598e23db65220b595a519518aa9834dd26b09d76f0ebe45fe2cb44585", func := "example.com/mooring/mooring/zzlaws_internal_keystore_b1.FnFieldDecomposesInput", spec := "fnFieldDecomposesInput", inPlace := ["internal/bytealg.IndexByteString", "internal/bytealg.IndexString"], named := ["unicode/utf8.first", "unicode/utf8.acceptRanges", "internal/bytealg.MaxLen"], apart := false, laid := [("unicode/utf8.acceptRanges", laid_unicode_utf8_acceptRanges), ("unicode/utf8.first", laid_unicode_utf8_first)] }
def FnFieldDecomposesInputSaid : Prop := fnFieldDecomposesInputRow.holds Tryd.pinned (OpenSpec.ofChange fnFieldDecomposesInputSpec)

/-- ITS FALSE NEIGHBOUR: 'it returns false'. Refute it at one input. -/
def fnFieldDecomposesInputWrong : ChangeSpec := { name := "fnFieldDecomposesInput", fn := fun _ => fun
  | [d] => { results := [.lit (.bool false)], args := [d] }
  | _ => none }
def FnFieldDecomposesInputWrongFalsely : Prop := fnFieldDecomposesInputRow.holds Tryd.pinned (OpenSpec.ofChange fnFieldDecomposesInputWrong)

/-- 'zzlaws_internal_keystore_b1.FnFieldIgnoresLeadingBlanks': WHATEVER THE INPUT: true; the input reads as it did. -/
def fnFieldIgnoresLeadingBlanksSpec : ChangeSpec := { name := "fnFieldIgnoresLeadingBlanks", fn := fun _ => fun
  | [d1, d2] => { results := [.lit (.bool true)], args := [d1, d2] }
  | _ => none }
def fnFieldIgnoresLeadingBlanksRow : OpenClaim := { program := "qxb6002703adoor", sum := "175591c598e23db65220b595a519518aa9834dd26b09d76f0ebe45fe2cb44585", func := "example.com/mooring/mooring/zzlaws_internal_keystore_b1.FnFieldIgnoresLeadingBlanks", spec := "fnFieldIgnoresLeadingBlanks", inPlace := ["internal/bytealg.IndexByteString", "internal/bytealg.IndexString"], named := ["unicode/utf8.first", "unicode/utf8.acceptRanges", "internal/bytealg.MaxLen"], apart := false, laid := [("unicode/utf8.acceptRanges", laid_unicode_utf8_acceptRanges), ("unicode/utf8.first", laid_unicode_utf8_first)] }
def FnFieldIgnoresLeadingBlanksSaid : Prop := fnFieldIgnoresLeadingBlanksRow.holds Tryd.pinned (OpenSpec.ofChange fnFieldIgnoresLeadingBlanksSpec)

/-- ITS FALSE NEIGHBOUR: 'it returns false'. Refute it at one input. -/
def fnFieldIgnoresLeadingBlanksWrong : ChangeSpec := { name := "fnFieldIgnoresLeadingBlanks", fn := fun _ => fun
  | [d1, d2] => { results := [.lit (.bool false)], args := [d1, d2] }
  | _ => none }
def FnFieldIgnoresLeadingBlanksWrongFalsely : Prop := fnFieldIgnoresLeadingBlanksRow.holds Tryd.pinned (OpenSpec.ofChange fnFieldIgnoresLeadingBlanksWrong)

/-- 'zzlaws_internal_keystore_b1.FnFieldAppendGoesToRest': WHATEVER THE INPUT: true; the input reads as it did. -/
def fnFieldAppendGoesToRestSpec : ChangeSpec := { name := "fnFieldAppendGoesToRest", fn := fun _ => fun
  | [d1, d2] => { results := [.lit (.bool true)], args := [d1, d2] }
  | _ => none }
def fnFieldAppendGoesToRestRow : OpenClaim := { program := "qxb6002703adoor", sum := "175591c598e23db65220b595a519518aa9834dd26b09d76f0ebe45fe2cb44585", func := "example.com/mooring/mooring/zzlaws_internal_keystore_b1.FnFieldAppendGoesToRest", spec := "fnFieldAppendGoesToRest", inPlace := ["internal/bytealg.IndexByteString", "internal/bytealg.IndexString"], named := ["unicode/utf8.first", "unicode/utf8.acceptRanges", "internal/bytealg.MaxLen"], apart := false, laid := [("unicode/utf8.acceptRanges", laid_unicode_utf8_acceptRanges), ("unicode/utf8.first", laid_unicode_utf8_first)] }
def FnFieldAppendGoesToRestSaid : Prop := fnFieldAppendGoesToRestRow.holds Tryd.pinned (OpenSpec.ofChange fnFieldAppendGoesToRestSpec)

/-- ITS FALSE NEIGHBOUR: 'it returns false'. Refute it at one input. -/
def fnFieldAppendGoesToRestWrong : ChangeSpec := { name := "fnFieldAppendGoesToRest", fn := fun _ => fun
  | [d1, d2] => { results := [.lit (.bool false)], args := [d1, d2] }
  | _ => none }
def FnFieldAppendGoesToRestWrongFalsely : Prop := fnFieldAppendGoesToRestRow.holds Tryd.pinned (OpenSpec.ofChange fnFieldAppendGoesToRestWrong)

/-- 'zzlaws_internal_keystore_b1.FnFieldTokensCountWords': WHATEVER THE INPUT: true; the input reads as it did. -/
def fnFieldTokensCountWordsSpec : ChangeSpec := { name := "fnFieldTokensCountWords", fn := fun _ => fun
  | [d] => { results := [.lit (.bool true)], args := [d] }
  | _ => none }
def fnFieldTokensCountWordsRow : OpenClaim := { program := "qxb6002703adoor", sum := "175591c598e23db65220b595a519518aa9834dd26b09d76f0ebe45fe2cb44585", func := "example.com/mooring/mooring/zzlaws_internal_keystore_b1.FnFieldTokensCountWords", spec := "fnFieldTokensCountWords", inPlace := ["internal/bytealg.IndexByteString", "internal/bytealg.IndexString"], named := ["unicode/utf8.first", "unicode/utf8.acceptRanges", "internal/bytealg.MaxLen"], apart := false, laid := [("unicode/utf8.acceptRanges", laid_unicode_utf8_acceptRanges), ("unicode/utf8.first", laid_unicode_utf8_first)] }
def FnFieldTokensCountWordsSaid : Prop := fnFieldTokensCountWordsRow.holds Tryd.pinned (OpenSpec.ofChange fnFieldTokensCountWordsSpec)

/-- ITS FALSE NEIGHBOUR: 'it returns false'. Refute it at one input. -/
def fnFieldTokensCountWordsWrong : ChangeSpec := { name := "fnFieldTokensCountWords", fn := fun _ => fun
  | [d] => { results := [.lit (.bool false)], args := [d] }
  | _ => none }
def FnFieldTokensCountWordsWrongFalsely : Prop := fnFieldTokensCountWordsRow.holds Tryd.pinned (OpenSpec.ofChange fnFieldTokensCountWordsWrong)

end Rows
end Go.Proofs.Qxb6002703aDoor
