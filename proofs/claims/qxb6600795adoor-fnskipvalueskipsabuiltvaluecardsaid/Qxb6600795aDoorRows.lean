/-
  NARROWER THAN 'FOR EVERY INPUT', by the rows' own cells (each row's printed sentence says how): FnSkipValueMatchesCaseTable: laid · FnSkipValueSkipsABuiltValue: laid.
  DERIVED. THE GIVEN ROWS OF THIS SEAT. 2 by the template 'for every input the law returns true; each argument reads behind the call as it read before'; 0 by the template 'total and deterministic' (their statements: Qxb6600795aDoorTotals.lean).
  GIVEN WITH THE SEED: the statements are not yours to turn. If you find one false, say at which input.
  Laid BY PROGRAM, IN A SANDBOX (cutbox-rows.mjs): the forced cells as the released guide's own fill.sh prints them over the translation 1fe9c05155fe9747… (all of the seat's roots in one cut). By AI agents, Wed Nov 11 2026. No macro, syntax, notation, axiom, sorry.
-/
import Derived.Test.Qxb6600795aDoorChecked
import GoSem.PinnedTables
import GoSem.Claim
import GoSem.ClaimJoined
import GoSem.ClaimMapViews
import Derived.JoinedTies
import Derived.KernelRfl
namespace Go.Proofs.Qxb6600795aDoor
/- THE CELL 'sum', in the pinned program and in every row, IS THE sha256 OF THE DUMP (.gsa) THAT Qxb6600795aDoorProg.lean LOADS. Nothing in Lean hashes anything: it is a label: what it is worth is what the hold of that sum in a sandbox is worth. -/
noncomputable def Tryd.pinned : Pinned := { name := "qxb6600795adoor", sum := "1fe9c05155fe9747990c7fb5814a4e336d53704e712c462d1980d245061c30fa", checked := Tryd.checked }
namespace Rows
def none {H : Type} : Left H := { results := [], args := [] }

/- WHAT THE LISTED PACKAGE-LEVEL VARIABLES READ AS WHEN THE CALL BEGINS. Each datum BY PROGRAM (the guide's laid-datum.mjs) off the statement by which the dump's own 'gosem.cut.vars' lays the variable. In a bare row this is a premise. The card (Qxb6600795aDoorCards.lean) ties it to the program's text. -/
def laid_unicode_utf8_acceptRanges {H : Type} : DataW H := .agg [.agg [.lit (.int .u8 128), .lit (.int .u8 191)], .agg [.lit (.int .u8 160), .lit (.int .u8 191)], .agg [.lit (.int .u8 128), .lit (.int .u8 159)], .agg [.lit (.int .u8 144), .lit (.int .u8 191)], .agg [.lit (.int .u8 128), .lit (.int .u8 143)], .agg [.lit (.int .u8 0), .lit (.int .u8 0)], .agg [.lit (.int .u8 0), .lit (.int .u8 0)], .agg [.lit (.int .u8 0), .lit (.int .u8 0)], .agg [.lit (.int .u8 0), .lit (.int .u8 0)], .agg [.lit (.int .u8 0), .lit (.int .u8 0)], .agg [.lit (.int .u8 0), .lit (.int .u8 0)], .agg [.lit (.int .u8 0), .lit (.int .u8 0)], .agg [.lit (.int .u8 0), .lit (.int .u8 0)], .agg [.lit (.int .u8 0), .lit (.int .u8 0)], .agg [.lit (.int .u8 0), .lit (.int .u8 0)], .agg [.lit (.int .u8 0), .lit (.int .u8 0)]]
/-- One of Go's own tables, pinned by name: the form's constant. -/
def laid_unicode_utf8_first : DataW Unit := Go.Pinned.utf8First

/-- 'zzlaws_pkg_token_b1.FnSkipValueMatchesCaseTable': WHATEVER THE INPUT: true; the input reads as it did. -/
def fnSkipValueMatchesCaseTableSpec : ChangeSpec := { name := "fnSkipValueMatchesCaseTable", fn := fun _ => fun
  | [d1, d2] => { results := [.lit (.bool true)], args := [d1, d2] }
  | _ => none }
def fnSkipValueMatchesCaseTableRow : OpenClaim := { program := "qxb6600795adoor", sum := "1fe9c05155fe9747990c7fb5814a4e336d53704e712c462d1980d245061c30fa", func := "example.com/braidway/braidway/zzlaws_pkg_token_b1.FnSkipValueMatchesCaseTable", spec := "fnSkipValueMatchesCaseTable", inPlace := ["internal/bytealg.IndexByteString", "internal/bytealg.IndexByte", "internal/bytealg.Index", "internal/bytealg.IndexString"], named := ["internal/bytealg.MaxLen", "unicode/utf8.first", "unicode/utf8.acceptRanges"], apart := false, laid := [("unicode/utf8.acceptRanges", laid_unicode_utf8_acceptRanges), ("unicode/utf8.first", laid_unicode_utf8_first)] }
def FnSkipValueMatchesCaseTableSaid : Prop := fnSkipValueMatchesCaseTableRow.holds Tryd.pinned (OpenSpec.ofChange fnSkipValueMatchesCaseTableSpec)

/-- ITS FALSE NEIGHBOUR: 'it returns false'. Refute it at one input. -/
def fnSkipValueMatchesCaseTableWrong : ChangeSpec := { name := "fnSkipValueMatchesCaseTable", fn := fun _ => fun
  | [d1, d2] => { results := [.lit (.bool false)], args := [d1, d2] }
  | _ => none }
def FnSkipValueMatchesCaseTableWrongFalsely : Prop := fnSkipValueMatchesCaseTableRow.holds Tryd.pinned (OpenSpec.ofChange fnSkipValueMatchesCaseTableWrong)

/-- 'zzlaws_pkg_token_b1.FnSkipValueSkipsABuiltValue': WHATEVER THE INPUT: true; the input reads as it did. -/
def fnSkipValueSkipsABuiltValueSpec : ChangeSpec := { name := "fnSkipValueSkipsABuiltValue", fn := fun _ => fun
  | [d1, d2, d3, d4] => { results := [.lit (.bool true)], args := [d1, d2, d3, d4] }
  | _ => none }
def fnSkipValueSkipsABuiltValueRow : OpenClaim := { program := "qxb6600795adoor", sum := "1fe9c05155fe9747990c7fb5814a4e336d53704e712c462d1980d245061c30fa", func := "example.com/braidway/braidway/zzlaws_pkg_token_b1.FnSkipValueSkipsABuiltValue", spec := "fnSkipValueSkipsABuiltValue", inPlace := ["internal/bytealg.IndexByteString", "internal/bytealg.IndexByte", "internal/bytealg.Index", "internal/bytealg.IndexString"], named := ["internal/bytealg.MaxLen", "unicode/utf8.first", "unicode/utf8.acceptRanges"], apart := false, laid := [("unicode/utf8.acceptRanges", laid_unicode_utf8_acceptRanges), ("unicode/utf8.first", laid_unicode_utf8_first)] }
def FnSkipValueSkipsABuiltValueSaid : Prop := fnSkipValueSkipsABuiltValueRow.holds Tryd.pinned (OpenSpec.ofChange fnSkipValueSkipsABuiltValueSpec)

/-- ITS FALSE NEIGHBOUR: 'it returns false'. Refute it at one input. -/
def fnSkipValueSkipsABuiltValueWrong : ChangeSpec := { name := "fnSkipValueSkipsABuiltValue", fn := fun _ => fun
  | [d1, d2, d3, d4] => { results := [.lit (.bool false)], args := [d1, d2, d3, d4] }
  | _ => none }
def FnSkipValueSkipsABuiltValueWrongFalsely : Prop := fnSkipValueSkipsABuiltValueRow.holds Tryd.pinned (OpenSpec.ofChange fnSkipValueSkipsABuiltValueWrong)

end Rows
end Go.Proofs.Qxb6600795aDoor
