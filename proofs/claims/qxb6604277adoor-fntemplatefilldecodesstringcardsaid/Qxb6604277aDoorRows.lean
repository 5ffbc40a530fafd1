/-
  NARROWER THAN 'FOR EVERY INPUT', by the rows' own cells (each row's printed sentence says how): FnTemplateStringMatchesRunModel: laid · FnTemplateFillDecodesString: maps, laid · FnTemplateFillWithPlaceholdersIsString: laid.
  DERIVED. THE GIVEN ROWS OF THIS SEAT. 3 by the template 'for every input the law returns true; each argument reads behind the call as it read before'; 0 by the template 'total and deterministic' (their statements: Qxb6604277aDoorTotals.lean).
  GIVEN WITH THE SEED: the statements are not yours to turn. If you find one false, say at which input.
  Laid BY PROGRAM, IN A SANDBOX (cutbox-rows.mjs): the forced cells as the released guide's own fill.sh prints them over the translation 45b0cc5ea0826666… (all of the seat's roots in one cut). By AI agents, Wed Nov 11 2026. No macro, syntax, notation, axiom, sorry.
-/
import Derived.Test.Qxb6604277aDoorChecked
import GoSem.PinnedTables
import GoSem.Claim
import GoSem.ClaimJoined
import GoSem.ClaimMapViews
import Derived.JoinedTies
import Derived.KernelRfl
namespace Go.Proofs.Qxb6604277aDoor
/- THE CELL 'sum', in the pinned program and in every row, IS THE sha256 OF THE DUMP (.gsa) THAT Qxb6604277aDoorProg.lean LOADS. Nothing in Lean hashes anything: it is a label: what it is worth is what the hold of that sum in a sandbox is worth. -/
noncomputable def Tryd.pinned : Pinned := { name := "qxb6604277adoor", sum := "45b0cc5ea08266666ab76502ef2079ad08929a90a89090411ff6dcb3beefc971", checked := Tryd.checked }
namespace Rows
def none {H : Type} : Left H := { results := [], args := [] }

/- WHAT THE LISTED PACKAGE-LEVEL VARIABLES READ AS WHEN THE CALL BEGINS. Each datum BY PROGRAM (the guide's laid-datum.mjs) off the statement by which the dump's own 'gosem.cut.vars' lays the variable. In a bare row this is a premise. The card (Qxb6604277aDoorCards.lean) ties it to the program's text. -/
def laid_unicode_utf8_acceptRanges {H : Type} : DataW H := .agg [.agg [.lit (.int .u8 128), .lit (.int .u8 191)], .agg [.lit (.int .u8 160), .lit (.int .u8 191)], .agg [.lit (.int .u8 128), .lit (.int .u8 159)], .agg [.lit (.int .u8 144), .lit (.int .u8 191)], .agg [.lit (.int .u8 128), .lit (.int .u8 143)], .agg [.lit (.int .u8 0), .lit (.int .u8 0)], .agg [.lit (.int .u8 0), .lit (.int .u8 0)], .agg [.lit (.int .u8 0), .lit (.int .u8 0)], .agg [.lit (.int .u8 0), .lit (.int .u8 0)], .agg [.lit (.int .u8 0), .lit (.int .u8 0)], .agg [.lit (.int .u8 0), .lit (.int .u8 0)], .agg [.lit (.int .u8 0), .lit (.int .u8 0)], .agg [.lit (.int .u8 0), .lit (.int .u8 0)], .agg [.lit (.int .u8 0), .lit (.int .u8 0)], .agg [.lit (.int .u8 0), .lit (.int .u8 0)], .agg [.lit (.int .u8 0), .lit (.int .u8 0)]]
/-- One of Go's own tables, pinned by name: the form's constant. -/
def laid_unicode_utf8_first : DataW Unit := Go.Pinned.utf8First

/-- 'zzlaws_pattern_b1.FnTemplateStringMatchesRunModel': WHATEVER THE INPUT: true; the input reads as it did. -/
def fnTemplateStringMatchesRunModelSpec : ChangeSpec := { name := "fnTemplateStringMatchesRunModel", fn := fun _ => fun
  | [d1, d2, d3] => { results := [.lit (.bool true)], args := [d1, d2, d3] }
  | _ => none }
def fnTemplateStringMatchesRunModelRow : OpenClaim := { program := "qxb6604277adoor", sum := "45b0cc5ea08266666ab76502ef2079ad08929a90a89090411ff6dcb3beefc971", func := "example.com/mailstride/mailstride/zzlaws_pattern_b1.FnTemplateStringMatchesRunModel", spec := "fnTemplateStringMatchesRunModel", inPlace := ["internal/abi.NoEscape", "internal/bytealg.CountString", "internal/bytealg.IndexByteString", "internal/bytealg.IndexString", "internal/bytealg.MakeNoZero"], named := ["internal/bytealg.MaxLen", "unicode/utf8.first", "unicode/utf8.acceptRanges"], apart := false, laid := [("unicode/utf8.acceptRanges", laid_unicode_utf8_acceptRanges), ("unicode/utf8.first", laid_unicode_utf8_first)] }
def FnTemplateStringMatchesRunModelSaid : Prop := fnTemplateStringMatchesRunModelRow.holds Tryd.pinned (OpenSpec.ofChange fnTemplateStringMatchesRunModelSpec)

/-- ITS FALSE NEIGHBOUR: 'it returns false'. Refute it at one input. -/
def fnTemplateStringMatchesRunModelWrong : ChangeSpec := { name := "fnTemplateStringMatchesRunModel", fn := fun _ => fun
  | [d1, d2, d3] => { results := [.lit (.bool false)], args := [d1, d2, d3] }
  | _ => none }
def FnTemplateStringMatchesRunModelWrongFalsely : Prop := fnTemplateStringMatchesRunModelRow.holds Tryd.pinned (OpenSpec.ofChange fnTemplateStringMatchesRunModelWrong)

/-- 'zzlaws_pattern_b1.FnTemplateFillDecodesString': WHATEVER THE INPUT: true; the input reads as it did. -/
def fnTemplateFillDecodesStringSpec : ChangeSpec := { name := "fnTemplateFillDecodesString", fn := fun _ => fun
  | [d1, d2, d3, d4] => { results := [.lit (.bool true)], args := [d1, d2, d3, d4] }
  | _ => none }
def fnTemplateFillDecodesStringRow : OpenClaim := { program := "qxb6604277adoor", sum := "45b0cc5ea08266666ab76502ef2079ad08929a90a89090411ff6dcb3beefc971", func := "example.com/mailstride/mailstride/zzlaws_pattern_b1.FnTemplateFillDecodesString", spec := "fnTemplateFillDecodesString", inPlace := ["internal/abi.NoEscape", "internal/bytealg.CountString", "internal/bytealg.IndexByteString", "internal/bytealg.IndexString", "internal/bytealg.MakeNoZero"], named := ["internal/bytealg.MaxLen", "unicode/utf8.first", "unicode/utf8.acceptRanges"], maps := true, apart := false, laid := [("unicode/utf8.acceptRanges", laid_unicode_utf8_acceptRanges), ("unicode/utf8.first", laid_unicode_utf8_first)] }
def FnTemplateFillDecodesStringSaid : Prop := fnTemplateFillDecodesStringRow.holds Tryd.pinned (OpenSpec.ofChange fnTemplateFillDecodesStringSpec)

/-- ITS FALSE NEIGHBOUR: 'it returns false'. Refute it at one input. -/
def fnTemplateFillDecodesStringWrong : ChangeSpec := { name := "fnTemplateFillDecodesString", fn := fun _ => fun
  | [d1, d2, d3, d4] => { results := [.lit (.bool false)], args := [d1, d2, d3, d4] }
  | _ => none }
def FnTemplateFillDecodesStringWrongFalsely : Prop := fnTemplateFillDecodesStringRow.holds Tryd.pinned (OpenSpec.ofChange fnTemplateFillDecodesStringWrong)

/-- 'zzlaws_pattern_b1.FnTemplateFillWithPlaceholdersIsString': WHATEVER THE INPUT: true; the input reads as it did. -/
def fnTemplateFillWithPlaceholdersIsStringSpec : ChangeSpec := { name := "fnTemplateFillWithPlaceholdersIsString", fn := fun _ => fun
  | [d1, d2, d3] => { results := [.lit (.bool true)], args := [d1, d2, d3] }
  | _ => none }
def fnTemplateFillWithPlaceholdersIsStringRow : OpenClaim := { program := "qxb6604277adoor", sum := "45b0cc5ea08266666ab76502ef2079ad08929a90a89090411ff6dcb3beefc971", func := "example.com/mailstride/mailstride/zzlaws_pattern_b1.FnTemplateFillWithPlaceholdersIsString", spec := "fnTemplateFillWithPlaceholdersIsString", inPlace := ["internal/abi.NoEscape", "internal/bytealg.CountString", "internal/bytealg.IndexByteString", "internal/bytealg.IndexString", "internal/bytealg.MakeNoZero"], named := ["internal/bytealg.MaxLen", "unicode/utf8.first", "unicode/utf8.acceptRanges"], apart := false, laid := [("unicode/utf8.acceptRanges", laid_unicode_utf8_acceptRanges), ("unicode/utf8.first", laid_unicode_utf8_first)] }
def FnTemplateFillWithPlaceholdersIsStringSaid : Prop := fnTemplateFillWithPlaceholdersIsStringRow.holds Tryd.pinned (OpenSpec.ofChange fnTemplateFillWithPlaceholdersIsStringSpec)

/-- ITS FALSE NEIGHBOUR: 'it returns false'. Refute it at one input. -/
def fnTemplateFillWithPlaceholdersIsStringWrong : ChangeSpec := { name := "fnTemplateFillWithPlaceholdersIsString", fn := fun _ => fun
  | [d1, d2, d3] => { results := [.lit (.bool false)], args := [d1, d2, d3] }
  | _ => none }
def FnTemplateFillWithPlaceholdersIsStringWrongFalsely : Prop := fnTemplateFillWithPlaceholdersIsStringRow.holds Tryd.pinned (OpenSpec.ofChange fnTemplateFillWithPlaceholdersIsStringWrong)

end Rows
end Go.Proofs.Qxb6604277aDoor
