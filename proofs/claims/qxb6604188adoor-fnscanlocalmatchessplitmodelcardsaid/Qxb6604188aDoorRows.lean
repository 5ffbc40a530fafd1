/-
  NARROWER THAN 'FOR EVERY INPUT', by the rows' own cells (each row's printed sentence says how): FnScanLocalMatchesSplitModel: laid · FnScanLocalKeepsOldSegmentsAndStopsAtABoundary: laid.
  DERIVED. THE GIVEN ROWS OF THIS SEAT. 2 by the template 'for every input the law returns true; each argument reads behind the call as it read before'; 0 by the template 'total and deterministic' (their statements: Qxb6604188aDoorTotals.lean).
  GIVEN WITH THE SEED: the statements are not yours to turn. If you find one false, say at which input.
  Laid BY PROGRAM, IN A SANDBOX (cutbox-rows.mjs): the forced cells as the released guide's own fill.sh prints them over the translation b988e5621a133e1a… (all of the seat's roots in one cut). By AI agents, Wed Nov 11 2026. No macro, syntax, notation, axiom, sorry.
-/
import Derived.Test.Qxb6604188aDoorChecked
import GoSem.PinnedTables
import GoSem.Claim
import GoSem.ClaimJoined
import GoSem.ClaimMapViews
import Derived.JoinedTies
import Derived.KernelRfl
namespace Go.Proofs.Qxb6604188aDoor
/- THE CELL 'sum', in the pinned program and in every row, IS THE sha256 OF THE DUMP (.gsa) THAT Qxb6604188aDoorProg.lean LOADS. Nothing in Lean hashes anything: it is a label: what it is worth is what the hold of that sum in a sandbox is worth. -/
noncomputable def Tryd.pinned : Pinned := { name := "qxb6604188adoor", sum := "b988e5621a133e1a50e4b33bd80441e78c98e6d8d06490a02a7d8ddcd2c93ec1", checked := Tryd.checked }
namespace Rows
def none {H : Type} : Left H := { results := [], args := [] }

/- WHAT THE LISTED PACKAGE-LEVEL VARIABLES READ AS WHEN THE CALL BEGINS. Each datum BY PROGRAM (the guide's laid-datum.mjs) off the statement by which the dump's own 'gosem.cut.vars' lays the variable. In a bare row this is a premise. The card (Qxb6604188aDoorCards.lean) ties it to the program's text. -/
def laid_unicode_utf8_acceptRanges {H : Type} : DataW H := .agg [.agg [.lit (.int .u8 128), .lit (.int .u8 191)], .agg [.lit (.int .u8 160), .lit (.int .u8 191)], .agg [.lit (.int .u8 128), .lit (.int .u8 159)], .agg [.lit (.int .u8 144), .lit (.int .u8 191)], .agg [.lit (.int .u8 128), .lit (.int .u8 143)], .agg [.lit (.int .u8 0), .lit (.int .u8 0)], .agg [.lit (.int .u8 0), .lit (.int .u8 0)], .agg [.lit (.int .u8 0), .lit (.int .u8 0)], .agg [.lit (.int .u8 0), .lit (.int .u8 0)], .agg [.lit (.int .u8 0), .lit (.int .u8 0)], .agg [.lit (.int .u8 0), .lit (.int .u8 0)], .agg [.lit (.int .u8 0), .lit (.int .u8 0)], .agg [.lit (.int .u8 0), .lit (.int .u8 0)], .agg [.lit (.int .u8 0), .lit (.int .u8 0)], .agg [.lit (.int .u8 0), .lit (.int .u8 0)], .agg [.lit (.int .u8 0), .lit (.int .u8 0)]]
/-- One of Go's own tables, pinned by name: the form's constant. -/
def laid_unicode_utf8_first : DataW Unit := Go.Pinned.utf8First

/-- 'zzlaws_pkg_version_b1.FnScanLocalMatchesSplitModel': WHATEVER THE INPUT: true; the input reads as it did. -/
def fnScanLocalMatchesSplitModelSpec : ChangeSpec := { name := "fnScanLocalMatchesSplitModel", fn := fun _ => fun
  | [d1, d2, d3] => { results := [.lit (.bool true)], args := [d1, d2, d3] }
  | _ => none }
def fnScanLocalMatchesSplitModelRow : OpenClaim := { program := "qxb6604188adoor", sum := "b988e5621a133e1a50e4b33bd80441e78c98e6d8d06490a02a7d8ddcd2c93ec1", func := "example.com/oikos/oikos/zzlaws_pkg_version_b1.FnScanLocalMatchesSplitModel", spec := "fnScanLocalMatchesSplitModel", inPlace := ["internal/bytealg.IndexByteString", "internal/bytealg.IndexString"], named := ["unicode/utf8.first", "unicode/utf8.acceptRanges", "internal/bytealg.MaxLen"], apart := false, laid := [("unicode/utf8.acceptRanges", laid_unicode_utf8_acceptRanges), ("unicode/utf8.first", laid_unicode_utf8_first)] }
def FnScanLocalMatchesSplitModelSaid : Prop := fnScanLocalMatchesSplitModelRow.holds Tryd.pinned (OpenSpec.ofChange fnScanLocalMatchesSplitModelSpec)

/-- ITS FALSE NEIGHBOUR: 'it returns false'. Refute it at one input. -/
def fnScanLocalMatchesSplitModelWrong : ChangeSpec := { name := "fnScanLocalMatchesSplitModel", fn := fun _ => fun
  | [d1, d2, d3] => { results := [.lit (.bool false)], args := [d1, d2, d3] }
  | _ => none }
def FnScanLocalMatchesSplitModelWrongFalsely : Prop := fnScanLocalMatchesSplitModelRow.holds Tryd.pinned (OpenSpec.ofChange fnScanLocalMatchesSplitModelWrong)

/-- 'zzlaws_pkg_version_b1.FnScanLocalKeepsOldSegmentsAndStopsAtABoundary': WHATEVER THE INPUT: true; the input reads as it did. -/
def fnScanLocalKeepsOldSegmentsAndStopsAtABoundarySpec : ChangeSpec := { name := "fnScanLocalKeepsOldSegmentsAndStopsAtABoundary", fn := fun _ => fun
  | [d1, d2, d3] => { results := [.lit (.bool true)], args := [d1, d2, d3] }
  | _ => none }
def fnScanLocalKeepsOldSegmentsAndStopsAtABoundaryRow : OpenClaim := { program := "qxb6604188adoor", sum := "b988e5621a133e1a50e4b33bd80441e78c98e6d8d06490a02a7d8ddcd2c93ec1", func := "example.com/oikos/oikos/zzlaws_pkg_version_b1.FnScanLocalKeepsOldSegmentsAndStopsAtABoundary", spec := "fnScanLocalKeepsOldSegmentsAndStopsAtABoundary", inPlace := ["internal/bytealg.IndexByteString", "internal/bytealg.IndexString"], named := ["unicode/utf8.first", "unicode/utf8.acceptRanges", "internal/bytealg.MaxLen"], apart := false, laid := [("unicode/utf8.acceptRanges", laid_unicode_utf8_acceptRanges), ("unicode/utf8.first", laid_unicode_utf8_first)] }
def FnScanLocalKeepsOldSegmentsAndStopsAtABoundarySaid : Prop := fnScanLocalKeepsOldSegmentsAndStopsAtABoundaryRow.holds Tryd.pinned (OpenSpec.ofChange fnScanLocalKeepsOldSegmentsAndStopsAtABoundarySpec)

/-- ITS FALSE NEIGHBOUR: 'it returns false'. Refute it at one input. -/
def fnScanLocalKeepsOldSegmentsAndStopsAtABoundaryWrong : ChangeSpec := { name := "fnScanLocalKeepsOldSegmentsAndStopsAtABoundary", fn := fun _ => fun
  | [d1, d2, d3] => { results := [.lit (.bool false)], args := [d1, d2, d3] }
  | _ => none }
def FnScanLocalKeepsOldSegmentsAndStopsAtABoundaryWrongFalsely : Prop := fnScanLocalKeepsOldSegmentsAndStopsAtABoundaryRow.holds Tryd.pinned (OpenSpec.ofChange fnScanLocalKeepsOldSegmentsAndStopsAtABoundaryWrong)

end Rows
end Go.Proofs.Qxb6604188aDoor
