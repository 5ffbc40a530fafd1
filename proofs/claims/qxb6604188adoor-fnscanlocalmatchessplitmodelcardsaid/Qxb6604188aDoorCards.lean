/-
  DERIVED. GIVEN WITH THE SEED: THE CARDS: each row of Qxb6604188aDoorRows.lean that lists a variable, with what it lists TIED to the program's text (the seventh form; the later family's looks); each row that meets fmt, with fmt's text TOLD by the authors' own Lean function (tested against real Go, not proved from fmt's source: count such statements apart). THE CARD IS WHAT COUNTS. Prove the row's statement (the work); the ties are given (Qxb6604188aDoorTie.lean); close each card by the builder's one call (the guide's Derived/Test/ToyasCard.lean, 'card_holds'). Laid BY PROGRAM, IN A SANDBOX (cutbox-door.mjs). By AI agents, Wed Nov 11 2026. No macro, syntax, notation, axiom, sorry.
-/
import Derived.Test.Qxb6604188aDoorRows
import GoSem.ClaimSeven
namespace Go.Proofs.Qxb6604188aDoor
namespace Rows

/-- THE TIED CARD OF 'zzlaws_pkg_version_b1.FnScanLocalMatchesSplitModel'. -/
def fnScanLocalMatchesSplitModelCard : Claim7 := { stood := { row := fnScanLocalMatchesSplitModelRow, standIns := [], harness := (true, "c3083d359b2c161f6edd951d316e1bcf8d4e31b1ecaafc5acd0fbbd22d69e64a"), looks := false }, kinds := [], alts := [], laidByText := true, laidKinds := [.data, .pinned], laidTests := true, laidLooks := .later }
def FnScanLocalMatchesSplitModelCardSaid : Prop := Claim7.holds Tryd.pinned (.plain (OpenSpec.ofChange fnScanLocalMatchesSplitModelSpec)) fnScanLocalMatchesSplitModelCard

/-- THE TIED CARD OF 'zzlaws_pkg_version_b1.FnScanLocalKeepsOldSegmentsAndStopsAtABoundary'. -/
def fnScanLocalKeepsOldSegmentsAndStopsAtABoundaryCard : Claim7 := { stood := { row := fnScanLocalKeepsOldSegmentsAndStopsAtABoundaryRow, standIns := [], harness := (true, "c3083d359b2c161f6edd951d316e1bcf8d4e31b1ecaafc5acd0fbbd22d69e64a"), looks := false }, kinds := [], alts := [], laidByText := true, laidKinds := [.data, .pinned], laidTests := true, laidLooks := .later }
def FnScanLocalKeepsOldSegmentsAndStopsAtABoundaryCardSaid : Prop := Claim7.holds Tryd.pinned (.plain (OpenSpec.ofChange fnScanLocalKeepsOldSegmentsAndStopsAtABoundarySpec)) fnScanLocalKeepsOldSegmentsAndStopsAtABoundaryCard
end Rows
end Go.Proofs.Qxb6604188aDoor
