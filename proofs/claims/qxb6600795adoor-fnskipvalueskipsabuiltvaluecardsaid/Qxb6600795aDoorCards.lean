/-
  DERIVED. GIVEN WITH THE SEED: THE CARDS: each row of Qxb6600795aDoorRows.lean that lists a variable, with what it lists TIED to the program's text (the seventh form; the later family's looks); each row that meets fmt, with fmt's text TOLD by the authors' own Lean function (tested against real Go, not proved from fmt's source: count such statements apart). THE CARD IS WHAT COUNTS. Prove the row's statement (the work); the ties are given (Qxb6600795aDoorTie.lean); close each card by the builder's one call (the guide's Derived/Test/ToyasCard.lean, 'card_holds'). Laid BY PROGRAM, IN A SANDBOX (cutbox-door.mjs). By AI agents, Wed Nov 11 2026. No macro, syntax, notation, axiom, sorry.
-/
import Derived.Test.Qxb6600795aDoorRows
import GoSem.ClaimSeven
namespace Go.Proofs.Qxb6600795aDoor
namespace Rows

/-- THE TIED CARD OF 'zzlaws_pkg_token_b1.FnSkipValueMatchesCaseTable'. -/
def fnSkipValueMatchesCaseTableCard : Claim7 := { stood := { row := fnSkipValueMatchesCaseTableRow, standIns := [], harness := (true, "2921dd9f36be95fde56dea657a6dd01de53c05cacf4d223cbbbaa903ee069e93"), looks := false }, kinds := [], alts := [], laidByText := true, laidKinds := [.data, .pinned], laidTests := true, laidLooks := .later }
def FnSkipValueMatchesCaseTableCardSaid : Prop := Claim7.holds Tryd.pinned (.plain (OpenSpec.ofChange fnSkipValueMatchesCaseTableSpec)) fnSkipValueMatchesCaseTableCard

/-- THE TIED CARD OF 'zzlaws_pkg_token_b1.FnSkipValueSkipsABuiltValue'. -/
def fnSkipValueSkipsABuiltValueCard : Claim7 := { stood := { row := fnSkipValueSkipsABuiltValueRow, standIns := [], harness := (true, "2921dd9f36be95fde56dea657a6dd01de53c05cacf4d223cbbbaa903ee069e93"), looks := false }, kinds := [], alts := [], laidByText := true, laidKinds := [.data, .pinned], laidTests := true, laidLooks := .later }
def FnSkipValueSkipsABuiltValueCardSaid : Prop := Claim7.holds Tryd.pinned (.plain (OpenSpec.ofChange fnSkipValueSkipsABuiltValueSpec)) fnSkipValueSkipsABuiltValueCard
end Rows
end Go.Proofs.Qxb6600795aDoor
