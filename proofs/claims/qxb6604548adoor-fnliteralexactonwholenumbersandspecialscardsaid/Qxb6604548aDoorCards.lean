/-
  DERIVED. GIVEN WITH THE SEED: THE CARDS: each row of Qxb6604548aDoorRows.lean that lists a variable, with what it lists TIED to the program's text (the seventh form; the later family's looks); each row that meets fmt, with fmt's text TOLD by the authors' own Lean function (tested against real Go, not proved from fmt's source: count such statements apart). THE CARD IS WHAT COUNTS. Prove the row's statement (the work); the ties are given (Qxb6604548aDoorTie.lean); close each card by the builder's one call (the guide's Derived/Test/ToyasCard.lean, 'card_holds'). Laid BY PROGRAM, IN A SANDBOX (cutbox-door.mjs). By AI agents, Wed Nov 11 2026. No macro, syntax, notation, axiom, sorry.
-/
import Derived.Test.Qxb6604548aDoorRows
import GoSem.ClaimSeven
namespace Go.Proofs.Qxb6604548aDoor
namespace Rows

/-- THE TIED CARD OF 'zzlaws_internal_csharp_b1.FnLiteralExactOnWholeNumbersAndSpecials'. -/
def fnLiteralExactOnWholeNumbersAndSpecialsCard : Claim7 := { stood := { row := fnLiteralExactOnWholeNumbersAndSpecialsRow, standIns := [], harness := (true, "46cee4a92f44d731529d9f6b9ee623d694a822349f2a7a743148531871b72814"), looks := false }, kinds := [], alts := [], laidByText := true, laidKinds := [.data, .data, .data, .data, .pinned, .pinned], laidTests := true, laidLooks := .later }
def FnLiteralExactOnWholeNumbersAndSpecialsCardSaid : Prop := Claim7.holds Tryd.pinned (.plain (OpenSpec.ofChange fnLiteralExactOnWholeNumbersAndSpecialsSpec)) fnLiteralExactOnWholeNumbersAndSpecialsCard

/-- THE TIED CARD OF 'zzlaws_internal_csharp_b1.FnLiteralNegationTogglesTheSign'. -/
def fnLiteralNegationTogglesTheSignCard : Claim7 := { stood := { row := fnLiteralNegationTogglesTheSignRow, standIns := [], harness := (true, "46cee4a92f44d731529d9f6b9ee623d694a822349f2a7a743148531871b72814"), looks := false }, kinds := [], alts := [], laidByText := true, laidKinds := [.data, .data, .data, .data, .pinned, .pinned], laidTests := true, laidLooks := .later }
def FnLiteralNegationTogglesTheSignCardSaid : Prop := Claim7.holds Tryd.pinned (.plain (OpenSpec.ofChange fnLiteralNegationTogglesTheSignSpec)) fnLiteralNegationTogglesTheSignCard
end Rows
end Go.Proofs.Qxb6604548aDoor
