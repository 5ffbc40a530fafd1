/-
  DERIVED. GIVEN WITH THE SEED: THE CARDS: each row of Qxb6604277aDoorRows.lean that lists a variable, with what it lists TIED to the program's text (the seventh form; the later family's looks); each row that meets fmt, with fmt's text TOLD by the authors' own Lean function (tested against real Go, not proved from fmt's source: count such statements apart). THE CARD IS WHAT COUNTS. Prove the row's statement (the work); the ties are given (Qxb6604277aDoorTie.lean); close each card by the builder's one call (the guide's Derived/Test/ToyasCard.lean, 'card_holds'). Laid BY PROGRAM, IN A SANDBOX (cutbox-door.mjs). By AI agents, Wed Nov 11 2026. No macro, syntax, notation, axiom, sorry.
-/
import Derived.Test.Qxb6604277aDoorRows
import GoSem.ClaimSeven
namespace Go.Proofs.Qxb6604277aDoor
namespace Rows

/-- THE TIED CARD OF 'zzlaws_pattern_b1.FnTemplateStringMatchesRunModel'. -/
def fnTemplateStringMatchesRunModelCard : Claim7 := { stood := { row := fnTemplateStringMatchesRunModelRow, standIns := [], harness := (true, "f810501f9e171a4bbaaa64c84019b616134f0f0f266880fc03f0960fa75fedd7"), looks := false }, kinds := [], alts := [], laidByText := true, laidKinds := [.data, .pinned], laidTests := true, laidLooks := .later }
def FnTemplateStringMatchesRunModelCardSaid : Prop := Claim7.holds Tryd.pinned (.plain (OpenSpec.ofChange fnTemplateStringMatchesRunModelSpec)) fnTemplateStringMatchesRunModelCard

/-- THE TIED CARD OF 'zzlaws_pattern_b1.FnTemplateFillDecodesString'. -/
def fnTemplateFillDecodesStringCard : Claim7 := { stood := { row := fnTemplateFillDecodesStringRow, standIns := [], harness := (true, "f810501f9e171a4bbaaa64c84019b616134f0f0f266880fc03f0960fa75fedd7"), looks := false }, kinds := [], alts := [], laidByText := true, laidKinds := [.data, .pinned], laidTests := true, laidLooks := .later }
def FnTemplateFillDecodesStringCardSaid : Prop := Claim7.holds Tryd.pinned (.plain (OpenSpec.ofChange fnTemplateFillDecodesStringSpec)) fnTemplateFillDecodesStringCard

/-- THE TIED CARD OF 'zzlaws_pattern_b1.FnTemplateFillWithPlaceholdersIsString'. -/
def fnTemplateFillWithPlaceholdersIsStringCard : Claim7 := { stood := { row := fnTemplateFillWithPlaceholdersIsStringRow, standIns := [], harness := (true, "f810501f9e171a4bbaaa64c84019b616134f0f0f266880fc03f0960fa75fedd7"), looks := false }, kinds := [], alts := [], laidByText := true, laidKinds := [.data, .pinned], laidTests := true, laidLooks := .later }
def FnTemplateFillWithPlaceholdersIsStringCardSaid : Prop := Claim7.holds Tryd.pinned (.plain (OpenSpec.ofChange fnTemplateFillWithPlaceholdersIsStringSpec)) fnTemplateFillWithPlaceholdersIsStringCard
end Rows
end Go.Proofs.Qxb6604277aDoor
