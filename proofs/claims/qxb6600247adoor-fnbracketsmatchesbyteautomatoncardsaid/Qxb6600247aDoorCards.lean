/-
  DERIVED. GIVEN WITH THE SEED: THE CARDS: each row of Qxb6600247aDoorRows.lean that lists a variable, with what it lists TIED to the program's text (the seventh form; the later family's looks); each row that meets fmt, with fmt's text TOLD by the authors' own Lean function (tested against real Go, not proved from fmt's source: count such statements apart). THE CARD IS WHAT COUNTS. Prove the row's statement (the work); the ties are given (Qxb6600247aDoorTie.lean); close each card by the builder's one call (the guide's Derived/Test/ToyasCard.lean, 'card_holds'). Laid BY PROGRAM, IN A SANDBOX (cutbox-door.mjs). By AI agents, Wed Nov 11 2026. No macro, syntax, notation, axiom, sorry.
-/
import Derived.Test.Qxb6600247aDoorRows
import GoSem.ClaimSeven
namespace Go.Proofs.Qxb6600247aDoor
namespace Rows

/-- THE TIED CARD OF 'zzlaws_internal_jsontext_b1.FnBracketsFindsTheCloseOfEachContainer'. -/
def fnBracketsFindsTheCloseOfEachContainerCard : Claim7 := { stood := { row := fnBracketsFindsTheCloseOfEachContainerRow, standIns := [], harness := (true, "cfeacfd15594dc3c61caff8d5f3a7e8b8ebec901ce6a0f33038f5a25adf61fad"), looks := false }, kinds := [], alts := [], laidByText := true, laidKinds := [.data, .pinned], laidTests := true, laidLooks := .later }
def FnBracketsFindsTheCloseOfEachContainerCardSaid : Prop := Claim7.holds Tryd.pinned (.plain (OpenSpec.ofChange fnBracketsFindsTheCloseOfEachContainerSpec)) fnBracketsFindsTheCloseOfEachContainerCard

/-- THE TIED CARD OF 'zzlaws_internal_jsontext_b1.FnStringMatchesByteAutomaton'. -/
def fnStringMatchesByteAutomatonCard : Claim7 := { stood := { row := fnStringMatchesByteAutomatonRow, standIns := [], harness := (true, "cfeacfd15594dc3c61caff8d5f3a7e8b8ebec901ce6a0f33038f5a25adf61fad"), looks := false }, kinds := [], alts := [], laidByText := true, laidKinds := [.data, .pinned], laidTests := true, laidLooks := .later }
def FnStringMatchesByteAutomatonCardSaid : Prop := Claim7.holds Tryd.pinned (.plain (OpenSpec.ofChange fnStringMatchesByteAutomatonSpec)) fnStringMatchesByteAutomatonCard

/-- THE TIED CARD OF 'zzlaws_internal_jsontext_b1.FnStringPieceByPiece'. -/
def fnStringPieceByPieceCard : Claim7 := { stood := { row := fnStringPieceByPieceRow, standIns := [], harness := (true, "cfeacfd15594dc3c61caff8d5f3a7e8b8ebec901ce6a0f33038f5a25adf61fad"), looks := false }, kinds := [], alts := [], laidByText := true, laidKinds := [.data, .pinned], laidTests := true, laidLooks := .later }
def FnStringPieceByPieceCardSaid : Prop := Claim7.holds Tryd.pinned (.plain (OpenSpec.ofChange fnStringPieceByPieceSpec)) fnStringPieceByPieceCard

/-- THE TIED CARD OF 'zzlaws_internal_jsontext_b1.FnBracketsMatchesByteAutomaton'. -/
def fnBracketsMatchesByteAutomatonCard : Claim7 := { stood := { row := fnBracketsMatchesByteAutomatonRow, standIns := [], harness := (true, "cfeacfd15594dc3c61caff8d5f3a7e8b8ebec901ce6a0f33038f5a25adf61fad"), looks := false }, kinds := [], alts := [], laidByText := true, laidKinds := [.data, .pinned], laidTests := true, laidLooks := .later }
def FnBracketsMatchesByteAutomatonCardSaid : Prop := Claim7.holds Tryd.pinned (.plain (OpenSpec.ofChange fnBracketsMatchesByteAutomatonSpec)) fnBracketsMatchesByteAutomatonCard

/-- THE TIED CARD OF 'zzlaws_internal_jsontext_b1.FnBracketsPieceByPiece'. -/
def fnBracketsPieceByPieceCard : Claim7 := { stood := { row := fnBracketsPieceByPieceRow, standIns := [], harness := (true, "cfeacfd15594dc3c61caff8d5f3a7e8b8ebec901ce6a0f33038f5a25adf61fad"), looks := false }, kinds := [], alts := [], laidByText := true, laidKinds := [.data, .pinned], laidTests := true, laidLooks := .later }
def FnBracketsPieceByPieceCardSaid : Prop := Claim7.holds Tryd.pinned (.plain (OpenSpec.ofChange fnBracketsPieceByPieceSpec)) fnBracketsPieceByPieceCard
end Rows
end Go.Proofs.Qxb6600247aDoor
