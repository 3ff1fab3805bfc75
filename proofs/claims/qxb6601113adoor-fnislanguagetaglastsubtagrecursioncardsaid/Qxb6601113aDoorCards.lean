/-
  DERIVED. GIVEN WITH THE SEED: THE CARDS: each row of Qxb6601113aDoorRows.lean that lists a variable, with what it lists TIED to the program's text (the seventh form; the later family's looks); each row that meets fmt, with fmt's text TOLD by the authors' own Lean function (tested against real Go, not proved from fmt's source: count such statements apart). THE CARD IS WHAT COUNTS. Prove the row's statement (the work); the ties are given (Qxb6601113aDoorTie.lean); close each card by the builder's one call (the guide's Derived/Test/ToyasCard.lean, 'card_holds'). Laid BY PROGRAM, IN A SANDBOX (cutbox-door.mjs). By AI agents, Wed Nov 11 2026. No macro, syntax, notation, axiom, sorry.
-/
import Derived.Test.Qxb6601113aDoorRows
import GoSem.ClaimSeven
namespace Go.Proofs.Qxb6601113aDoor
namespace Rows

/-- THE TIED CARD OF 'zzlaws_explain_b1.FnIsLanguageTagMatchesGrammar'. -/
def fnIsLanguageTagMatchesGrammarCard : Claim7 := { stood := { row := fnIsLanguageTagMatchesGrammarRow, standIns := [], harness := (true, "b8e654c57e8b495eef1593be68353b0cc1f8946e80ebd671bc96cf160b2b9b9b"), looks := false }, kinds := [], alts := [], laidByText := true, laidKinds := [.data, .pinned], laidTests := true, laidLooks := .later }
def FnIsLanguageTagMatchesGrammarCardSaid : Prop := Claim7.holds Tryd.pinned (.plain (OpenSpec.ofChange fnIsLanguageTagMatchesGrammarSpec)) fnIsLanguageTagMatchesGrammarCard

/-- THE TIED CARD OF 'zzlaws_explain_b1.FnIsLanguageTagLastSubtagRecursion'. -/
def fnIsLanguageTagLastSubtagRecursionCard : Claim7 := { stood := { row := fnIsLanguageTagLastSubtagRecursionRow, standIns := [], harness := (true, "b8e654c57e8b495eef1593be68353b0cc1f8946e80ebd671bc96cf160b2b9b9b"), looks := false }, kinds := [], alts := [], laidByText := true, laidKinds := [.data, .pinned], laidTests := true, laidLooks := .later }
def FnIsLanguageTagLastSubtagRecursionCardSaid : Prop := Claim7.holds Tryd.pinned (.plain (OpenSpec.ofChange fnIsLanguageTagLastSubtagRecursionSpec)) fnIsLanguageTagLastSubtagRecursionCard

/-- THE TIED CARD OF 'zzlaws_explain_b1.FnIsLanguageTagASCIICaseFree'. -/
def fnIsLanguageTagASCIICaseFreeCard : Claim7 := { stood := { row := fnIsLanguageTagASCIICaseFreeRow, standIns := [], harness := (true, "b8e654c57e8b495eef1593be68353b0cc1f8946e80ebd671bc96cf160b2b9b9b"), looks := false }, kinds := [], alts := [], laidByText := true, laidKinds := [.data, .pinned], laidTests := true, laidLooks := .later }
def FnIsLanguageTagASCIICaseFreeCardSaid : Prop := Claim7.holds Tryd.pinned (.plain (OpenSpec.ofChange fnIsLanguageTagASCIICaseFreeSpec)) fnIsLanguageTagASCIICaseFreeCard
end Rows
end Go.Proofs.Qxb6601113aDoor
