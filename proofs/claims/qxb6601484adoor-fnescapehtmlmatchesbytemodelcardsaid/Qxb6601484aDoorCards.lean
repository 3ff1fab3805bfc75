/-
  DERIVED. GIVEN WITH THE SEED: THE CARDS: each row of Qxb6601484aDoorRows.lean that lists a variable, with what it lists TIED to the program's text (the seventh form; the later family's looks); each row that meets fmt, with fmt's text TOLD by the authors' own Lean function (tested against real Go, not proved from fmt's source: count such statements apart). THE CARD IS WHAT COUNTS. Prove the row's statement (the work); the ties are given (Qxb6601484aDoorTie.lean); close each card by the builder's one call (the guide's Derived/Test/ToyasCard.lean, 'card_holds'). Laid BY PROGRAM, IN A SANDBOX (cutbox-door.mjs). By AI agents, Wed Nov 11 2026. No macro, syntax, notation, axiom, sorry.
-/
import Derived.Test.Qxb6601484aDoorRows
import GoSem.ClaimSeven
namespace Go.Proofs.Qxb6601484aDoor
namespace Rows

/-- THE TIED CARD OF 'zzlaws_internal_httpjson_b1.FnEscapeHTMLMatchesByteModel'. -/
def fnEscapeHTMLMatchesByteModelCard : Claim7 := { stood := { row := fnEscapeHTMLMatchesByteModelRow, standIns := [], harness := (true, "87d68016c941abd6dd9c0b814d33b44dd9c501f79d43e43e911852dedbd3ed77"), looks := false }, kinds := [], alts := [], laidByText := true, laidKinds := [.data, .pinned], laidTests := true, laidLooks := .later }
def FnEscapeHTMLMatchesByteModelCardSaid : Prop := Claim7.holds Tryd.pinned (.plain (OpenSpec.ofChange fnEscapeHTMLMatchesByteModelSpec)) fnEscapeHTMLMatchesByteModelCard

/-- THE TIED CARD OF 'zzlaws_internal_httpjson_b1.FnEscapeHTMLLongerSuffixAbsorbsShorter'. -/
def fnEscapeHTMLLongerSuffixAbsorbsShorterCard : Claim7 := { stood := { row := fnEscapeHTMLLongerSuffixAbsorbsShorterRow, standIns := [], harness := (true, "87d68016c941abd6dd9c0b814d33b44dd9c501f79d43e43e911852dedbd3ed77"), looks := false }, kinds := [], alts := [], laidByText := true, laidKinds := [.data, .pinned], laidTests := true, laidLooks := .later }
def FnEscapeHTMLLongerSuffixAbsorbsShorterCardSaid : Prop := Claim7.holds Tryd.pinned (.plain (OpenSpec.ofChange fnEscapeHTMLLongerSuffixAbsorbsShorterSpec)) fnEscapeHTMLLongerSuffixAbsorbsShorterCard
end Rows
end Go.Proofs.Qxb6601484aDoor
