/-
  DERIVED. GIVEN WITH THE SEED: THE CARDS: each row of Qxb6601621aDoorRows.lean that lists a variable, with what it lists TIED to the program's text (the seventh form; the later family's looks); each row that meets fmt, with fmt's text TOLD by the authors' own Lean function (tested against real Go, not proved from fmt's source: count such statements apart). THE CARD IS WHAT COUNTS. Prove the row's statement (the work); the ties are given (Qxb6601621aDoorTie.lean); close each card by the builder's one call (the guide's Derived/Test/ToyasCard.lean, 'card_holds'). Laid BY PROGRAM, IN A SANDBOX (cutbox-door.mjs). By AI agents, Wed Nov 11 2026. No macro, syntax, notation, axiom, sorry.
-/
import Derived.Test.Qxb6601621aDoorRows
import GoSem.ClaimSeven
namespace Go.Proofs.Qxb6601621aDoor
namespace Rows

/-- THE TIED CARD OF 'zzlaws_pkg_topology_b1.FnParseDecimalMatchesGrammarModel'. -/
def fnParseDecimalMatchesGrammarModelCard : Claim7 := { stood := { row := fnParseDecimalMatchesGrammarModelRow, standIns := [], harness := (true, "4a4a7e3b3618272e24b4ab28d2b9328ec0eb09c5bff4759cec6131685aa00c0a"), looks := false }, kinds := [], alts := [], laidByText := true, laidKinds := [.data, .pinned], laidTests := true, laidLooks := .later }
def FnParseDecimalMatchesGrammarModelCardSaid : Prop := Claim7.holds Tryd.pinned (.plain (OpenSpec.ofChange fnParseDecimalMatchesGrammarModelSpec)) fnParseDecimalMatchesGrammarModelCard

/-- THE TIED CARD OF 'zzlaws_pkg_topology_b1.FnParseDecimalFractionZerosKeepValue'. -/
def fnParseDecimalFractionZerosKeepValueCard : Claim7 := { stood := { row := fnParseDecimalFractionZerosKeepValueRow, standIns := [], harness := (true, "4a4a7e3b3618272e24b4ab28d2b9328ec0eb09c5bff4759cec6131685aa00c0a"), looks := false }, kinds := [], alts := [], laidByText := true, laidKinds := [.data, .pinned], laidTests := true, laidLooks := .later }
def FnParseDecimalFractionZerosKeepValueCardSaid : Prop := Claim7.holds Tryd.pinned (.plain (OpenSpec.ofChange fnParseDecimalFractionZerosKeepValueSpec)) fnParseDecimalFractionZerosKeepValueCard

/-- THE TIED CARD OF 'zzlaws_pkg_topology_b1.FnPriorityHundredthsRoundTrip'. -/
def fnPriorityHundredthsRoundTripCard : Claim7 := { stood := { row := fnPriorityHundredthsRoundTripRow, standIns := [], harness := (true, "4a4a7e3b3618272e24b4ab28d2b9328ec0eb09c5bff4759cec6131685aa00c0a"), looks := false }, kinds := [], alts := [], laidByText := true, laidKinds := [.data, .pinned], laidTests := true, laidLooks := .later }
def FnPriorityHundredthsRoundTripCardSaid : Prop := Claim7.holds Tryd.pinned (.plain (OpenSpec.ofChange fnPriorityHundredthsRoundTripSpec)) fnPriorityHundredthsRoundTripCard
end Rows
end Go.Proofs.Qxb6601621aDoor
