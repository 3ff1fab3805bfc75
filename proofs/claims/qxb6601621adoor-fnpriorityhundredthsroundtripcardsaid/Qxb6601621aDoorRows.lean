/-
  NARROWER THAN 'FOR EVERY INPUT', by the rows' own cells (each row's printed sentence says how): FnParseDecimalMatchesGrammarModel: laid · FnParseDecimalFractionZerosKeepValue: laid · FnPriorityHundredthsRoundTrip: laid.
  DERIVED. THE GIVEN ROWS OF THIS SEAT. 3 by the template 'for every input the law returns true; each argument reads behind the call as it read before'; 0 by the template 'total and deterministic' (their statements: Qxb6601621aDoorTotals.lean).
  GIVEN WITH THE SEED: the statements are not yours to turn. If you find one false, say at which input.
  Laid BY PROGRAM, IN A SANDBOX (cutbox-rows.mjs): the forced cells as the released guide's own fill.sh prints them over the translation 3fe92cb011dbff34… (all of the seat's roots in one cut). By AI agents, Wed Nov 11 2026. No macro, syntax, notation, axiom, sorry.
-/
import Derived.Test.Qxb6601621aDoorChecked
import GoSem.PinnedTables
import GoSem.Claim
import GoSem.ClaimJoined
import GoSem.ClaimMapViews
import Derived.JoinedTies
import Derived.KernelRfl
namespace Go.Proofs.Qxb6601621aDoor
/- THE CELL 'sum', in the pinned program and in every row, IS THE sha256 OF THE DUMP (.gsa) THAT Qxb6601621aDoorProg.lean LOADS. Nothing in Lean hashes anything: it is a label: what it is worth is what the hold of that sum in a sandbox is worth. -/
noncomputable def Tryd.pinned : Pinned := { name := "qxb6601621adoor", sum := "3fe92cb011dbff34a093e0645661af83095ce0f04b0d93cbd39bbcb450556cfe", checked := Tryd.checked }
namespace Rows
def none {H : Type} : Left H := { results := [], args := [] }

/- WHAT THE LISTED PACKAGE-LEVEL VARIABLES READ AS WHEN THE CALL BEGINS. Each datum BY PROGRAM (the guide's laid-datum.mjs) off the statement by which the dump's own 'gosem.cut.vars' lays the variable. In a bare row this is a premise. The card (Qxb6601621aDoorCards.lean) ties it to the program's text. -/
def laid_unicode_utf8_acceptRanges {H : Type} : DataW H := .agg [.agg [.lit (.int .u8 128), .lit (.int .u8 191)], .agg [.lit (.int .u8 160), .lit (.int .u8 191)], .agg [.lit (.int .u8 128), .lit (.int .u8 159)], .agg [.lit (.int .u8 144), .lit (.int .u8 191)], .agg [.lit (.int .u8 128), .lit (.int .u8 143)], .agg [.lit (.int .u8 0), .lit (.int .u8 0)], .agg [.lit (.int .u8 0), .lit (.int .u8 0)], .agg [.lit (.int .u8 0), .lit (.int .u8 0)], .agg [.lit (.int .u8 0), .lit (.int .u8 0)], .agg [.lit (.int .u8 0), .lit (.int .u8 0)], .agg [.lit (.int .u8 0), .lit (.int .u8 0)], .agg [.lit (.int .u8 0), .lit (.int .u8 0)], .agg [.lit (.int .u8 0), .lit (.int .u8 0)], .agg [.lit (.int .u8 0), .lit (.int .u8 0)], .agg [.lit (.int .u8 0), .lit (.int .u8 0)], .agg [.lit (.int .u8 0), .lit (.int .u8 0)]]
/-- One of Go's own tables, pinned by name: the form's constant. -/
def laid_unicode_utf8_first : DataW Unit := Go.Pinned.utf8First

/-- 'zzlaws_pkg_topology_b1.FnParseDecimalMatchesGrammarModel': WHATEVER THE INPUT: true; the input reads as it did. -/
def fnParseDecimalMatchesGrammarModelSpec : ChangeSpec := { name := "fnParseDecimalMatchesGrammarModel", fn := fun _ => fun
  | [d] => { results := [.lit (.bool true)], args := [d] }
  | _ => none }
def fnParseDecimalMatchesGrammarModelRow : OpenClaim := { program := "qxb6601621adoor", sum := "3fe92cb011dbff34a093e0645661af83095ce0f04b0d93cbd39bbcb450556cfe", func := "example.com/peerwright/peerwright/zzlaws_pkg_topology_b1.FnParseDecimalMatchesGrammarModel", spec := "fnParseDecimalMatchesGrammarModel", inPlace := ["internal/bytealg.IndexByteString", "internal/bytealg.IndexString"], named := ["unicode/utf8.first", "unicode/utf8.acceptRanges", "internal/bytealg.MaxLen"], apart := false, laid := [("unicode/utf8.acceptRanges", laid_unicode_utf8_acceptRanges), ("unicode/utf8.first", laid_unicode_utf8_first)] }
def FnParseDecimalMatchesGrammarModelSaid : Prop := fnParseDecimalMatchesGrammarModelRow.holds Tryd.pinned (OpenSpec.ofChange fnParseDecimalMatchesGrammarModelSpec)

/-- ITS FALSE NEIGHBOUR: 'it returns false'. Refute it at one input. -/
def fnParseDecimalMatchesGrammarModelWrong : ChangeSpec := { name := "fnParseDecimalMatchesGrammarModel", fn := fun _ => fun
  | [d] => { results := [.lit (.bool false)], args := [d] }
  | _ => none }
def FnParseDecimalMatchesGrammarModelWrongFalsely : Prop := fnParseDecimalMatchesGrammarModelRow.holds Tryd.pinned (OpenSpec.ofChange fnParseDecimalMatchesGrammarModelWrong)

/-- 'zzlaws_pkg_topology_b1.FnParseDecimalFractionZerosKeepValue': WHATEVER THE INPUT: true; the input reads as it did. -/
def fnParseDecimalFractionZerosKeepValueSpec : ChangeSpec := { name := "fnParseDecimalFractionZerosKeepValue", fn := fun _ => fun
  | [d] => { results := [.lit (.bool true)], args := [d] }
  | _ => none }
def fnParseDecimalFractionZerosKeepValueRow : OpenClaim := { program := "qxb6601621adoor", sum := "3fe92cb011dbff34a093e0645661af83095ce0f04b0d93cbd39bbcb450556cfe", func := "example.com/peerwright/peerwright/zzlaws_pkg_topology_b1.FnParseDecimalFractionZerosKeepValue", spec := "fnParseDecimalFractionZerosKeepValue", inPlace := ["internal/bytealg.IndexByteString", "internal/bytealg.IndexString"], named := ["unicode/utf8.first", "unicode/utf8.acceptRanges", "internal/bytealg.MaxLen"], apart := false, laid := [("unicode/utf8.acceptRanges", laid_unicode_utf8_acceptRanges), ("unicode/utf8.first", laid_unicode_utf8_first)] }
def FnParseDecimalFractionZerosKeepValueSaid : Prop := fnParseDecimalFractionZerosKeepValueRow.holds Tryd.pinned (OpenSpec.ofChange fnParseDecimalFractionZerosKeepValueSpec)

/-- ITS FALSE NEIGHBOUR: 'it returns false'. Refute it at one input. -/
def fnParseDecimalFractionZerosKeepValueWrong : ChangeSpec := { name := "fnParseDecimalFractionZerosKeepValue", fn := fun _ => fun
  | [d] => { results := [.lit (.bool false)], args := [d] }
  | _ => none }
def FnParseDecimalFractionZerosKeepValueWrongFalsely : Prop := fnParseDecimalFractionZerosKeepValueRow.holds Tryd.pinned (OpenSpec.ofChange fnParseDecimalFractionZerosKeepValueWrong)

/-- 'zzlaws_pkg_topology_b1.FnPriorityHundredthsRoundTrip': WHATEVER THE INPUT: true; the input reads as it did. -/
def fnPriorityHundredthsRoundTripSpec : ChangeSpec := { name := "fnPriorityHundredthsRoundTrip", fn := fun _ => fun
  | [d1, d2] => { results := [.lit (.bool true)], args := [d1, d2] }
  | _ => none }
def fnPriorityHundredthsRoundTripRow : OpenClaim := { program := "qxb6601621adoor", sum := "3fe92cb011dbff34a093e0645661af83095ce0f04b0d93cbd39bbcb450556cfe", func := "example.com/peerwright/peerwright/zzlaws_pkg_topology_b1.FnPriorityHundredthsRoundTrip", spec := "fnPriorityHundredthsRoundTrip", inPlace := ["internal/bytealg.IndexByteString", "internal/bytealg.IndexString"], named := ["unicode/utf8.first", "unicode/utf8.acceptRanges", "internal/bytealg.MaxLen"], apart := false, laid := [("unicode/utf8.acceptRanges", laid_unicode_utf8_acceptRanges), ("unicode/utf8.first", laid_unicode_utf8_first)] }
def FnPriorityHundredthsRoundTripSaid : Prop := fnPriorityHundredthsRoundTripRow.holds Tryd.pinned (OpenSpec.ofChange fnPriorityHundredthsRoundTripSpec)

/-- ITS FALSE NEIGHBOUR: 'it returns false'. Refute it at one input. -/
def fnPriorityHundredthsRoundTripWrong : ChangeSpec := { name := "fnPriorityHundredthsRoundTrip", fn := fun _ => fun
  | [d1, d2] => { results := [.lit (.bool false)], args := [d1, d2] }
  | _ => none }
def FnPriorityHundredthsRoundTripWrongFalsely : Prop := fnPriorityHundredthsRoundTripRow.holds Tryd.pinned (OpenSpec.ofChange fnPriorityHundredthsRoundTripWrong)

end Rows
end Go.Proofs.Qxb6601621aDoor
