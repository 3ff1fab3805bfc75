/-
  NARROWER THAN 'FOR EVERY INPUT', by the rows' own cells (each row's printed sentence says how): FnBracketsFindsTheCloseOfEachContainer: laid · FnStringMatchesByteAutomaton: laid · FnStringPieceByPiece: laid · FnBracketsMatchesByteAutomaton: laid · FnBracketsPieceByPiece: laid.
  DERIVED. THE GIVEN ROWS OF THIS SEAT. 5 by the template 'for every input the law returns true; each argument reads behind the call as it read before'; 0 by the template 'total and deterministic' (their statements: Qxb6600247aDoorTotals.lean).
  GIVEN WITH THE SEED: the statements are not yours to turn. If you find one false, say at which input.
  Laid BY PROGRAM, IN A SANDBOX (cutbox-rows.mjs): the forced cells as the released guide's own fill.sh prints them over the translation 439d6be27b5bc216… (all of the seat's roots in one cut). By AI agents, Wed Nov 11 2026. No macro, syntax, notation, axiom, sorry.
-/
import Derived.Test.Qxb6600247aDoorChecked
import GoSem.PinnedTables
import GoSem.Claim
import GoSem.ClaimJoined
import GoSem.ClaimMapViews
import Derived.JoinedTies
import Derived.KernelRfl
namespace Go.Proofs.Qxb6600247aDoor
/- THE CELL 'sum', in the pinned program and in every row, IS THE sha256 OF THE DUMP (.gsa) THAT Qxb6600247aDoorProg.lean LOADS. Nothing in Lean hashes anything: it is a label: what it is worth is what the hold of that sum in a sandbox is worth. -/
noncomputable def Tryd.pinned : Pinned := { name := "qxb6600247adoor", sum := "439d6be27b5bc21667e2b062928a6555324de3651e3b86a0cbd431164cf0f24c", checked := Tryd.checked }
namespace Rows
def none {H : Type} : Left H := { results := [], args := [] }

/- WHAT THE LISTED PACKAGE-LEVEL VARIABLES READ AS WHEN THE CALL BEGINS. Each datum BY PROGRAM (the guide's laid-datum.mjs) off the statement by which the dump's own 'gosem.cut.vars' lays the variable. In a bare row this is a premise. The card (Qxb6600247aDoorCards.lean) ties it to the program's text. -/
def laid_unicode_utf8_acceptRanges {H : Type} : DataW H := .agg [.agg [.lit (.int .u8 128), .lit (.int .u8 191)], .agg [.lit (.int .u8 160), .lit (.int .u8 191)], .agg [.lit (.int .u8 128), .lit (.int .u8 159)], .agg [.lit (.int .u8 144), .lit (.int .u8 191)], .agg [.lit (.int .u8 128), .lit (.int .u8 143)], .agg [.lit (.int .u8 0), .lit (.int .u8 0)], .agg [.lit (.int .u8 0), .lit (.int .u8 0)], .agg [.lit (.int .u8 0), .lit (.int .u8 0)], .agg [.lit (.int .u8 0), .lit (.int .u8 0)], .agg [.lit (.int .u8 0), .lit (.int .u8 0)], .agg [.lit (.int .u8 0), .lit (.int .u8 0)], .agg [.lit (.int .u8 0), .lit (.int .u8 0)], .agg [.lit (.int .u8 0), .lit (.int .u8 0)], .agg [.lit (.int .u8 0), .lit (.int .u8 0)], .agg [.lit (.int .u8 0), .lit (.int .u8 0)], .agg [.lit (.int .u8 0), .lit (.int .u8 0)]]
/-- One of Go's own tables, pinned by name: the form's constant. -/
def laid_unicode_utf8_first : DataW Unit := Go.Pinned.utf8First

/-- 'zzlaws_internal_jsontext_b1.FnBracketsFindsTheCloseOfEachContainer': WHATEVER THE INPUT: true; the input reads as it did. -/
def fnBracketsFindsTheCloseOfEachContainerSpec : ChangeSpec := { name := "fnBracketsFindsTheCloseOfEachContainer", fn := fun _ => fun
  | [d1, d2] => { results := [.lit (.bool true)], args := [d1, d2] }
  | _ => none }
def fnBracketsFindsTheCloseOfEachContainerRow : OpenClaim := { program := "qxb6600247adoor", sum := "439d6be27b5bc21667e2b062928a6555324de3651e3b86a0cbd431164cf0f24c", func := "example.com/alviso/alviso/zzlaws_internal_jsontext_b1.FnBracketsFindsTheCloseOfEachContainer", spec := "fnBracketsFindsTheCloseOfEachContainer", inPlace := ["internal/bytealg.IndexByteString", "internal/bytealg.IndexByte", "internal/bytealg.Index", "internal/bytealg.IndexString"], named := ["internal/bytealg.MaxLen", "unicode/utf8.first", "unicode/utf8.acceptRanges"], apart := false, laid := [("unicode/utf8.acceptRanges", laid_unicode_utf8_acceptRanges), ("unicode/utf8.first", laid_unicode_utf8_first)] }
def FnBracketsFindsTheCloseOfEachContainerSaid : Prop := fnBracketsFindsTheCloseOfEachContainerRow.holds Tryd.pinned (OpenSpec.ofChange fnBracketsFindsTheCloseOfEachContainerSpec)

/-- ITS FALSE NEIGHBOUR: 'it returns false'. Refute it at one input. -/
def fnBracketsFindsTheCloseOfEachContainerWrong : ChangeSpec := { name := "fnBracketsFindsTheCloseOfEachContainer", fn := fun _ => fun
  | [d1, d2] => { results := [.lit (.bool false)], args := [d1, d2] }
  | _ => none }
def FnBracketsFindsTheCloseOfEachContainerWrongFalsely : Prop := fnBracketsFindsTheCloseOfEachContainerRow.holds Tryd.pinned (OpenSpec.ofChange fnBracketsFindsTheCloseOfEachContainerWrong)

/-- 'zzlaws_internal_jsontext_b1.FnStringMatchesByteAutomaton': WHATEVER THE INPUT: true; the input reads as it did. -/
def fnStringMatchesByteAutomatonSpec : ChangeSpec := { name := "fnStringMatchesByteAutomaton", fn := fun _ => fun
  | [d1, d2] => { results := [.lit (.bool true)], args := [d1, d2] }
  | _ => none }
def fnStringMatchesByteAutomatonRow : OpenClaim := { program := "qxb6600247adoor", sum := "439d6be27b5bc21667e2b062928a6555324de3651e3b86a0cbd431164cf0f24c", func := "example.com/alviso/alviso/zzlaws_internal_jsontext_b1.FnStringMatchesByteAutomaton", spec := "fnStringMatchesByteAutomaton", inPlace := ["internal/bytealg.IndexByteString", "internal/bytealg.IndexByte", "internal/bytealg.Index", "internal/bytealg.IndexString"], named := ["internal/bytealg.MaxLen", "unicode/utf8.first", "unicode/utf8.acceptRanges"], apart := false, laid := [("unicode/utf8.acceptRanges", laid_unicode_utf8_acceptRanges), ("unicode/utf8.first", laid_unicode_utf8_first)] }
def FnStringMatchesByteAutomatonSaid : Prop := fnStringMatchesByteAutomatonRow.holds Tryd.pinned (OpenSpec.ofChange fnStringMatchesByteAutomatonSpec)

/-- ITS FALSE NEIGHBOUR: 'it returns false'. Refute it at one input. -/
def fnStringMatchesByteAutomatonWrong : ChangeSpec := { name := "fnStringMatchesByteAutomaton", fn := fun _ => fun
  | [d1, d2] => { results := [.lit (.bool false)], args := [d1, d2] }
  | _ => none }
def FnStringMatchesByteAutomatonWrongFalsely : Prop := fnStringMatchesByteAutomatonRow.holds Tryd.pinned (OpenSpec.ofChange fnStringMatchesByteAutomatonWrong)

/-- 'zzlaws_internal_jsontext_b1.FnStringPieceByPiece': WHATEVER THE INPUT: true; the input reads as it did. -/
def fnStringPieceByPieceSpec : ChangeSpec := { name := "fnStringPieceByPiece", fn := fun _ => fun
  | [d1, d2, d3] => { results := [.lit (.bool true)], args := [d1, d2, d3] }
  | _ => none }
def fnStringPieceByPieceRow : OpenClaim := { program := "qxb6600247adoor", sum := "439d6be27b5bc21667e2b062928a6555324de3651e3b86a0cbd431164cf0f24c", func := "example.com/alviso/alviso/zzlaws_internal_jsontext_b1.FnStringPieceByPiece", spec := "fnStringPieceByPiece", inPlace := ["internal/bytealg.IndexByteString", "internal/bytealg.IndexByte", "internal/bytealg.Index", "internal/bytealg.IndexString"], named := ["internal/bytealg.MaxLen", "unicode/utf8.first", "unicode/utf8.acceptRanges"], apart := false, laid := [("unicode/utf8.acceptRanges", laid_unicode_utf8_acceptRanges), ("unicode/utf8.first", laid_unicode_utf8_first)] }
def FnStringPieceByPieceSaid : Prop := fnStringPieceByPieceRow.holds Tryd.pinned (OpenSpec.ofChange fnStringPieceByPieceSpec)

/-- ITS FALSE NEIGHBOUR: 'it returns false'. Refute it at one input. -/
def fnStringPieceByPieceWrong : ChangeSpec := { name := "fnStringPieceByPiece", fn := fun _ => fun
  | [d1, d2, d3] => { results := [.lit (.bool false)], args := [d1, d2, d3] }
  | _ => none }
def FnStringPieceByPieceWrongFalsely : Prop := fnStringPieceByPieceRow.holds Tryd.pinned (OpenSpec.ofChange fnStringPieceByPieceWrong)

/-- 'zzlaws_internal_jsontext_b1.FnBracketsMatchesByteAutomaton': WHATEVER THE INPUT: true; the input reads as it did. -/
def fnBracketsMatchesByteAutomatonSpec : ChangeSpec := { name := "fnBracketsMatchesByteAutomaton", fn := fun _ => fun
  | [d1, d2, d3, d4] => { results := [.lit (.bool true)], args := [d1, d2, d3, d4] }
  | _ => none }
def fnBracketsMatchesByteAutomatonRow : OpenClaim := { program := "qxb6600247adoor", sum := "439d6be27b5bc21667e2b062928a6555324de3651e3b86a0cbd431164cf0f24c", func := "example.com/alviso/alviso/zzlaws_internal_jsontext_b1.FnBracketsMatchesByteAutomaton", spec := "fnBracketsMatchesByteAutomaton", inPlace := ["internal/bytealg.IndexByteString", "internal/bytealg.IndexByte", "internal/bytealg.Index", "internal/bytealg.IndexString"], named := ["internal/bytealg.MaxLen", "unicode/utf8.first", "unicode/utf8.acceptRanges"], apart := false, laid := [("unicode/utf8.acceptRanges", laid_unicode_utf8_acceptRanges), ("unicode/utf8.first", laid_unicode_utf8_first)] }
def FnBracketsMatchesByteAutomatonSaid : Prop := fnBracketsMatchesByteAutomatonRow.holds Tryd.pinned (OpenSpec.ofChange fnBracketsMatchesByteAutomatonSpec)

/-- ITS FALSE NEIGHBOUR: 'it returns false'. Refute it at one input. -/
def fnBracketsMatchesByteAutomatonWrong : ChangeSpec := { name := "fnBracketsMatchesByteAutomaton", fn := fun _ => fun
  | [d1, d2, d3, d4] => { results := [.lit (.bool false)], args := [d1, d2, d3, d4] }
  | _ => none }
def FnBracketsMatchesByteAutomatonWrongFalsely : Prop := fnBracketsMatchesByteAutomatonRow.holds Tryd.pinned (OpenSpec.ofChange fnBracketsMatchesByteAutomatonWrong)

/-- 'zzlaws_internal_jsontext_b1.FnBracketsPieceByPiece': WHATEVER THE INPUT: true; the input reads as it did. -/
def fnBracketsPieceByPieceSpec : ChangeSpec := { name := "fnBracketsPieceByPiece", fn := fun _ => fun
  | [d1, d2, d3, d4, d5] => { results := [.lit (.bool true)], args := [d1, d2, d3, d4, d5] }
  | _ => none }
def fnBracketsPieceByPieceRow : OpenClaim := { program := "qxb6600247adoor", sum := "439d6be27b5bc21667e2b062928a6555324de3651e3b86a0cbd431164cf0f24c", func := "example.com/alviso/alviso/zzlaws_internal_jsontext_b1.FnBracketsPieceByPiece", spec := "fnBracketsPieceByPiece", inPlace := ["internal/bytealg.IndexByteString", "internal/bytealg.IndexByte", "internal/bytealg.Index", "internal/bytealg.IndexString"], named := ["internal/bytealg.MaxLen", "unicode/utf8.first", "unicode/utf8.acceptRanges"], apart := false, laid := [("unicode/utf8.acceptRanges", laid_unicode_utf8_acceptRanges), ("unicode/utf8.first", laid_unicode_utf8_first)] }
def FnBracketsPieceByPieceSaid : Prop := fnBracketsPieceByPieceRow.holds Tryd.pinned (OpenSpec.ofChange fnBracketsPieceByPieceSpec)

/-- ITS FALSE NEIGHBOUR: 'it returns false'. Refute it at one input. -/
def fnBracketsPieceByPieceWrong : ChangeSpec := { name := "fnBracketsPieceByPiece", fn := fun _ => fun
  | [d1, d2, d3, d4, d5] => { results := [.lit (.bool false)], args := [d1, d2, d3, d4, d5] }
  | _ => none }
def FnBracketsPieceByPieceWrongFalsely : Prop := fnBracketsPieceByPieceRow.holds Tryd.pinned (OpenSpec.ofChange fnBracketsPieceByPieceWrong)

end Rows
end Go.Proofs.Qxb6600247aDoor
