/-
  NARROWER THAN 'FOR EVERY INPUT', by the rows' own cells (each row's printed sentence says how): FnEscapeHTMLMatchesByteModel: laid · FnEscapeHTMLLongerSuffixAbsorbsShorter: laid.
  DERIVED. THE GIVEN ROWS OF THIS SEAT. 2 by the template 'for every input the law returns true; each argument reads behind the call as it read before'; 0 by the template 'total and deterministic' (their statements: Qxb6601484aDoorTotals.lean).
  GIVEN WITH THE SEED: the statements are not yours to turn. If you find one false, say at which input.
  Laid BY PROGRAM, IN A SANDBOX (cutbox-rows.mjs): the forced cells as the released guide's own fill.sh prints them over the translation 7fc26a27d2cecacb… (all of the seat's roots in one cut). By AI agents, Wed Nov 11 2026. No macro, syntax, notation, axiom, sorry.
-/
import Derived.Test.Qxb6601484aDoorChecked
import GoSem.PinnedTables
import GoSem.Claim
import GoSem.ClaimJoined
import GoSem.ClaimMapViews
import Derived.JoinedTies
import Derived.KernelRfl
namespace Go.Proofs.Qxb6601484aDoor
/- THE CELL 'sum', in the pinned program and in every row, IS THE sha256 OF THE DUMP (.gsa) THAT Qxb6601484aDoorProg.lean LOADS. Nothing in Lean hashes anything: it is a label: what it is worth is what the hold of that sum in a sandbox is worth. -/
noncomputable def Tryd.pinned : Pinned := { name := "qxb6601484adoor", sum := "7fc26a27d2cecacb9a7de5aa9dfd37a1f6216bedad6ebc8816d84ca9edf45b07", checked := Tryd.checked }
namespace Rows
def none {H : Type} : Left H := { results := [], args := [] }

/- WHAT THE LISTED PACKAGE-LEVEL VARIABLES READ AS WHEN THE CALL BEGINS. Each datum BY PROGRAM (the guide's laid-datum.mjs) off the statement by which the dump's own 'gosem.cut.vars' lays the variable. In a bare row this is a premise. The card (Qxb6601484aDoorCards.lean) ties it to the program's text. -/
def laid_unicode_utf8_acceptRanges {H : Type} : DataW H := .agg [.agg [.lit (.int .u8 128), .lit (.int .u8 191)], .agg [.lit (.int .u8 160), .lit (.int .u8 191)], .agg [.lit (.int .u8 128), .lit (.int .u8 159)], .agg [.lit (.int .u8 144), .lit (.int .u8 191)], .agg [.lit (.int .u8 128), .lit (.int .u8 143)], .agg [.lit (.int .u8 0), .lit (.int .u8 0)], .agg [.lit (.int .u8 0), .lit (.int .u8 0)], .agg [.lit (.int .u8 0), .lit (.int .u8 0)], .agg [.lit (.int .u8 0), .lit (.int .u8 0)], .agg [.lit (.int .u8 0), .lit (.int .u8 0)], .agg [.lit (.int .u8 0), .lit (.int .u8 0)], .agg [.lit (.int .u8 0), .lit (.int .u8 0)], .agg [.lit (.int .u8 0), .lit (.int .u8 0)], .agg [.lit (.int .u8 0), .lit (.int .u8 0)], .agg [.lit (.int .u8 0), .lit (.int .u8 0)], .agg [.lit (.int .u8 0), .lit (.int .u8 0)]]
/-- One of Go's own tables, pinned by name: the form's constant. -/
def laid_unicode_utf8_first : DataW Unit := Go.Pinned.utf8First

/-- 'zzlaws_internal_httpjson_b1.FnEscapeHTMLMatchesByteModel': WHATEVER THE INPUT: true; the input reads as it did. -/
def fnEscapeHTMLMatchesByteModelSpec : ChangeSpec := { name := "fnEscapeHTMLMatchesByteModel", fn := fun _ => fun
  | [d1, d2] => { results := [.lit (.bool true)], args := [d1, d2] }
  | _ => none }
def fnEscapeHTMLMatchesByteModelRow : OpenClaim := { program := "qxb6601484adoor", sum := "7fc26a27d2cecacb9a7de5aa9dfd37a1f6216bedad6ebc8816d84ca9edf45b07", func := "example.com/quorumgate/quorumgate/zzlaws_internal_httpjson_b1.FnEscapeHTMLMatchesByteModel", spec := "fnEscapeHTMLMatchesByteModel", inPlace := ["internal/bytealg.IndexByteString", "internal/bytealg.IndexByte", "internal/bytealg.Index", "internal/bytealg.IndexString"], named := ["internal/bytealg.MaxLen", "unicode/utf8.first", "unicode/utf8.acceptRanges"], apart := false, laid := [("unicode/utf8.acceptRanges", laid_unicode_utf8_acceptRanges), ("unicode/utf8.first", laid_unicode_utf8_first)] }
def FnEscapeHTMLMatchesByteModelSaid : Prop := fnEscapeHTMLMatchesByteModelRow.holds Tryd.pinned (OpenSpec.ofChange fnEscapeHTMLMatchesByteModelSpec)

/-- ITS FALSE NEIGHBOUR: 'it returns false'. Refute it at one input. -/
def fnEscapeHTMLMatchesByteModelWrong : ChangeSpec := { name := "fnEscapeHTMLMatchesByteModel", fn := fun _ => fun
  | [d1, d2] => { results := [.lit (.bool false)], args := [d1, d2] }
  | _ => none }
def FnEscapeHTMLMatchesByteModelWrongFalsely : Prop := fnEscapeHTMLMatchesByteModelRow.holds Tryd.pinned (OpenSpec.ofChange fnEscapeHTMLMatchesByteModelWrong)

/-- 'zzlaws_internal_httpjson_b1.FnEscapeHTMLLongerSuffixAbsorbsShorter': WHATEVER THE INPUT: true; the input reads as it did. -/
def fnEscapeHTMLLongerSuffixAbsorbsShorterSpec : ChangeSpec := { name := "fnEscapeHTMLLongerSuffixAbsorbsShorter", fn := fun _ => fun
  | [d1, d2, d3] => { results := [.lit (.bool true)], args := [d1, d2, d3] }
  | _ => none }
def fnEscapeHTMLLongerSuffixAbsorbsShorterRow : OpenClaim := { program := "qxb6601484adoor", sum := "7fc26a27d2cecacb9a7de5aa9dfd37a1f6216bedad6ebc8816d84ca9edf45b07", func := "example.com/quorumgate/quorumgate/zzlaws_internal_httpjson_b1.FnEscapeHTMLLongerSuffixAbsorbsShorter", spec := "fnEscapeHTMLLongerSuffixAbsorbsShorter", inPlace := ["internal/bytealg.IndexByteString", "internal/bytealg.IndexByte", "internal/bytealg.Index", "internal/bytealg.IndexString"], named := ["internal/bytealg.MaxLen", "unicode/utf8.first", "unicode/utf8.acceptRanges"], apart := false, laid := [("unicode/utf8.acceptRanges", laid_unicode_utf8_acceptRanges), ("unicode/utf8.first", laid_unicode_utf8_first)] }
def FnEscapeHTMLLongerSuffixAbsorbsShorterSaid : Prop := fnEscapeHTMLLongerSuffixAbsorbsShorterRow.holds Tryd.pinned (OpenSpec.ofChange fnEscapeHTMLLongerSuffixAbsorbsShorterSpec)

/-- ITS FALSE NEIGHBOUR: 'it returns false'. Refute it at one input. -/
def fnEscapeHTMLLongerSuffixAbsorbsShorterWrong : ChangeSpec := { name := "fnEscapeHTMLLongerSuffixAbsorbsShorter", fn := fun _ => fun
  | [d1, d2, d3] => { results := [.lit (.bool false)], args := [d1, d2, d3] }
  | _ => none }
def FnEscapeHTMLLongerSuffixAbsorbsShorterWrongFalsely : Prop := fnEscapeHTMLLongerSuffixAbsorbsShorterRow.holds Tryd.pinned (OpenSpec.ofChange fnEscapeHTMLLongerSuffixAbsorbsShorterWrong)

end Rows
end Go.Proofs.Qxb6601484aDoor
