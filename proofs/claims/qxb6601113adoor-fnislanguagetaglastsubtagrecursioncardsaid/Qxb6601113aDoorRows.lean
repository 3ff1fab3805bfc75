/-
  NARROWER THAN 'FOR EVERY INPUT', by the rows' own cells (each row's printed sentence says how): FnIsLanguageTagMatchesGrammar: laid · FnIsLanguageTagLastSubtagRecursion: laid · FnIsLanguageTagASCIICaseFree: laid.
  DERIVED. THE GIVEN ROWS OF THIS SEAT. 3 by the template 'for every input the law returns true; each argument reads behind the call as it read before'; 0 by the template 'total and deterministic' (their statements: Qxb6601113aDoorTotals.lean).
  GIVEN WITH THE SEED: the statements are not yours to turn. If you find one false, say at which input.
  Laid BY PROGRAM, IN A SANDBOX (cutbox-rows.mjs): the forced cells as the released guide's own fill.sh prints them over the translation c210930abe59e9c2… (all of the seat's roots in one cut). By AI agents, Wed Nov 11 2026. No macro, syntax, notation, axiom, sorry.
-/
import Derived.Test.Qxb6601113aDoorChecked
import GoSem.PinnedTables
import GoSem.Claim
import GoSem.ClaimJoined
import GoSem.ClaimMapViews
import Derived.JoinedTies
import Derived.KernelRfl
namespace Go.Proofs.Qxb6601113aDoor
/- THE CELL 'sum', in the pinned program and in every row, IS THE sha256 OF THE DUMP (.gsa) THAT Qxb6601113aDoorProg.lean LOADS. Nothing in Lean hashes anything: it is a label: what it is worth is what the hold of that sum in a sandbox is worth. -/
noncomputable def Tryd.pinned : Pinned := { name := "qxb6601113adoor", sum := "c210930abe59e9c24e40b459d5f9c6d623e681bb7e295d0dfd5ed6229d7d80e5", checked := Tryd.checked }
namespace Rows
def none {H : Type} : Left H := { results := [], args := [] }

/- WHAT THE LISTED PACKAGE-LEVEL VARIABLES READ AS WHEN THE CALL BEGINS. Each datum BY PROGRAM (the guide's laid-datum.mjs) off the statement by which the dump's own 'gosem.cut.vars' lays the variable. In a bare row this is a premise. The card (Qxb6601113aDoorCards.lean) ties it to the program's text. -/
def laid_unicode_utf8_acceptRanges {H : Type} : DataW H := .agg [.agg [.lit (.int .u8 128), .lit (.int .u8 191)], .agg [.lit (.int .u8 160), .lit (.int .u8 191)], .agg [.lit (.int .u8 128), .lit (.int .u8 159)], .agg [.lit (.int .u8 144), .lit (.int .u8 191)], .agg [.lit (.int .u8 128), .lit (.int .u8 143)], .agg [.lit (.int .u8 0), .lit (.int .u8 0)], .agg [.lit (.int .u8 0), .lit (.int .u8 0)], .agg [.lit (.int .u8 0), .lit (.int .u8 0)], .agg [.lit (.int .u8 0), .lit (.int .u8 0)], .agg [.lit (.int .u8 0), .lit (.int .u8 0)], .agg [.lit (.int .u8 0), .lit (.int .u8 0)], .agg [.lit (.int .u8 0), .lit (.int .u8 0)], .agg [.lit (.int .u8 0), .lit (.int .u8 0)], .agg [.lit (.int .u8 0), .lit (.int .u8 0)], .agg [.lit (.int .u8 0), .lit (.int .u8 0)], .agg [.lit (.int .u8 0), .lit (.int .u8 0)]]
/-- One of Go's own tables, pinned by name: the form's constant. -/
def laid_unicode_utf8_first : DataW Unit := Go.Pinned.utf8First

/-- 'zzlaws_explain_b1.FnIsLanguageTagMatchesGrammar': WHATEVER THE INPUT: true; the input reads as it did. -/
def fnIsLanguageTagMatchesGrammarSpec : ChangeSpec := { name := "fnIsLanguageTagMatchesGrammar", fn := fun _ => fun
  | [d] => { results := [.lit (.bool true)], args := [d] }
  | _ => none }
def fnIsLanguageTagMatchesGrammarRow : OpenClaim := { program := "qxb6601113adoor", sum := "c210930abe59e9c24e40b459d5f9c6d623e681bb7e295d0dfd5ed6229d7d80e5", func := "example.com/clearblock/clearblock/zzlaws_explain_b1.FnIsLanguageTagMatchesGrammar", spec := "fnIsLanguageTagMatchesGrammar", inPlace := ["internal/bytealg.CountString", "internal/bytealg.IndexByteString", "internal/bytealg.IndexString"], named := ["unicode/utf8.first", "unicode/utf8.acceptRanges", "internal/bytealg.MaxLen"], apart := false, laid := [("unicode/utf8.acceptRanges", laid_unicode_utf8_acceptRanges), ("unicode/utf8.first", laid_unicode_utf8_first)] }
def FnIsLanguageTagMatchesGrammarSaid : Prop := fnIsLanguageTagMatchesGrammarRow.holds Tryd.pinned (OpenSpec.ofChange fnIsLanguageTagMatchesGrammarSpec)

/-- ITS FALSE NEIGHBOUR: 'it returns false'. Refute it at one input. -/
def fnIsLanguageTagMatchesGrammarWrong : ChangeSpec := { name := "fnIsLanguageTagMatchesGrammar", fn := fun _ => fun
  | [d] => { results := [.lit (.bool false)], args := [d] }
  | _ => none }
def FnIsLanguageTagMatchesGrammarWrongFalsely : Prop := fnIsLanguageTagMatchesGrammarRow.holds Tryd.pinned (OpenSpec.ofChange fnIsLanguageTagMatchesGrammarWrong)

/-- 'zzlaws_explain_b1.FnIsLanguageTagLastSubtagRecursion': WHATEVER THE INPUT: true; the input reads as it did. -/
def fnIsLanguageTagLastSubtagRecursionSpec : ChangeSpec := { name := "fnIsLanguageTagLastSubtagRecursion", fn := fun _ => fun
  | [d] => { results := [.lit (.bool true)], args := [d] }
  | _ => none }
def fnIsLanguageTagLastSubtagRecursionRow : OpenClaim := { program := "qxb6601113adoor", sum := "c210930abe59e9c24e40b459d5f9c6d623e681bb7e295d0dfd5ed6229d7d80e5", func := "example.com/clearblock/clearblock/zzlaws_explain_b1.FnIsLanguageTagLastSubtagRecursion", spec := "fnIsLanguageTagLastSubtagRecursion", inPlace := ["internal/bytealg.CountString", "internal/bytealg.IndexByteString", "internal/bytealg.IndexString"], named := ["unicode/utf8.first", "unicode/utf8.acceptRanges", "internal/bytealg.MaxLen"], apart := false, laid := [("unicode/utf8.acceptRanges", laid_unicode_utf8_acceptRanges), ("unicode/utf8.first", laid_unicode_utf8_first)] }
def FnIsLanguageTagLastSubtagRecursionSaid : Prop := fnIsLanguageTagLastSubtagRecursionRow.holds Tryd.pinned (OpenSpec.ofChange fnIsLanguageTagLastSubtagRecursionSpec)

/-- ITS FALSE NEIGHBOUR: 'it returns false'. Refute it at one input. -/
def fnIsLanguageTagLastSubtagRecursionWrong : ChangeSpec := { name := "fnIsLanguageTagLastSubtagRecursion", fn := fun _ => fun
  | [d] => { results := [.lit (.bool false)], args := [d] }
  | _ => none }
def FnIsLanguageTagLastSubtagRecursionWrongFalsely : Prop := fnIsLanguageTagLastSubtagRecursionRow.holds Tryd.pinned (OpenSpec.ofChange fnIsLanguageTagLastSubtagRecursionWrong)

/-- 'zzlaws_explain_b1.FnIsLanguageTagASCIICaseFree': WHATEVER THE INPUT: true; the input reads as it did. -/
def fnIsLanguageTagASCIICaseFreeSpec : ChangeSpec := { name := "fnIsLanguageTagASCIICaseFree", fn := fun _ => fun
  | [d] => { results := [.lit (.bool true)], args := [d] }
  | _ => none }
def fnIsLanguageTagASCIICaseFreeRow : OpenClaim := { program := "qxb6601113adoor", sum := "c210930abe59e9c24e40b459d5f9c6d623e681bb7e295d0dfd5ed6229d7d80e5", func := "example.com/clearblock/clearblock/zzlaws_explain_b1.FnIsLanguageTagASCIICaseFree", spec := "fnIsLanguageTagASCIICaseFree", inPlace := ["internal/bytealg.CountString", "internal/bytealg.IndexByteString", "internal/bytealg.IndexString"], named := ["unicode/utf8.first", "unicode/utf8.acceptRanges", "internal/bytealg.MaxLen"], apart := false, laid := [("unicode/utf8.acceptRanges", laid_unicode_utf8_acceptRanges), ("unicode/utf8.first", laid_unicode_utf8_first)] }
def FnIsLanguageTagASCIICaseFreeSaid : Prop := fnIsLanguageTagASCIICaseFreeRow.holds Tryd.pinned (OpenSpec.ofChange fnIsLanguageTagASCIICaseFreeSpec)

/-- ITS FALSE NEIGHBOUR: 'it returns false'. Refute it at one input. -/
def fnIsLanguageTagASCIICaseFreeWrong : ChangeSpec := { name := "fnIsLanguageTagASCIICaseFree", fn := fun _ => fun
  | [d] => { results := [.lit (.bool false)], args := [d] }
  | _ => none }
def FnIsLanguageTagASCIICaseFreeWrongFalsely : Prop := fnIsLanguageTagASCIICaseFreeRow.holds Tryd.pinned (OpenSpec.ofChange fnIsLanguageTagASCIICaseFreeWrong)

end Rows
end Go.Proofs.Qxb6601113aDoor
