/-
  NARROWER THAN 'FOR EVERY INPUT', by the rows' own cells (each row's printed sentence says how): FnRulesStringShellRoundTrip: laid · FnClassNameReadsBackWrittenClass: laid · FnClassNameAcceptsExactlyLetterClasses: laid.
  DERIVED. THE GIVEN ROWS OF THIS SEAT. 3 by the template 'for every input the law returns true; each argument reads behind the call as it read before'; 0 by the template 'total and deterministic' (their statements: Qxb6601456aDoorTotals.lean).
  GIVEN WITH THE SEED: the statements are not yours to turn. If you find one false, say at which input.
  Laid BY PROGRAM, IN A SANDBOX (cutbox-rows.mjs): the forced cells as the released guide's own fill.sh prints them over the translation a6aea9df07c59b27… (all of the seat's roots in one cut). By AI agents, Wed Nov 11 2026. No macro, syntax, notation, axiom, sorry.
-/
import Derived.Test.Qxb6601456aDoorChecked
import GoSem.PinnedTables
import GoSem.Claim
import GoSem.ClaimJoined
import GoSem.ClaimMapViews
import Derived.JoinedTies
import Derived.KernelRfl
namespace Go.Proofs.Qxb6601456aDoor
/- THE CELL 'sum', in the pinned program and in every row, IS THE sha256 OF THE DUMP (.gsa) THAT Qxb6601456aDoorProg.lean LOADS. Nothing in Lean hashes anything: it is a label: what it is worth is what the hold of that sum in a sandbox is worth. -/
noncomputable def Tryd.pinned : Pinned := { name := "qxb6601456adoor", sum := "a6aea9df07c59b27e30b671b5948bfc1dcfd29d74b94a951f0f190627b517088", checked := Tryd.checked }
namespace Rows
def none {H : Type} : Left H := { results := [], args := [] }

/- WHAT THE LISTED PACKAGE-LEVEL VARIABLES READ AS WHEN THE CALL BEGINS. Each datum BY PROGRAM (the guide's laid-datum.mjs) off the statement by which the dump's own 'gosem.cut.vars' lays the variable. In a bare row this is a premise. The card (Qxb6601456aDoorCards.lean) ties it to the program's text. -/
def laid_unicode_utf8_acceptRanges {H : Type} : DataW H := .agg [.agg [.lit (.int .u8 128), .lit (.int .u8 191)], .agg [.lit (.int .u8 160), .lit (.int .u8 191)], .agg [.lit (.int .u8 128), .lit (.int .u8 159)], .agg [.lit (.int .u8 144), .lit (.int .u8 191)], .agg [.lit (.int .u8 128), .lit (.int .u8 143)], .agg [.lit (.int .u8 0), .lit (.int .u8 0)], .agg [.lit (.int .u8 0), .lit (.int .u8 0)], .agg [.lit (.int .u8 0), .lit (.int .u8 0)], .agg [.lit (.int .u8 0), .lit (.int .u8 0)], .agg [.lit (.int .u8 0), .lit (.int .u8 0)], .agg [.lit (.int .u8 0), .lit (.int .u8 0)], .agg [.lit (.int .u8 0), .lit (.int .u8 0)], .agg [.lit (.int .u8 0), .lit (.int .u8 0)], .agg [.lit (.int .u8 0), .lit (.int .u8 0)], .agg [.lit (.int .u8 0), .lit (.int .u8 0)], .agg [.lit (.int .u8 0), .lit (.int .u8 0)]]
/-- One of Go's own tables, pinned by name: the form's constant. -/
def laid_unicode_utf8_first : DataW Unit := Go.Pinned.utf8First

/-- 'zzlaws_internal_filter_b1.FnRulesStringShellRoundTrip': WHATEVER THE INPUT: true; the input reads as it did. -/
def fnRulesStringShellRoundTripSpec : ChangeSpec := { name := "fnRulesStringShellRoundTrip", fn := fun _ => fun
  | [d] => { results := [.lit (.bool true)], args := [d] }
  | _ => none }
def fnRulesStringShellRoundTripRow : OpenClaim := { program := "qxb6601456adoor", sum := "a6aea9df07c59b27e30b671b5948bfc1dcfd29d74b94a951f0f190627b517088", func := "example.com/tidemark/tidemark/zzlaws_internal_filter_b1.FnRulesStringShellRoundTrip", spec := "fnRulesStringShellRoundTrip", inPlace := ["internal/bytealg.CountString", "internal/bytealg.IndexByteString", "internal/bytealg.IndexString", "internal/abi.NoEscape", "internal/bytealg.MakeNoZero"], named := ["internal/bytealg.MaxLen", "unicode/utf8.first", "unicode/utf8.acceptRanges"], apart := false, laid := [("unicode/utf8.acceptRanges", laid_unicode_utf8_acceptRanges), ("unicode/utf8.first", laid_unicode_utf8_first)] }
def FnRulesStringShellRoundTripSaid : Prop := fnRulesStringShellRoundTripRow.holds Tryd.pinned (OpenSpec.ofChange fnRulesStringShellRoundTripSpec)

/-- ITS FALSE NEIGHBOUR: 'it returns false'. Refute it at one input. -/
def fnRulesStringShellRoundTripWrong : ChangeSpec := { name := "fnRulesStringShellRoundTrip", fn := fun _ => fun
  | [d] => { results := [.lit (.bool false)], args := [d] }
  | _ => none }
def FnRulesStringShellRoundTripWrongFalsely : Prop := fnRulesStringShellRoundTripRow.holds Tryd.pinned (OpenSpec.ofChange fnRulesStringShellRoundTripWrong)

/-- 'zzlaws_internal_filter_b1.FnClassNameReadsBackWrittenClass': WHATEVER THE INPUT: true; the input reads as it did. -/
def fnClassNameReadsBackWrittenClassSpec : ChangeSpec := { name := "fnClassNameReadsBackWrittenClass", fn := fun _ => fun
  | [d1, d2] => { results := [.lit (.bool true)], args := [d1, d2] }
  | _ => none }
def fnClassNameReadsBackWrittenClassRow : OpenClaim := { program := "qxb6601456adoor", sum := "a6aea9df07c59b27e30b671b5948bfc1dcfd29d74b94a951f0f190627b517088", func := "example.com/tidemark/tidemark/zzlaws_internal_filter_b1.FnClassNameReadsBackWrittenClass", spec := "fnClassNameReadsBackWrittenClass", inPlace := ["internal/bytealg.IndexByteString", "internal/bytealg.IndexString"], named := ["internal/bytealg.MaxLen", "unicode/utf8.first", "unicode/utf8.acceptRanges"], apart := false, laid := [("unicode/utf8.acceptRanges", laid_unicode_utf8_acceptRanges), ("unicode/utf8.first", laid_unicode_utf8_first)] }
def FnClassNameReadsBackWrittenClassSaid : Prop := fnClassNameReadsBackWrittenClassRow.holds Tryd.pinned (OpenSpec.ofChange fnClassNameReadsBackWrittenClassSpec)

/-- ITS FALSE NEIGHBOUR: 'it returns false'. Refute it at one input. -/
def fnClassNameReadsBackWrittenClassWrong : ChangeSpec := { name := "fnClassNameReadsBackWrittenClass", fn := fun _ => fun
  | [d1, d2] => { results := [.lit (.bool false)], args := [d1, d2] }
  | _ => none }
def FnClassNameReadsBackWrittenClassWrongFalsely : Prop := fnClassNameReadsBackWrittenClassRow.holds Tryd.pinned (OpenSpec.ofChange fnClassNameReadsBackWrittenClassWrong)

/-- 'zzlaws_internal_filter_b1.FnClassNameAcceptsExactlyLetterClasses': WHATEVER THE INPUT: true; the input reads as it did. -/
def fnClassNameAcceptsExactlyLetterClassesSpec : ChangeSpec := { name := "fnClassNameAcceptsExactlyLetterClasses", fn := fun _ => fun
  | [d] => { results := [.lit (.bool true)], args := [d] }
  | _ => none }
def fnClassNameAcceptsExactlyLetterClassesRow : OpenClaim := { program := "qxb6601456adoor", sum := "a6aea9df07c59b27e30b671b5948bfc1dcfd29d74b94a951f0f190627b517088", func := "example.com/tidemark/tidemark/zzlaws_internal_filter_b1.FnClassNameAcceptsExactlyLetterClasses", spec := "fnClassNameAcceptsExactlyLetterClasses", inPlace := ["internal/bytealg.IndexByteString", "internal/bytealg.IndexString"], named := ["internal/bytealg.MaxLen", "unicode/utf8.first", "unicode/utf8.acceptRanges"], apart := false, laid := [("unicode/utf8.acceptRanges", laid_unicode_utf8_acceptRanges), ("unicode/utf8.first", laid_unicode_utf8_first)] }
def FnClassNameAcceptsExactlyLetterClassesSaid : Prop := fnClassNameAcceptsExactlyLetterClassesRow.holds Tryd.pinned (OpenSpec.ofChange fnClassNameAcceptsExactlyLetterClassesSpec)

/-- ITS FALSE NEIGHBOUR: 'it returns false'. Refute it at one input. -/
def fnClassNameAcceptsExactlyLetterClassesWrong : ChangeSpec := { name := "fnClassNameAcceptsExactlyLetterClasses", fn := fun _ => fun
  | [d] => { results := [.lit (.bool false)], args := [d] }
  | _ => none }
def FnClassNameAcceptsExactlyLetterClassesWrongFalsely : Prop := fnClassNameAcceptsExactlyLetterClassesRow.holds Tryd.pinned (OpenSpec.ofChange fnClassNameAcceptsExactlyLetterClassesWrong)

end Rows
end Go.Proofs.Qxb6601456aDoor
