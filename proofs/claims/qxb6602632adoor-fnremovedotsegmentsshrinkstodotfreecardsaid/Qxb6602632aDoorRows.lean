/-
  NARROWER THAN 'FOR EVERY INPUT', by the rows' own cells (each row's printed sentence says how): FnRemoveDotSegmentsMatchesRFCLoop: laid · FnRemoveDotSegmentsIdempotent: laid · FnRemoveDotSegmentsShrinksToDotFree: laid.
  DERIVED. THE GIVEN ROWS OF THIS SEAT. 3 by the template 'for every input the law returns true; each argument reads behind the call as it read before'; 0 by the template 'total and deterministic' (their statements: Qxb6602632aDoorTotals.lean).
  GIVEN WITH THE SEED: the statements are not yours to turn. If you find one false, say at which input.
  Laid BY PROGRAM, IN A SANDBOX (cutbox-rows.mjs): the forced cells as the released guide's own fill.sh prints them over the translation 7cd6dfb6bf4207d3… (all of the seat's roots in one cut). By AI agents, Wed Nov 11 2026. No macro, syntax, notation, axiom, sorry.
-/
import Derived.Test.Qxb6602632aDoorChecked
import GoSem.PinnedTables
import GoSem.Claim
import GoSem.ClaimJoined
import GoSem.ClaimMapViews
import Derived.JoinedTies
import Derived.KernelRfl
namespace Go.Proofs.Qxb6602632aDoor
/- THE CELL 'sum', in the pinned program and in every row, IS THE sha256 OF THE DUMP (.gsa) THAT Qxb6602632aDoorProg.lean LOADS. Nothing in Lean hashes anything: it is a label: what it is worth is what the hold of that sum in a sandbox is worth. -/
noncomputable def Tryd.pinned : Pinned := { name := "qxb6602632adoor", sum := "7cd6dfb6bf4207d3cdb412bd23d2be3b03239a40851ce0ac3d00470ab8676efe", checked := Tryd.checked }
namespace Rows
def none {H : Type} : Left H := { results := [], args := [] }

/- WHAT THE LISTED PACKAGE-LEVEL VARIABLES READ AS WHEN THE CALL BEGINS. Each datum BY PROGRAM (the guide's laid-datum.mjs) off the statement by which the dump's own 'gosem.cut.vars' lays the variable. In a bare row this is a premise. The card (Qxb6602632aDoorCards.lean) ties it to the program's text. -/
def laid_unicode_utf8_acceptRanges {H : Type} : DataW H := .agg [.agg [.lit (.int .u8 128), .lit (.int .u8 191)], .agg [.lit (.int .u8 160), .lit (.int .u8 191)], .agg [.lit (.int .u8 128), .lit (.int .u8 159)], .agg [.lit (.int .u8 144), .lit (.int .u8 191)], .agg [.lit (.int .u8 128), .lit (.int .u8 143)], .agg [.lit (.int .u8 0), .lit (.int .u8 0)], .agg [.lit (.int .u8 0), .lit (.int .u8 0)], .agg [.lit (.int .u8 0), .lit (.int .u8 0)], .agg [.lit (.int .u8 0), .lit (.int .u8 0)], .agg [.lit (.int .u8 0), .lit (.int .u8 0)], .agg [.lit (.int .u8 0), .lit (.int .u8 0)], .agg [.lit (.int .u8 0), .lit (.int .u8 0)], .agg [.lit (.int .u8 0), .lit (.int .u8 0)], .agg [.lit (.int .u8 0), .lit (.int .u8 0)], .agg [.lit (.int .u8 0), .lit (.int .u8 0)], .agg [.lit (.int .u8 0), .lit (.int .u8 0)]]
/-- One of Go's own tables, pinned by name: the form's constant. -/
def laid_unicode_utf8_first : DataW Unit := Go.Pinned.utf8First

/-- 'zzlaws_uri_b1.FnRemoveDotSegmentsMatchesRFCLoop': WHATEVER THE INPUT: true; the input reads as it did. -/
def fnRemoveDotSegmentsMatchesRFCLoopSpec : ChangeSpec := { name := "fnRemoveDotSegmentsMatchesRFCLoop", fn := fun _ => fun
  | [d] => { results := [.lit (.bool true)], args := [d] }
  | _ => none }
def fnRemoveDotSegmentsMatchesRFCLoopRow : OpenClaim := { program := "qxb6602632adoor", sum := "7cd6dfb6bf4207d3cdb412bd23d2be3b03239a40851ce0ac3d00470ab8676efe", func := "example.com/issuer/issuer/zzlaws_uri_b1.FnRemoveDotSegmentsMatchesRFCLoop", spec := "fnRemoveDotSegmentsMatchesRFCLoop", inPlace := ["internal/bytealg.CountString", "internal/bytealg.IndexByteString", "internal/bytealg.IndexString", "internal/abi.NoEscape", "internal/bytealg.MakeNoZero"], named := ["unicode/utf8.first", "unicode/utf8.acceptRanges", "internal/bytealg.MaxLen"], apart := false, laid := [("unicode/utf8.acceptRanges", laid_unicode_utf8_acceptRanges), ("unicode/utf8.first", laid_unicode_utf8_first)] }
def FnRemoveDotSegmentsMatchesRFCLoopSaid : Prop := fnRemoveDotSegmentsMatchesRFCLoopRow.holds Tryd.pinned (OpenSpec.ofChange fnRemoveDotSegmentsMatchesRFCLoopSpec)

/-- ITS FALSE NEIGHBOUR: 'it returns false'. Refute it at one input. -/
def fnRemoveDotSegmentsMatchesRFCLoopWrong : ChangeSpec := { name := "fnRemoveDotSegmentsMatchesRFCLoop", fn := fun _ => fun
  | [d] => { results := [.lit (.bool false)], args := [d] }
  | _ => none }
def FnRemoveDotSegmentsMatchesRFCLoopWrongFalsely : Prop := fnRemoveDotSegmentsMatchesRFCLoopRow.holds Tryd.pinned (OpenSpec.ofChange fnRemoveDotSegmentsMatchesRFCLoopWrong)

/-- 'zzlaws_uri_b1.FnRemoveDotSegmentsIdempotent': WHATEVER THE INPUT: true; the input reads as it did. -/
def fnRemoveDotSegmentsIdempotentSpec : ChangeSpec := { name := "fnRemoveDotSegmentsIdempotent", fn := fun _ => fun
  | [d] => { results := [.lit (.bool true)], args := [d] }
  | _ => none }
def fnRemoveDotSegmentsIdempotentRow : OpenClaim := { program := "qxb6602632adoor", sum := "7cd6dfb6bf4207d3cdb412bd23d2be3b03239a40851ce0ac3d00470ab8676efe", func := "example.com/issuer/issuer/zzlaws_uri_b1.FnRemoveDotSegmentsIdempotent", spec := "fnRemoveDotSegmentsIdempotent", inPlace := ["internal/bytealg.CountString", "internal/bytealg.IndexByteString", "internal/bytealg.IndexString", "internal/abi.NoEscape", "internal/bytealg.MakeNoZero"], named := ["unicode/utf8.first", "unicode/utf8.acceptRanges", "internal/bytealg.MaxLen"], apart := false, laid := [("unicode/utf8.acceptRanges", laid_unicode_utf8_acceptRanges), ("unicode/utf8.first", laid_unicode_utf8_first)] }
def FnRemoveDotSegmentsIdempotentSaid : Prop := fnRemoveDotSegmentsIdempotentRow.holds Tryd.pinned (OpenSpec.ofChange fnRemoveDotSegmentsIdempotentSpec)

/-- ITS FALSE NEIGHBOUR: 'it returns false'. Refute it at one input. -/
def fnRemoveDotSegmentsIdempotentWrong : ChangeSpec := { name := "fnRemoveDotSegmentsIdempotent", fn := fun _ => fun
  | [d] => { results := [.lit (.bool false)], args := [d] }
  | _ => none }
def FnRemoveDotSegmentsIdempotentWrongFalsely : Prop := fnRemoveDotSegmentsIdempotentRow.holds Tryd.pinned (OpenSpec.ofChange fnRemoveDotSegmentsIdempotentWrong)

/-- 'zzlaws_uri_b1.FnRemoveDotSegmentsShrinksToDotFree': WHATEVER THE INPUT: true; the input reads as it did. -/
def fnRemoveDotSegmentsShrinksToDotFreeSpec : ChangeSpec := { name := "fnRemoveDotSegmentsShrinksToDotFree", fn := fun _ => fun
  | [d] => { results := [.lit (.bool true)], args := [d] }
  | _ => none }
def fnRemoveDotSegmentsShrinksToDotFreeRow : OpenClaim := { program := "qxb6602632adoor", sum := "7cd6dfb6bf4207d3cdb412bd23d2be3b03239a40851ce0ac3d00470ab8676efe", func := "example.com/issuer/issuer/zzlaws_uri_b1.FnRemoveDotSegmentsShrinksToDotFree", spec := "fnRemoveDotSegmentsShrinksToDotFree", inPlace := ["internal/bytealg.CountString", "internal/bytealg.IndexByteString", "internal/bytealg.IndexString", "internal/abi.NoEscape", "internal/bytealg.MakeNoZero"], named := ["unicode/utf8.first", "unicode/utf8.acceptRanges", "internal/bytealg.MaxLen"], apart := false, laid := [("unicode/utf8.acceptRanges", laid_unicode_utf8_acceptRanges), ("unicode/utf8.first", laid_unicode_utf8_first)] }
def FnRemoveDotSegmentsShrinksToDotFreeSaid : Prop := fnRemoveDotSegmentsShrinksToDotFreeRow.holds Tryd.pinned (OpenSpec.ofChange fnRemoveDotSegmentsShrinksToDotFreeSpec)

/-- ITS FALSE NEIGHBOUR: 'it returns false'. Refute it at one input. -/
def fnRemoveDotSegmentsShrinksToDotFreeWrong : ChangeSpec := { name := "fnRemoveDotSegmentsShrinksToDotFree", fn := fun _ => fun
  | [d] => { results := [.lit (.bool false)], args := [d] }
  | _ => none }
def FnRemoveDotSegmentsShrinksToDotFreeWrongFalsely : Prop := fnRemoveDotSegmentsShrinksToDotFreeRow.holds Tryd.pinned (OpenSpec.ofChange fnRemoveDotSegmentsShrinksToDotFreeWrong)

end Rows
end Go.Proofs.Qxb6602632aDoor
