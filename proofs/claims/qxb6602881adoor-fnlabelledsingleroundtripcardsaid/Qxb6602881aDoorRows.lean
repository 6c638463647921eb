/-
  NARROWER THAN 'FOR EVERY INPUT', by the rows' own cells (each row's printed sentence says how): FnLabelledSingleRoundTrip: laid · FnLabelledDistributesOverConcatenation: laid.
  DERIVED. THE GIVEN ROWS OF THIS SEAT. 2 by the template 'for every input the law returns true; each argument reads behind the call as it read before'; 0 by the template 'total and deterministic' (their statements: Qxb6602881aDoorTotals.lean).
  GIVEN WITH THE SEED: the statements are not yours to turn. If you find one false, say at which input.
  Laid BY PROGRAM, IN A SANDBOX (cutbox-rows.mjs): the forced cells as the released guide's own fill.sh prints them over the translation eed6fb2b06b789e9… (all of the seat's roots in one cut). By AI agents, Wed Nov 11 2026. No macro, syntax, notation, axiom, sorry.
-/
import Derived.Test.Qxb6602881aDoorChecked
import GoSem.PinnedTables
import GoSem.Claim
import GoSem.ClaimJoined
import GoSem.ClaimMapViews
import Derived.JoinedTies
import Derived.KernelRfl
namespace Go.Proofs.Qxb6602881aDoor
/- THE CELL 'sum', in the pinned program and in every row, IS THE sha256 OF THE DUMP (.gsa) THAT Qxb6602881aDoorProg.lean LOADS. Nothing in Lean hashes anything: it is a label: what it is worth is what the hold of that sum in a sandbox is worth. -/
noncomputable def Tryd.pinned : Pinned := { name := "qxb6602881adoor", sum := "eed6fb2b06b789e930d43dc11c95b2bc7a60e152fa906c0c369755c1b19a7df8", checked := Tryd.checked }
namespace Rows
def none {H : Type} : Left H := { results := [], args := [] }

/- WHAT THE LISTED PACKAGE-LEVEL VARIABLES READ AS WHEN THE CALL BEGINS. Each datum BY PROGRAM (the guide's laid-datum.mjs) off the statement by which the dump's own 'gosem.cut.vars' lays the variable. In a bare row this is a premise. The card (Qxb6602881aDoorCards.lean) ties it to the program's text. -/
def laid_unicode_utf8_acceptRanges {H : Type} : DataW H := .agg [.agg [.lit (.int .u8 128), .lit (.int .u8 191)], .agg [.lit (.int .u8 160), .lit (.int .u8 191)], .agg [.lit (.int .u8 128), .lit (.int .u8 159)], .agg [.lit (.int .u8 144), .lit (.int .u8 191)], .agg [.lit (.int .u8 128), .lit (.int .u8 143)], .agg [.lit (.int .u8 0), .lit (.int .u8 0)], .agg [.lit (.int .u8 0), .lit (.int .u8 0)], .agg [.lit (.int .u8 0), .lit (.int .u8 0)], .agg [.lit (.int .u8 0), .lit (.int .u8 0)], .agg [.lit (.int .u8 0), .lit (.int .u8 0)], .agg [.lit (.int .u8 0), .lit (.int .u8 0)], .agg [.lit (.int .u8 0), .lit (.int .u8 0)], .agg [.lit (.int .u8 0), .lit (.int .u8 0)], .agg [.lit (.int .u8 0), .lit (.int .u8 0)], .agg [.lit (.int .u8 0), .lit (.int .u8 0)], .agg [.lit (.int .u8 0), .lit (.int .u8 0)]]
/-- One of Go's own tables, pinned by name: the form's constant. -/
def laid_unicode_utf8_first : DataW Unit := Go.Pinned.utf8First

/-- 'zzlaws_internal_zfs_b1.FnLabelledSingleRoundTrip': WHATEVER THE INPUT: true; the input reads as it did. -/
def fnLabelledSingleRoundTripSpec : ChangeSpec := { name := "fnLabelledSingleRoundTrip", fn := fun _ => fun
  | [d1, d2] => { results := [.lit (.bool true)], args := [d1, d2] }
  | _ => none }
def fnLabelledSingleRoundTripRow : OpenClaim := { program := "qxb6602881adoor", sum := "eed6fb2b06b789e930d43dc11c95b2bc7a60e152fa906c0c369755c1b19a7df8", func := "example.com/stillframe/stillframe/zzlaws_internal_zfs_b1.FnLabelledSingleRoundTrip", spec := "fnLabelledSingleRoundTrip", inPlace := ["internal/bytealg.IndexByteString", "internal/bytealg.IndexString", "internal/bytealg.CountString"], named := ["internal/bytealg.MaxLen", "unicode/utf8.first", "unicode/utf8.acceptRanges"], apart := false, laid := [("unicode/utf8.acceptRanges", laid_unicode_utf8_acceptRanges), ("unicode/utf8.first", laid_unicode_utf8_first)] }
def FnLabelledSingleRoundTripSaid : Prop := fnLabelledSingleRoundTripRow.holds Tryd.pinned (OpenSpec.ofChange fnLabelledSingleRoundTripSpec)

/-- ITS FALSE NEIGHBOUR: 'it returns false'. Refute it at one input. -/
def fnLabelledSingleRoundTripWrong : ChangeSpec := { name := "fnLabelledSingleRoundTrip", fn := fun _ => fun
  | [d1, d2] => { results := [.lit (.bool false)], args := [d1, d2] }
  | _ => none }
def FnLabelledSingleRoundTripWrongFalsely : Prop := fnLabelledSingleRoundTripRow.holds Tryd.pinned (OpenSpec.ofChange fnLabelledSingleRoundTripWrong)

/-- 'zzlaws_internal_zfs_b1.FnLabelledDistributesOverConcatenation': WHATEVER THE INPUT: true; the input reads as it did. -/
def fnLabelledDistributesOverConcatenationSpec : ChangeSpec := { name := "fnLabelledDistributesOverConcatenation", fn := fun _ => fun
  | [d1, d2, d3, d4] => { results := [.lit (.bool true)], args := [d1, d2, d3, d4] }
  | _ => none }
def fnLabelledDistributesOverConcatenationRow : OpenClaim := { program := "qxb6602881adoor", sum := "eed6fb2b06b789e930d43dc11c95b2bc7a60e152fa906c0c369755c1b19a7df8", func := "example.com/stillframe/stillframe/zzlaws_internal_zfs_b1.FnLabelledDistributesOverConcatenation", spec := "fnLabelledDistributesOverConcatenation", inPlace := ["internal/bytealg.IndexByteString", "internal/bytealg.IndexString", "internal/bytealg.CountString"], named := ["internal/bytealg.MaxLen", "unicode/utf8.first", "unicode/utf8.acceptRanges"], apart := false, laid := [("unicode/utf8.acceptRanges", laid_unicode_utf8_acceptRanges), ("unicode/utf8.first", laid_unicode_utf8_first)] }
def FnLabelledDistributesOverConcatenationSaid : Prop := fnLabelledDistributesOverConcatenationRow.holds Tryd.pinned (OpenSpec.ofChange fnLabelledDistributesOverConcatenationSpec)

/-- ITS FALSE NEIGHBOUR: 'it returns false'. Refute it at one input. -/
def fnLabelledDistributesOverConcatenationWrong : ChangeSpec := { name := "fnLabelledDistributesOverConcatenation", fn := fun _ => fun
  | [d1, d2, d3, d4] => { results := [.lit (.bool false)], args := [d1, d2, d3, d4] }
  | _ => none }
def FnLabelledDistributesOverConcatenationWrongFalsely : Prop := fnLabelledDistributesOverConcatenationRow.holds Tryd.pinned (OpenSpec.ofChange fnLabelledDistributesOverConcatenationWrong)

end Rows
end Go.Proofs.Qxb6602881aDoor
