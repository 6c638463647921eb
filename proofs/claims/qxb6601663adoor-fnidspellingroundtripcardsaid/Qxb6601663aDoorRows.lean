/-
  NARROWER THAN 'FOR EVERY INPUT', by the rows' own cells (each row's printed sentence says how): FnIDSpellingRoundTrip: laid · FnCanonicalIDMatchesModel: laid · FnCanonicalIDIdempotentKeepsForm: laid · FnCanonicalIDSameIffSameID: laid.
  DERIVED. THE GIVEN ROWS OF THIS SEAT. 4 by the template 'for every input the law returns true; each argument reads behind the call as it read before'; 0 by the template 'total and deterministic' (their statements: Qxb6601663aDoorTotals.lean).
  GIVEN WITH THE SEED: the statements are not yours to turn. If you find one false, say at which input.
  Laid BY PROGRAM, IN A SANDBOX (cutbox-rows.mjs): the forced cells as the released guide's own fill.sh prints them over the translation 875615547c55f485… (all of the seat's roots in one cut). By AI agents, Wed Nov 11 2026. No macro, syntax, notation, axiom, sorry.
-/
import Derived.Test.Qxb6601663aDoorChecked
import GoSem.PinnedTables
import GoSem.Claim
import GoSem.ClaimJoined
import GoSem.ClaimMapViews
import Derived.JoinedTies
import Derived.KernelRfl
namespace Go.Proofs.Qxb6601663aDoor
/- THE CELL 'sum', in the pinned program and in every row, IS THE sha256 OF THE DUMP (.gsa) THAT Qxb6601663aDoorProg.lean LOADS. Nothing in Lean hashes anything: it is a label: what it is worth is what the hold of that sum in a sandbox is worth. -/
noncomputable def Tryd.pinned : Pinned := { name := "qxb6601663adoor", sum := "875615547c55f48547e4c78f646445d83ff2cd1690ae3ffa71932fb6979d48fe", checked := Tryd.checked }
namespace Rows
def none {H : Type} : Left H := { results := [], args := [] }

/- WHAT THE LISTED PACKAGE-LEVEL VARIABLES READ AS WHEN THE CALL BEGINS. Each datum BY PROGRAM (the guide's laid-datum.mjs) off the statement by which the dump's own 'gosem.cut.vars' lays the variable. In a bare row this is a premise. The card (Qxb6601663aDoorCards.lean) ties it to the program's text. -/
def laid_unicode_utf8_acceptRanges {H : Type} : DataW H := .agg [.agg [.lit (.int .u8 128), .lit (.int .u8 191)], .agg [.lit (.int .u8 160), .lit (.int .u8 191)], .agg [.lit (.int .u8 128), .lit (.int .u8 159)], .agg [.lit (.int .u8 144), .lit (.int .u8 191)], .agg [.lit (.int .u8 128), .lit (.int .u8 143)], .agg [.lit (.int .u8 0), .lit (.int .u8 0)], .agg [.lit (.int .u8 0), .lit (.int .u8 0)], .agg [.lit (.int .u8 0), .lit (.int .u8 0)], .agg [.lit (.int .u8 0), .lit (.int .u8 0)], .agg [.lit (.int .u8 0), .lit (.int .u8 0)], .agg [.lit (.int .u8 0), .lit (.int .u8 0)], .agg [.lit (.int .u8 0), .lit (.int .u8 0)], .agg [.lit (.int .u8 0), .lit (.int .u8 0)], .agg [.lit (.int .u8 0), .lit (.int .u8 0)], .agg [.lit (.int .u8 0), .lit (.int .u8 0)], .agg [.lit (.int .u8 0), .lit (.int .u8 0)]]
/-- One of Go's own tables, pinned by name: the form's constant. -/
def laid_unicode_CaseRanges : DataW Unit := Go.Pinned.caseRanges
/-- One of Go's own tables, pinned by name: the form's constant. -/
def laid_unicode_utf8_first : DataW Unit := Go.Pinned.utf8First

/-- 'zzlaws_internal_wire_b1.FnIDSpellingRoundTrip': WHATEVER THE INPUT: true; the input reads as it did. -/
def fnIDSpellingRoundTripSpec : ChangeSpec := { name := "fnIDSpellingRoundTrip", fn := fun _ => fun
  | [d1, d2] => { results := [.lit (.bool true)], args := [d1, d2] }
  | _ => none }
def fnIDSpellingRoundTripRow : OpenClaim := { program := "qxb6601663adoor", sum := "875615547c55f48547e4c78f646445d83ff2cd1690ae3ffa71932fb6979d48fe", func := "example.com/plumbline/plumbline/zzlaws_internal_wire_b1.FnIDSpellingRoundTrip", spec := "fnIDSpellingRoundTrip", inPlace := ["internal/abi.NoEscape", "internal/bytealg.MakeNoZero"], unfollowed := true, recurses := true, named := ["unicode/utf8.first", "unicode/utf8.acceptRanges", "unicode.CaseRanges"], apart := false, laid := [("unicode/utf8.acceptRanges", laid_unicode_utf8_acceptRanges), ("unicode.CaseRanges", laid_unicode_CaseRanges), ("unicode/utf8.first", laid_unicode_utf8_first)] }
def FnIDSpellingRoundTripSaid : Prop := fnIDSpellingRoundTripRow.holds Tryd.pinned (OpenSpec.ofChange fnIDSpellingRoundTripSpec)

/-- ITS FALSE NEIGHBOUR: 'it returns false'. Refute it at one input. -/
def fnIDSpellingRoundTripWrong : ChangeSpec := { name := "fnIDSpellingRoundTrip", fn := fun _ => fun
  | [d1, d2] => { results := [.lit (.bool false)], args := [d1, d2] }
  | _ => none }
def FnIDSpellingRoundTripWrongFalsely : Prop := fnIDSpellingRoundTripRow.holds Tryd.pinned (OpenSpec.ofChange fnIDSpellingRoundTripWrong)

/-- 'zzlaws_internal_wire_b1.FnCanonicalIDMatchesModel': WHATEVER THE INPUT: true; the input reads as it did. -/
def fnCanonicalIDMatchesModelSpec : ChangeSpec := { name := "fnCanonicalIDMatchesModel", fn := fun _ => fun
  | [d] => { results := [.lit (.bool true)], args := [d] }
  | _ => none }
def fnCanonicalIDMatchesModelRow : OpenClaim := { program := "qxb6601663adoor", sum := "875615547c55f48547e4c78f646445d83ff2cd1690ae3ffa71932fb6979d48fe", func := "example.com/plumbline/plumbline/zzlaws_internal_wire_b1.FnCanonicalIDMatchesModel", spec := "fnCanonicalIDMatchesModel", inPlace := ["internal/abi.NoEscape", "internal/bytealg.MakeNoZero"], unfollowed := true, recurses := true, named := ["unicode/utf8.first", "unicode/utf8.acceptRanges", "unicode.CaseRanges"], apart := false, laid := [("unicode/utf8.acceptRanges", laid_unicode_utf8_acceptRanges), ("unicode.CaseRanges", laid_unicode_CaseRanges), ("unicode/utf8.first", laid_unicode_utf8_first)] }
def FnCanonicalIDMatchesModelSaid : Prop := fnCanonicalIDMatchesModelRow.holds Tryd.pinned (OpenSpec.ofChange fnCanonicalIDMatchesModelSpec)

/-- ITS FALSE NEIGHBOUR: 'it returns false'. Refute it at one input. -/
def fnCanonicalIDMatchesModelWrong : ChangeSpec := { name := "fnCanonicalIDMatchesModel", fn := fun _ => fun
  | [d] => { results := [.lit (.bool false)], args := [d] }
  | _ => none }
def FnCanonicalIDMatchesModelWrongFalsely : Prop := fnCanonicalIDMatchesModelRow.holds Tryd.pinned (OpenSpec.ofChange fnCanonicalIDMatchesModelWrong)

/-- 'zzlaws_internal_wire_b1.FnCanonicalIDIdempotentKeepsForm': WHATEVER THE INPUT: true; the input reads as it did. -/
def fnCanonicalIDIdempotentKeepsFormSpec : ChangeSpec := { name := "fnCanonicalIDIdempotentKeepsForm", fn := fun _ => fun
  | [d] => { results := [.lit (.bool true)], args := [d] }
  | _ => none }
def fnCanonicalIDIdempotentKeepsFormRow : OpenClaim := { program := "qxb6601663adoor", sum := "875615547c55f48547e4c78f646445d83ff2cd1690ae3ffa71932fb6979d48fe", func := "example.com/plumbline/plumbline/zzlaws_internal_wire_b1.FnCanonicalIDIdempotentKeepsForm", spec := "fnCanonicalIDIdempotentKeepsForm", inPlace := ["internal/abi.NoEscape", "internal/bytealg.MakeNoZero"], unfollowed := true, recurses := true, named := ["unicode/utf8.first", "unicode/utf8.acceptRanges", "unicode.CaseRanges"], apart := false, laid := [("unicode/utf8.acceptRanges", laid_unicode_utf8_acceptRanges), ("unicode.CaseRanges", laid_unicode_CaseRanges), ("unicode/utf8.first", laid_unicode_utf8_first)] }
def FnCanonicalIDIdempotentKeepsFormSaid : Prop := fnCanonicalIDIdempotentKeepsFormRow.holds Tryd.pinned (OpenSpec.ofChange fnCanonicalIDIdempotentKeepsFormSpec)

/-- ITS FALSE NEIGHBOUR: 'it returns false'. Refute it at one input. -/
def fnCanonicalIDIdempotentKeepsFormWrong : ChangeSpec := { name := "fnCanonicalIDIdempotentKeepsForm", fn := fun _ => fun
  | [d] => { results := [.lit (.bool false)], args := [d] }
  | _ => none }
def FnCanonicalIDIdempotentKeepsFormWrongFalsely : Prop := fnCanonicalIDIdempotentKeepsFormRow.holds Tryd.pinned (OpenSpec.ofChange fnCanonicalIDIdempotentKeepsFormWrong)

/-- 'zzlaws_internal_wire_b1.FnCanonicalIDSameIffSameID': WHATEVER THE INPUT: true; the input reads as it did. -/
def fnCanonicalIDSameIffSameIDSpec : ChangeSpec := { name := "fnCanonicalIDSameIffSameID", fn := fun _ => fun
  | [d1, d2] => { results := [.lit (.bool true)], args := [d1, d2] }
  | _ => none }
def fnCanonicalIDSameIffSameIDRow : OpenClaim := { program := "qxb6601663adoor", sum := "875615547c55f48547e4c78f646445d83ff2cd1690ae3ffa71932fb6979d48fe", func := "example.com/plumbline/plumbline/zzlaws_internal_wire_b1.FnCanonicalIDSameIffSameID", spec := "fnCanonicalIDSameIffSameID", inPlace := ["internal/abi.NoEscape", "internal/bytealg.MakeNoZero"], unfollowed := true, recurses := true, named := ["unicode/utf8.first", "unicode/utf8.acceptRanges", "unicode.CaseRanges"], apart := false, laid := [("unicode/utf8.acceptRanges", laid_unicode_utf8_acceptRanges), ("unicode.CaseRanges", laid_unicode_CaseRanges), ("unicode/utf8.first", laid_unicode_utf8_first)] }
def FnCanonicalIDSameIffSameIDSaid : Prop := fnCanonicalIDSameIffSameIDRow.holds Tryd.pinned (OpenSpec.ofChange fnCanonicalIDSameIffSameIDSpec)

/-- ITS FALSE NEIGHBOUR: 'it returns false'. Refute it at one input. -/
def fnCanonicalIDSameIffSameIDWrong : ChangeSpec := { name := "fnCanonicalIDSameIffSameID", fn := fun _ => fun
  | [d1, d2] => { results := [.lit (.bool false)], args := [d1, d2] }
  | _ => none }
def FnCanonicalIDSameIffSameIDWrongFalsely : Prop := fnCanonicalIDSameIffSameIDRow.holds Tryd.pinned (OpenSpec.ofChange fnCanonicalIDSameIffSameIDWrong)

end Rows
end Go.Proofs.Qxb6601663aDoor
