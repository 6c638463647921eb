/-
  DERIVED. GIVEN WITH THE SEED: THE CARDS: each row of Qxb6601456aDoorRows.lean that lists a variable, with what it lists TIED to the program's text (the seventh form; the later family's looks); each row that meets fmt, with fmt's text TOLD by the authors' own Lean function (tested against real Go, not proved from fmt's source: count such statements apart). THE CARD IS WHAT COUNTS. Prove the row's statement (the work); the ties are given (Qxb6601456aDoorTie.lean); close each card by the builder's one call (the guide's Derived/Test/ToyasCard.lean, 'card_holds'). Laid BY PROGRAM, IN A SANDBOX (cutbox-door.mjs). By AI agents, Wed Nov 11 2026. No macro, syntax, notation, axiom, sorry.
-/
import Derived.Test.Qxb6601456aDoorRows
import GoSem.ClaimSeven
namespace Go.Proofs.Qxb6601456aDoor
namespace Rows

/-- THE TIED CARD OF 'zzlaws_internal_filter_b1.FnRulesStringShellRoundTrip'. -/
def fnRulesStringShellRoundTripCard : Claim7 := { stood := { row := fnRulesStringShellRoundTripRow, standIns := [], harness := (true, "5ddfa65ce8b31eeaa390c7ecc7bf8a11387d5e9f0c64598c8388909e2bde9d82"), looks := false }, kinds := [], alts := [], laidByText := true, laidKinds := [.data, .pinned], laidTests := true, laidLooks := .later }
def FnRulesStringShellRoundTripCardSaid : Prop := Claim7.holds Tryd.pinned (.plain (OpenSpec.ofChange fnRulesStringShellRoundTripSpec)) fnRulesStringShellRoundTripCard

/-- THE TIED CARD OF 'zzlaws_internal_filter_b1.FnClassNameReadsBackWrittenClass'. -/
def fnClassNameReadsBackWrittenClassCard : Claim7 := { stood := { row := fnClassNameReadsBackWrittenClassRow, standIns := [], harness := (true, "5ddfa65ce8b31eeaa390c7ecc7bf8a11387d5e9f0c64598c8388909e2bde9d82"), looks := false }, kinds := [], alts := [], laidByText := true, laidKinds := [.data, .pinned], laidTests := true, laidLooks := .later }
def FnClassNameReadsBackWrittenClassCardSaid : Prop := Claim7.holds Tryd.pinned (.plain (OpenSpec.ofChange fnClassNameReadsBackWrittenClassSpec)) fnClassNameReadsBackWrittenClassCard

/-- THE TIED CARD OF 'zzlaws_internal_filter_b1.FnClassNameAcceptsExactlyLetterClasses'. -/
def fnClassNameAcceptsExactlyLetterClassesCard : Claim7 := { stood := { row := fnClassNameAcceptsExactlyLetterClassesRow, standIns := [], harness := (true, "5ddfa65ce8b31eeaa390c7ecc7bf8a11387d5e9f0c64598c8388909e2bde9d82"), looks := false }, kinds := [], alts := [], laidByText := true, laidKinds := [.data, .pinned], laidTests := true, laidLooks := .later }
def FnClassNameAcceptsExactlyLetterClassesCardSaid : Prop := Claim7.holds Tryd.pinned (.plain (OpenSpec.ofChange fnClassNameAcceptsExactlyLetterClassesSpec)) fnClassNameAcceptsExactlyLetterClassesCard
end Rows
end Go.Proofs.Qxb6601456aDoor
