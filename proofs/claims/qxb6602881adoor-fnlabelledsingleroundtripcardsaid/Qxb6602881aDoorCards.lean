/-
  DERIVED. GIVEN WITH THE SEED: THE CARDS: each row of Qxb6602881aDoorRows.lean that lists a variable, with what it lists TIED to the program's text (the seventh form; the later family's looks); each row that meets fmt, with fmt's text TOLD by the authors' own Lean function (tested against real Go, not proved from fmt's source: count such statements apart). THE CARD IS WHAT COUNTS. Prove the row's statement (the work); the ties are given (Qxb6602881aDoorTie.lean); close each card by the builder's one call (the guide's Derived/Test/ToyasCard.lean, 'card_holds'). Laid BY PROGRAM, IN A SANDBOX (cutbox-door.mjs). By AI agents, Wed Nov 11 2026. No macro, syntax, notation, axiom, sorry.
-/
import Derived.Test.Qxb6602881aDoorRows
import GoSem.ClaimSeven
namespace Go.Proofs.Qxb6602881aDoor
namespace Rows

/-- THE TIED CARD OF 'zzlaws_internal_zfs_b1.FnLabelledSingleRoundTrip'. -/
def fnLabelledSingleRoundTripCard : Claim7 := { stood := { row := fnLabelledSingleRoundTripRow, standIns := [], harness := (true, "c0cd892c5f99e66820c26908ced2bc1cac18e7a01bd7a28b373da7261f965950"), looks := false }, kinds := [], alts := [], laidByText := true, laidKinds := [.data, .pinned], laidTests := true, laidLooks := .later }
def FnLabelledSingleRoundTripCardSaid : Prop := Claim7.holds Tryd.pinned (.plain (OpenSpec.ofChange fnLabelledSingleRoundTripSpec)) fnLabelledSingleRoundTripCard

/-- THE TIED CARD OF 'zzlaws_internal_zfs_b1.FnLabelledDistributesOverConcatenation'. -/
def fnLabelledDistributesOverConcatenationCard : Claim7 := { stood := { row := fnLabelledDistributesOverConcatenationRow, standIns := [], harness := (true, "c0cd892c5f99e66820c26908ced2bc1cac18e7a01bd7a28b373da7261f965950"), looks := false }, kinds := [], alts := [], laidByText := true, laidKinds := [.data, .pinned], laidTests := true, laidLooks := .later }
def FnLabelledDistributesOverConcatenationCardSaid : Prop := Claim7.holds Tryd.pinned (.plain (OpenSpec.ofChange fnLabelledDistributesOverConcatenationSpec)) fnLabelledDistributesOverConcatenationCard
end Rows
end Go.Proofs.Qxb6602881aDoor
