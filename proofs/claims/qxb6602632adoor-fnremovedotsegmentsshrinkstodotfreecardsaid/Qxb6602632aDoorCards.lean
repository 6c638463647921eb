/-
  DERIVED. GIVEN WITH THE SEED: THE CARDS: each row of Qxb6602632aDoorRows.lean that lists a variable, with what it lists TIED to the program's text (the seventh form; the later family's looks); each row that meets fmt, with fmt's text TOLD by the authors' own Lean function (tested against real Go, not proved from fmt's source: count such statements apart). THE CARD IS WHAT COUNTS. Prove the row's statement (the work); the ties are given (Qxb6602632aDoorTie.lean); close each card by the builder's one call (the guide's Derived/Test/ToyasCard.lean, 'card_holds'). Laid BY PROGRAM, IN A SANDBOX (cutbox-door.mjs). By AI agents, Wed Nov 11 2026. No macro, syntax, notation, axiom, sorry.
-/
import Derived.Test.Qxb6602632aDoorRows
import GoSem.ClaimSeven
namespace Go.Proofs.Qxb6602632aDoor
namespace Rows

/-- THE TIED CARD OF 'zzlaws_uri_b1.FnRemoveDotSegmentsMatchesRFCLoop'. -/
def fnRemoveDotSegmentsMatchesRFCLoopCard : Claim7 := { stood := { row := fnRemoveDotSegmentsMatchesRFCLoopRow, standIns := [], harness := (true, "5b421a7c032a2c4ecede2ab11f822d4c53a2bbd17081767888597207afded4d6"), looks := false }, kinds := [], alts := [], laidByText := true, laidKinds := [.data, .pinned], laidTests := true, laidLooks := .later }
def FnRemoveDotSegmentsMatchesRFCLoopCardSaid : Prop := Claim7.holds Tryd.pinned (.plain (OpenSpec.ofChange fnRemoveDotSegmentsMatchesRFCLoopSpec)) fnRemoveDotSegmentsMatchesRFCLoopCard

/-- THE TIED CARD OF 'zzlaws_uri_b1.FnRemoveDotSegmentsIdempotent'. -/
def fnRemoveDotSegmentsIdempotentCard : Claim7 := { stood := { row := fnRemoveDotSegmentsIdempotentRow, standIns := [], harness := (true, "5b421a7c032a2c4ecede2ab11f822d4c53a2bbd17081767888597207afded4d6"), looks := false }, kinds := [], alts := [], laidByText := true, laidKinds := [.data, .pinned], laidTests := true, laidLooks := .later }
def FnRemoveDotSegmentsIdempotentCardSaid : Prop := Claim7.holds Tryd.pinned (.plain (OpenSpec.ofChange fnRemoveDotSegmentsIdempotentSpec)) fnRemoveDotSegmentsIdempotentCard

/-- THE TIED CARD OF 'zzlaws_uri_b1.FnRemoveDotSegmentsShrinksToDotFree'. -/
def fnRemoveDotSegmentsShrinksToDotFreeCard : Claim7 := { stood := { row := fnRemoveDotSegmentsShrinksToDotFreeRow, standIns := [], harness := (true, "5b421a7c032a2c4ecede2ab11f822d4c53a2bbd17081767888597207afded4d6"), looks := false }, kinds := [], alts := [], laidByText := true, laidKinds := [.data, .pinned], laidTests := true, laidLooks := .later }
def FnRemoveDotSegmentsShrinksToDotFreeCardSaid : Prop := Claim7.holds Tryd.pinned (.plain (OpenSpec.ofChange fnRemoveDotSegmentsShrinksToDotFreeSpec)) fnRemoveDotSegmentsShrinksToDotFreeCard
end Rows
end Go.Proofs.Qxb6602632aDoor
