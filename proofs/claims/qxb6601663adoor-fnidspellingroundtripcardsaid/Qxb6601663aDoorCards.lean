/-
  DERIVED. GIVEN WITH THE SEED: THE CARDS: each row of Qxb6601663aDoorRows.lean that lists a variable, with what it lists TIED to the program's text (the seventh form; the later family's looks); each row that meets fmt, with fmt's text TOLD by the authors' own Lean function (tested against real Go, not proved from fmt's source: count such statements apart). THE CARD IS WHAT COUNTS. Prove the row's statement (the work); the ties are given (Qxb6601663aDoorTie.lean); close each card by the builder's one call (the guide's Derived/Test/ToyasCard.lean, 'card_holds'). Laid BY PROGRAM, IN A SANDBOX (cutbox-door.mjs). By AI agents, Wed Nov 11 2026. No macro, syntax, notation, axiom, sorry.
-/
import Derived.Test.Qxb6601663aDoorRows
import GoSem.ClaimSeven
namespace Go.Proofs.Qxb6601663aDoor
namespace Rows

/-- THE TIED CARD OF 'zzlaws_internal_wire_b1.FnIDSpellingRoundTrip'. -/
def fnIDSpellingRoundTripCard : Claim7 := { stood := { row := fnIDSpellingRoundTripRow, standIns := [], harness := (true, "738b57cb4aaf62d5388053a21d70fcb9c37ec34b4bdc46ef840d6cb502bd2eff"), looks := false }, kinds := [], alts := [], laidByText := true, laidKinds := [.data, .pinned, .pinned], laidTests := true, laidLooks := .later }
def FnIDSpellingRoundTripCardSaid : Prop := Claim7.holds Tryd.pinned (.plain (OpenSpec.ofChange fnIDSpellingRoundTripSpec)) fnIDSpellingRoundTripCard

/-- THE TIED CARD OF 'zzlaws_internal_wire_b1.FnCanonicalIDMatchesModel'. -/
def fnCanonicalIDMatchesModelCard : Claim7 := { stood := { row := fnCanonicalIDMatchesModelRow, standIns := [], harness := (true, "738b57cb4aaf62d5388053a21d70fcb9c37ec34b4bdc46ef840d6cb502bd2eff"), looks := false }, kinds := [], alts := [], laidByText := true, laidKinds := [.data, .pinned, .pinned], laidTests := true, laidLooks := .later }
def FnCanonicalIDMatchesModelCardSaid : Prop := Claim7.holds Tryd.pinned (.plain (OpenSpec.ofChange fnCanonicalIDMatchesModelSpec)) fnCanonicalIDMatchesModelCard

/-- THE TIED CARD OF 'zzlaws_internal_wire_b1.FnCanonicalIDIdempotentKeepsForm'. -/
def fnCanonicalIDIdempotentKeepsFormCard : Claim7 := { stood := { row := fnCanonicalIDIdempotentKeepsFormRow, standIns := [], harness := (true, "738b57cb4aaf62d5388053a21d70fcb9c37ec34b4bdc46ef840d6cb502bd2eff"), looks := false }, kinds := [], alts := [], laidByText := true, laidKinds := [.data, .pinned, .pinned], laidTests := true, laidLooks := .later }
def FnCanonicalIDIdempotentKeepsFormCardSaid : Prop := Claim7.holds Tryd.pinned (.plain (OpenSpec.ofChange fnCanonicalIDIdempotentKeepsFormSpec)) fnCanonicalIDIdempotentKeepsFormCard

/-- THE TIED CARD OF 'zzlaws_internal_wire_b1.FnCanonicalIDSameIffSameID'. -/
def fnCanonicalIDSameIffSameIDCard : Claim7 := { stood := { row := fnCanonicalIDSameIffSameIDRow, standIns := [], harness := (true, "738b57cb4aaf62d5388053a21d70fcb9c37ec34b4bdc46ef840d6cb502bd2eff"), looks := false }, kinds := [], alts := [], laidByText := true, laidKinds := [.data, .pinned, .pinned], laidTests := true, laidLooks := .later }
def FnCanonicalIDSameIffSameIDCardSaid : Prop := Claim7.holds Tryd.pinned (.plain (OpenSpec.ofChange fnCanonicalIDSameIffSameIDSpec)) fnCanonicalIDSameIffSameIDCard
end Rows
end Go.Proofs.Qxb6601663aDoor
