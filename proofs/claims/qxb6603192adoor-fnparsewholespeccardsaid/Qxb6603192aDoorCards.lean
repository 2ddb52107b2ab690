/-
  DERIVED. GIVEN WITH THE SEED: THE CARDS: each row of Qxb6603192aDoorRows.lean that lists a variable, with what it lists TIED to the program's text (the seventh form; the later family's looks); each row that meets fmt, with fmt's text TOLD by the authors' own Lean function (tested against real Go, not proved from fmt's source: count such statements apart). THE CARD IS WHAT COUNTS. Prove the row's statement (the work); the ties are given (Qxb6603192aDoorTie.lean); close each card by the builder's one call (the guide's Derived/Test/ToyasCard.lean, 'card_holds'). Laid BY PROGRAM, IN A SANDBOX (cutbox-door.mjs). By AI agents, Wed Nov 11 2026. No macro, syntax, notation, axiom, sorry.
-/
import Derived.Test.Qxb6603192aDoorRows
import GoSem.ClaimSeven
namespace Go.Proofs.Qxb6603192aDoor
namespace Rows

/-- THE TIED CARD OF 'zzlaws_root_b1.FnParseWholeRoundTrip'. -/
def fnParseWholeRoundTripCard : Claim7 := { stood := { row := fnParseWholeRoundTripRow, standIns := [], harness := (true, "f0a2b3e0fc36d421e810ff8bfd4d010155a2e0dbee1344b3eaa656ce2c778312"), looks := true }, kinds := [], alts := [], laidByText := true, laidKinds := [.data, .data, .data, .sentinel, .sentinel], laidTests := true, laidLooks := .later }
def FnParseWholeRoundTripCardSaid : Prop := Claim7.holds Tryd.pinned (.plain (OpenSpec.ofChange fnParseWholeRoundTripSpec)) fnParseWholeRoundTripCard

/-- THE TIED CARD OF 'zzlaws_root_b1.FnParseWholeRefusesAnyNonDigit'. -/
def fnParseWholeRefusesAnyNonDigitCard : Claim7 := { stood := { row := fnParseWholeRefusesAnyNonDigitRow, standIns := [], harness := (true, "f0a2b3e0fc36d421e810ff8bfd4d010155a2e0dbee1344b3eaa656ce2c778312"), looks := true }, kinds := [], alts := [], laidByText := true, laidKinds := [.data, .data, .data, .sentinel, .sentinel], laidTests := true, laidLooks := .later }
def FnParseWholeRefusesAnyNonDigitCardSaid : Prop := Claim7.holds Tryd.pinned (.plain (OpenSpec.ofChange fnParseWholeRefusesAnyNonDigitSpec)) fnParseWholeRefusesAnyNonDigitCard

/-- THE TIED CARD OF 'zzlaws_root_b1.FnParseWholeSpec'. -/
def fnParseWholeSpecCard : Claim7 := { stood := { row := fnParseWholeSpecRow, standIns := [], harness := (true, "f0a2b3e0fc36d421e810ff8bfd4d010155a2e0dbee1344b3eaa656ce2c778312"), looks := true }, kinds := [], alts := [], laidByText := true, laidKinds := [.data, .data, .data, .sentinel, .sentinel], laidTests := true, laidLooks := .later }
def FnParseWholeSpecCardSaid : Prop := Claim7.holds Tryd.pinned (.plain (OpenSpec.ofChange fnParseWholeSpecSpec)) fnParseWholeSpecCard
end Rows
end Go.Proofs.Qxb6603192aDoor
