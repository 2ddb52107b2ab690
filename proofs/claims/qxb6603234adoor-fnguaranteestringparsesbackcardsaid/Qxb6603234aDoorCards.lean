/-
  DERIVED. GIVEN WITH THE SEED: THE CARDS: each row of Qxb6603234aDoorRows.lean that lists a variable, with what it lists TIED to the program's text (the seventh form; the later family's looks); each row that meets fmt, with fmt's text TOLD by the authors' own Lean function (tested against real Go, not proved from fmt's source: count such statements apart). THE CARD IS WHAT COUNTS. Prove the row's statement (the work); the ties are given (Qxb6603234aDoorTie.lean); close each card by the builder's one call (the guide's Derived/Test/ToyasCard.lean, 'card_holds'). Laid BY PROGRAM, IN A SANDBOX (cutbox-door.mjs). By AI agents, Wed Nov 11 2026. No macro, syntax, notation, axiom, sorry.
-/
import Derived.Test.Qxb6603234aDoorRows
import GoSem.ClaimSeven
namespace Go.Proofs.Qxb6603234aDoor
namespace Rows

/-- THE TIED CARD OF 'zzlaws_root_b1.FnGuaranteeStringParsesBack'. -/
def fnGuaranteeStringParsesBackCard : Claim7 := { stood := { row := fnGuaranteeStringParsesBackRow, standIns := [], harness := (true, "14be53680655049cdf71570db07066c9c11896f32bf5262e7db45fd9e85f02b5"), looks := false }, kinds := [], alts := [], laidByText := true, laidKinds := [.data, .data, .data], laidTests := true, laidLooks := .later }
def FnGuaranteeStringParsesBackCardSaid : Prop := Claim7.holds Tryd.pinned (.plain (OpenSpec.ofChange fnGuaranteeStringParsesBackSpec)) fnGuaranteeStringParsesBackCard

/-- THE TIED CARD OF 'zzlaws_root_b1.FnGuaranteeStringInjective'. -/
def fnGuaranteeStringInjectiveCard : Claim7 := { stood := { row := fnGuaranteeStringInjectiveRow, standIns := [], harness := (true, "14be53680655049cdf71570db07066c9c11896f32bf5262e7db45fd9e85f02b5"), looks := false }, kinds := [], alts := [], laidByText := true, laidKinds := [.data, .data, .data], laidTests := true, laidLooks := .later }
def FnGuaranteeStringInjectiveCardSaid : Prop := Claim7.holds Tryd.pinned (.plain (OpenSpec.ofChange fnGuaranteeStringInjectiveSpec)) fnGuaranteeStringInjectiveCard
end Rows
end Go.Proofs.Qxb6603234aDoor
