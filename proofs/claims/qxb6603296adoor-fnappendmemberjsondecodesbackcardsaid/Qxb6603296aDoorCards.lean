/-
  DERIVED. GIVEN WITH THE SEED: THE CARDS: each row of Qxb6603296aDoorRows.lean that lists a variable, with what it lists TIED to the program's text (the seventh form; the later family's looks); each row that meets fmt, with fmt's text TOLD by the authors' own Lean function (tested against real Go, not proved from fmt's source: count such statements apart). THE CARD IS WHAT COUNTS. Prove the row's statement (the work); the ties are given (Qxb6603296aDoorTie.lean); close each card by the builder's one call (the guide's Derived/Test/ToyasCard.lean, 'card_holds'). Laid BY PROGRAM, IN A SANDBOX (cutbox-door.mjs). By AI agents, Wed Nov 11 2026. No macro, syntax, notation, axiom, sorry.
-/
import Derived.Test.Qxb6603296aDoorRows
import GoSem.ClaimSeven
namespace Go.Proofs.Qxb6603296aDoor
namespace Rows

/-- THE TIED CARD OF 'zzlaws_pkg_table_b1.FnAppendMemberJSONDecodesBack'. -/
def fnAppendMemberJSONDecodesBackCard : Claim7 := { stood := { row := fnAppendMemberJSONDecodesBackRow, standIns := [], harness := (true, "653587008ff045eab78d9b689bcecd07ed0f7bdadaba0dc5c5e5824b28ca8133"), looks := false }, kinds := [], alts := [], laidByText := true, laidKinds := [.data, .data, .data], laidTests := true, laidLooks := .later }
def FnAppendMemberJSONDecodesBackCardSaid : Prop := Claim7.holds Tryd.pinned (.plain (OpenSpec.ofChange fnAppendMemberJSONDecodesBackSpec)) fnAppendMemberJSONDecodesBackCard

/-- THE TIED CARD OF 'zzlaws_pkg_table_b1.FnAppendMemberJSONIntAgreesWithUint'. -/
def fnAppendMemberJSONIntAgreesWithUintCard : Claim7 := { stood := { row := fnAppendMemberJSONIntAgreesWithUintRow, standIns := [], harness := (true, "653587008ff045eab78d9b689bcecd07ed0f7bdadaba0dc5c5e5824b28ca8133"), looks := false }, kinds := [], alts := [], laidByText := true, laidKinds := [.data, .data, .data], laidTests := true, laidLooks := .later }
def FnAppendMemberJSONIntAgreesWithUintCardSaid : Prop := Claim7.holds Tryd.pinned (.plain (OpenSpec.ofChange fnAppendMemberJSONIntAgreesWithUintSpec)) fnAppendMemberJSONIntAgreesWithUintCard

/-- THE TIED CARD OF 'zzlaws_pkg_table_b1.FnAppendKeyJSONIgnoresPrimaryKeyOrder'. -/
def fnAppendKeyJSONIgnoresPrimaryKeyOrderCard : Claim7 := { stood := { row := fnAppendKeyJSONIgnoresPrimaryKeyOrderRow, standIns := [], harness := (true, "653587008ff045eab78d9b689bcecd07ed0f7bdadaba0dc5c5e5824b28ca8133"), looks := false }, kinds := [], alts := [], laidByText := true, laidKinds := [.data, .data, .data], laidTests := true, laidLooks := .later }
def FnAppendKeyJSONIgnoresPrimaryKeyOrderCardSaid : Prop := Claim7.holds Tryd.pinned (.plain (OpenSpec.ofChange fnAppendKeyJSONIgnoresPrimaryKeyOrderSpec)) fnAppendKeyJSONIgnoresPrimaryKeyOrderCard

/-- THE TIED CARD OF 'zzlaws_pkg_table_b1.FnAppendKeyJSONReadsOnlyKeyColumns'. -/
def fnAppendKeyJSONReadsOnlyKeyColumnsCard : Claim7 := { stood := { row := fnAppendKeyJSONReadsOnlyKeyColumnsRow, standIns := [], harness := (true, "653587008ff045eab78d9b689bcecd07ed0f7bdadaba0dc5c5e5824b28ca8133"), looks := false }, kinds := [], alts := [], laidByText := true, laidKinds := [.data, .data, .data], laidTests := true, laidLooks := .later }
def FnAppendKeyJSONReadsOnlyKeyColumnsCardSaid : Prop := Claim7.holds Tryd.pinned (.plain (OpenSpec.ofChange fnAppendKeyJSONReadsOnlyKeyColumnsSpec)) fnAppendKeyJSONReadsOnlyKeyColumnsCard
end Rows
end Go.Proofs.Qxb6603296aDoor
