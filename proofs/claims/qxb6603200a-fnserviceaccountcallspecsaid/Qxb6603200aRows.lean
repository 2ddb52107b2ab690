/-
  No cell of these rows narrows 'for every input' (looked for: loops, veiled, ifaces, maps, wideKeys, modest, calm, conditions, laid).
  DERIVED. THE GIVEN ROWS OF THIS SEAT. 4 by the template 'for every input the law returns true; each argument reads behind the call as it read before'; 0 by the template 'total and deterministic' (their statements: Qxb6603200aTotals.lean).
  GIVEN WITH THE SEED: the statements are not yours to turn. If you find one false, say at which input.
  Laid BY PROGRAM, IN A SANDBOX (cutbox-rows.mjs): the forced cells as the released guide's own fill.sh prints them over the translation 9c21c9f14f3f99e6… (all of the seat's roots in one cut). By AI agents, Wed Nov 11 2026. No macro, syntax, notation, axiom, sorry.
-/
import Derived.Test.Qxb6603200aChecked
import GoSem.Claim
import GoSem.ClaimJoined
import GoSem.ClaimMapViews
import Derived.JoinedTies
import Derived.KernelRfl
namespace Go.Proofs.Qxb6603200a
/- THE CELL 'sum', in the pinned program and in every row, IS THE sha256 OF THE DUMP (.gsa) THAT Qxb6603200aProg.lean LOADS. Nothing in Lean hashes anything: it is a label: what it is worth is what the hold of that sum in a sandbox is worth. -/
noncomputable def Try.pinned : Pinned := { name := "qxb6603200a", sum := "9c21c9f14f3f99e6cf7d98960e89033a734e50b6f60f5574a820d8e2b1a01b88", checked := Try.checked }
namespace Rows
def none {H : Type} : Left H := { results := [], args := [] }

/-- 'zzlaws_internal_wire_b1.FnServiceAccountCallSpec': WHATEVER THE INPUT: true; the input reads as it did. -/
def fnServiceAccountCallSpecSpec : ChangeSpec := { name := "fnServiceAccountCallSpec", fn := fun _ => fun
  | [d] => { results := [.lit (.bool true)], args := [d] }
  | _ => none }
def fnServiceAccountCallSpecRow : OpenClaim := { program := "qxb6603200a", sum := "9c21c9f14f3f99e6cf7d98960e89033a734e50b6f60f5574a820d8e2b1a01b88", func := "example.com/trade/trade/zzlaws_internal_wire_b1.FnServiceAccountCallSpec", spec := "fnServiceAccountCallSpec", apart := false }
def FnServiceAccountCallSpecSaid : Prop := fnServiceAccountCallSpecRow.holds Try.pinned (OpenSpec.ofChange fnServiceAccountCallSpecSpec)

/-- ITS FALSE NEIGHBOUR: 'it returns false'. Refute it at one input. -/
def fnServiceAccountCallSpecWrong : ChangeSpec := { name := "fnServiceAccountCallSpec", fn := fun _ => fun
  | [d] => { results := [.lit (.bool false)], args := [d] }
  | _ => none }
def FnServiceAccountCallSpecWrongFalsely : Prop := fnServiceAccountCallSpecRow.holds Try.pinned (OpenSpec.ofChange fnServiceAccountCallSpecWrong)

/-- 'zzlaws_internal_wire_b1.FnServiceAccountCallRoundTrip': WHATEVER THE INPUT: true; the input reads as it did. -/
def fnServiceAccountCallRoundTripSpec : ChangeSpec := { name := "fnServiceAccountCallRoundTrip", fn := fun _ => fun
  | [d1, d2, d3, d4] => { results := [.lit (.bool true)], args := [d1, d2, d3, d4] }
  | _ => none }
def fnServiceAccountCallRoundTripRow : OpenClaim := { program := "qxb6603200a", sum := "9c21c9f14f3f99e6cf7d98960e89033a734e50b6f60f5574a820d8e2b1a01b88", func := "example.com/trade/trade/zzlaws_internal_wire_b1.FnServiceAccountCallRoundTrip", spec := "fnServiceAccountCallRoundTrip", apart := false }
def FnServiceAccountCallRoundTripSaid : Prop := fnServiceAccountCallRoundTripRow.holds Try.pinned (OpenSpec.ofChange fnServiceAccountCallRoundTripSpec)

/-- ITS FALSE NEIGHBOUR: 'it returns false'. Refute it at one input. -/
def fnServiceAccountCallRoundTripWrong : ChangeSpec := { name := "fnServiceAccountCallRoundTrip", fn := fun _ => fun
  | [d1, d2, d3, d4] => { results := [.lit (.bool false)], args := [d1, d2, d3, d4] }
  | _ => none }
def FnServiceAccountCallRoundTripWrongFalsely : Prop := fnServiceAccountCallRoundTripRow.holds Try.pinned (OpenSpec.ofChange fnServiceAccountCallRoundTripWrong)

/-- 'zzlaws_internal_wire_b1.FnServiceAccountCallPrefixFree': WHATEVER THE INPUT: true; the input reads as it did. -/
def fnServiceAccountCallPrefixFreeSpec : ChangeSpec := { name := "fnServiceAccountCallPrefixFree", fn := fun _ => fun
  | [d1, d2] => { results := [.lit (.bool true)], args := [d1, d2] }
  | _ => none }
def fnServiceAccountCallPrefixFreeRow : OpenClaim := { program := "qxb6603200a", sum := "9c21c9f14f3f99e6cf7d98960e89033a734e50b6f60f5574a820d8e2b1a01b88", func := "example.com/trade/trade/zzlaws_internal_wire_b1.FnServiceAccountCallPrefixFree", spec := "fnServiceAccountCallPrefixFree", apart := false }
def FnServiceAccountCallPrefixFreeSaid : Prop := fnServiceAccountCallPrefixFreeRow.holds Try.pinned (OpenSpec.ofChange fnServiceAccountCallPrefixFreeSpec)

/-- ITS FALSE NEIGHBOUR: 'it returns false'. Refute it at one input. -/
def fnServiceAccountCallPrefixFreeWrong : ChangeSpec := { name := "fnServiceAccountCallPrefixFree", fn := fun _ => fun
  | [d1, d2] => { results := [.lit (.bool false)], args := [d1, d2] }
  | _ => none }
def FnServiceAccountCallPrefixFreeWrongFalsely : Prop := fnServiceAccountCallPrefixFreeRow.holds Try.pinned (OpenSpec.ofChange fnServiceAccountCallPrefixFreeWrong)

/-- 'zzlaws_internal_wire_b1.FnFormFieldsWriteThrough': WHATEVER THE INPUT: true; the input reads as it did. -/
def fnFormFieldsWriteThroughSpec : ChangeSpec := { name := "fnFormFieldsWriteThrough", fn := fun _ => fun
  | [d1, d2, d3, d4, d5, d6, d7, d8, d9, d10, d11, d12] => { results := [.lit (.bool true)], args := [d1, d2, d3, d4, d5, d6, d7, d8, d9, d10, d11, d12] }
  | _ => none }
def fnFormFieldsWriteThroughRow : OpenClaim := { program := "qxb6603200a", sum := "9c21c9f14f3f99e6cf7d98960e89033a734e50b6f60f5574a820d8e2b1a01b88", func := "example.com/trade/trade/zzlaws_internal_wire_b1.FnFormFieldsWriteThrough", spec := "fnFormFieldsWriteThrough", apart := false }
def FnFormFieldsWriteThroughSaid : Prop := fnFormFieldsWriteThroughRow.holds Try.pinned (OpenSpec.ofChange fnFormFieldsWriteThroughSpec)

/-- ITS FALSE NEIGHBOUR: 'it returns false'. Refute it at one input. -/
def fnFormFieldsWriteThroughWrong : ChangeSpec := { name := "fnFormFieldsWriteThrough", fn := fun _ => fun
  | [d1, d2, d3, d4, d5, d6, d7, d8, d9, d10, d11, d12] => { results := [.lit (.bool false)], args := [d1, d2, d3, d4, d5, d6, d7, d8, d9, d10, d11, d12] }
  | _ => none }
def FnFormFieldsWriteThroughWrongFalsely : Prop := fnFormFieldsWriteThroughRow.holds Try.pinned (OpenSpec.ofChange fnFormFieldsWriteThroughWrong)

end Rows
end Go.Proofs.Qxb6603200a
