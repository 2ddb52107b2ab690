/-
  Seat b6603296aD: FnAppendMemberJSONIntAgreesWithUint: the row out of the walk; the tied card.
-/
import Derived.Test.Qxb6603296aDoorRows
import Derived.Test.Qxb6603296aDoorTie
import Derived.Test.Qxb6603296aDoorCards
import Derived.Test.Qxb6603296aDoorWalkD
import Derived.Test.Qxb6603296aDoorFrame
namespace Go.Proofs.Qxb6603296aDoor
open Go.ChangeShapes Go.WideShapes Go.ChangeAt Go.RowKit
open Go.ChangeMaps (open_string shut_string)

theorem iu_door (os : Os) (args : Array Value) : laidMetH Tryd.prog Rows.fnAppendMemberJSONIntAgreesWithUintRow.laid ((World.doorLaid Tryd.prog 24 os).forCall (fun _ _ => 0) ⟨#[], args, []⟩).memory :=
  laidMetH_of_parts3 (fuel := 8) (laidMet_of_run' 8 (by kernel_rfl) (by kernel_rfl)) (by kernel_rfl) (by kernel_rfl)

set_option maxRecDepth 100000 in
theorem iu_lifted (os : Os) (started : os.Started) (H : Type) (enc : TypeId × Value → H) :
    ReturnsInHanded {} Tryd.checked os 4 .any (fun w args => (Rows.fnAppendMemberJSONIntAgreesWithUintSpec.pre enc Tryd.prog Tryd.f4 [] false w args ∧ laidMetH Tryd.prog Rows.fnAppendMemberJSONIntAgreesWithUintRow.laid w) ∧ sizedMet enc Tryd.prog Tryd.f4 (OpenSpec.ofChange Rows.fnAppendMemberJSONIntAgreesWithUintSpec) false w args)
      (Rows.fnAppendMemberJSONIntAgreesWithUintSpec.post enc Tryd.prog Tryd.f4 false true false false) := by
  refine returnsInHanded_of_change_and (C := Tryd.checked) (X := fun w _ => laidMetH Tryd.prog Rows.fnAppendMemberJSONIntAgreesWithUintRow.laid w) (fun _ _ _ hh h => h.of_heap hh) own started (by kernel_rfl) Tryd.func4
    (ChangeSpec.witness_shaped (enc := enc) (C := Tryd.checked) (os := os) (X := fun w _ => laidMetH Tryd.prog Rows.fnAppendMemberJSONIntAgreesWithUintRow.laid w) false (World.doorLaid Tryd.prog 24 os) #[.string ByteArray.empty, .slice none 0 0, .int .u64 0, .string ByteArray.empty] 8 rfl (World.shaped_of_RefB (by kernel_rfl) (by kernel_rfl)) (by kernel_rfl) (by kernel_rfl) (by kernel_rfl) (iu_door os _)) ?_
  intro W base args ds gs before hval0 hW _ _ hL _
  have hval : ∀ (j : Nat) t v, Tryd.f4.params[j]? = some t → args[j]? = some v → Value.okWide Tryd.prog W .any base t v := hval0
  have hW' := hW
  obtain ⟨p, q, hA0, hV, rfl, hfz, hnd⟩ := hW
  have hA : DataW.TrodAll enc Tryd.prog W 0 (fun _ => true) true Tryd.f4.params.toList args.toList ds p := hA0
  rw [Tryd.params4] at hA hval
  obtain ⟨v0, v1, v2, v3, d0, d1, d2, d3, p0, p1, p2, p3, rfl, rfl, rfl, h0, h1, h2, h3⟩ := trodAll_four hA
  obtain ⟨rfl, rfl⟩ := trodVars_none hV
  obtain ⟨a0, rfl, rfl, rfl, w0⟩ := open_string Tryd.underlying9 (hval 0 9 v0 rfl rfl) h0
  obtain ⟨a1, len1, cap1, rfl⟩ := okWide_slice Tryd.underlying22 (hval 1 22 v1 rfl rfl)
  have k1 := h1
  have lt1 : ∀ x ∈ p1, x.block < W.heap.size := by obtain ⟨m, hm⟩ := k1; exact DataW.trod_lt m _ _ _ hm
  obtain ⟨X, hX0, hX1, hX2⟩ : ∃ X : List UInt8, X.length = len1 ∧ len1 ≤ maxLen ∧ Reads W (.slice a1 len1 cap1) X := by
    obtain ⟨fuel, hf⟩ := h1
    exact bytes_in hf
  subst hX0
  obtain ⟨a2, rfl, rfl, rfl, w2⟩ := open_int Tryd.underlying23 (hval 2 23 v2 rfl rfl) h2
  obtain ⟨a3, rfl, rfl, rfl, w3⟩ := open_string Tryd.underlying9 (hval 3 9 v3 rfl rfl) h3
  clear hA0 hval0
  have b2 := bounds_u64 w2
  obtain ⟨u, rfl⟩ : ∃ u : Nat, a2 = (u : Int) := ⟨a2.toNat, by omega⟩
  refine (agree_any a0 a3 a1 cap1 X u W (by omega) w0 hX1 w3 hX2 (tab_of_laid hL)).mono fun e W' ⟨he, bel⟩ => ?_
  subst he
  exact ⟨_, rfl, _, _, _, [], _, [], hW', trodAll_mk1 (shut_bool Tryd.underlying4 _), trodAll_mk4 (shut_string Tryd.underlying9 w0) (Below.trod laidOut (by kernel_rfl) (of_decide_eq_true (by kernel_rfl)) k1 bel lt1) (shut_int Tryd.underlying23 w2) (shut_string Tryd.underlying9 w3), rfl, bel.frame _, fun h => by cases h⟩

theorem iu_holds : Rows.FnAppendMemberJSONIntAgreesWithUintSaid :=
  OpenClaim.holds_of_wide 4 Tryd.f4 rfl rfl rfl rfl rfl rfl rfl ⟨rfl, rfl, rfl, rfl, rfl⟩ rfl rfl rfl rfl rfl (by kernel_rfl) Tryd.func4 (by kernel_rfl)
    (of_decide_eq_true (by kernel_rfl)) (by unfold Func.isWrapper; first | (rw [if_pos (by decide +kernel)]; kernel_rfl) | (rw [if_neg (by decide +kernel)]; exact ⟨rfl, rfl⟩))
    (fun os started H enc _ => iu_lifted os started H enc)

theorem fnAppendMemberJSONIntAgreesWithUintCard_holds : Rows.FnAppendMemberJSONIntAgreesWithUintCardSaid :=
  Claim7.holds_tied_plain_at .later [] [.data, .data, .data] true (true, "653587008ff045eab78d9b689bcecd07ed0f7bdadaba0dc5c5e5824b28ca8133") false
    iu_holds (fun _ h => by cases h) (by kernel_rfl) (fun _ h => by cases h) fnAppendMemberJSONIntAgreesWithUint_row_tie rfl ⟨rfl, rfl⟩ (by kernel_rfl) rfl
    (fun f fn hf hfn => by
      obtain rfl : f = 4 := Option.some.inj ((show Tryd.prog.funcNamed Rows.fnAppendMemberJSONIntAgreesWithUintRow.func = some 4 by kernel_rfl).symm.trans hf) |>.symm
      obtain rfl : fn = Tryd.f4 := (Option.some.inj (Tryd.func4.symm.trans hfn)).symm
      exact ⟨by kernel_rfl, fun j t ht => by
        rw [Tryd.params4] at ht
        have hm : t ∈ [9, 22, 23, 9] := by simpa using Array.mem_of_getElem? ht
        have hall : ([9, 22, 23, 9].all fun u => !Tryd.prog.wantsStandIn u) = true := by kernel_rfl
        exact (show Tryd.prog.wantsStandIn t = false by simpa using List.all_eq_true.1 hall t hm)⟩)
    (by kernel_rfl)
end Go.Proofs.Qxb6603296aDoor
