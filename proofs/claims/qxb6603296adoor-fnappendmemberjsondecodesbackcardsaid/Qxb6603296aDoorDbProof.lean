/-
  Seat b6603296aD: FnAppendMemberJSONDecodesBack: the row out of the walk; the tied card.
-/
import Derived.Test.Qxb6603296aDoorRows
import Derived.Test.Qxb6603296aDoorTie
import Derived.Test.Qxb6603296aDoorCards
import Derived.Test.Qxb6603296aDoorWalkH
import Derived.Test.Qxb6603296aDoorFrame
namespace Go.Proofs.Qxb6603296aDoor
open Go.ChangeShapes Go.WideShapes Go.ChangeAt Go.RowKit
open Go.ChangeMaps (open_string shut_string)

theorem db_door (os : Os) (args : Array Value) : laidMetH Tryd.prog Rows.fnAppendMemberJSONDecodesBackRow.laid ((World.doorLaid Tryd.prog 24 os).forCall (fun _ _ => 0) ⟨#[], args, []⟩).memory :=
  laidMetH_of_parts3 (fuel := 8) (laidMet_of_run' 8 (by kernel_rfl) (by kernel_rfl)) (by kernel_rfl) (by kernel_rfl)

set_option maxRecDepth 100000 in
theorem db_lifted (os : Os) (started : os.Started) (H : Type) (enc : TypeId × Value → H) :
    ReturnsInHanded {} Tryd.checked os 3 .any (fun w args => (Rows.fnAppendMemberJSONDecodesBackSpec.pre enc Tryd.prog Tryd.f3 [] false w args ∧ laidMetH Tryd.prog Rows.fnAppendMemberJSONDecodesBackRow.laid w) ∧ sizedMet enc Tryd.prog Tryd.f3 (OpenSpec.ofChange Rows.fnAppendMemberJSONDecodesBackSpec) false w args)
      (Rows.fnAppendMemberJSONDecodesBackSpec.post enc Tryd.prog Tryd.f3 false true false false) := by
  refine returnsInHanded_of_change_and (C := Tryd.checked) (X := fun w _ => laidMetH Tryd.prog Rows.fnAppendMemberJSONDecodesBackRow.laid w) (fun _ _ _ hh h => h.of_heap hh) own started (by kernel_rfl) Tryd.func3
    (ChangeSpec.witness_shaped (enc := enc) (C := Tryd.checked) (os := os) (X := fun w _ => laidMetH Tryd.prog Rows.fnAppendMemberJSONDecodesBackRow.laid w) false (World.doorLaid Tryd.prog 24 os) #[.string ByteArray.empty, .int .u8 0, .slice none 0 0, .int .u64 0, .string ByteArray.empty] 8 rfl (World.shaped_of_RefB (by kernel_rfl) (by kernel_rfl)) (by kernel_rfl) (by kernel_rfl) (by kernel_rfl) (db_door os _)) ?_
  intro W base args ds gs before hval0 hW _ _ hL _
  have hval : ∀ (j : Nat) t v, Tryd.f3.params[j]? = some t → args[j]? = some v → Value.okWide Tryd.prog W .any base t v := hval0
  have hW' := hW
  obtain ⟨p, q, hA0, hV, rfl, hfz, hnd⟩ := hW
  have hA : DataW.TrodAll enc Tryd.prog W 0 (fun _ => true) true Tryd.f3.params.toList args.toList ds p := hA0
  rw [Tryd.params3] at hA hval
  obtain ⟨v0, vs0, d0, ds0, p0, q0, hargs, rfl, rfl, h0, r0⟩ := trodAll_cons hA
  obtain ⟨v1, vs1, d1, ds1, p1, q1, rfl, rfl, rfl, h1, r1⟩ := trodAll_cons r0
  obtain ⟨v2, vs2, d2, ds2, p2, q2, rfl, rfl, rfl, h2, r2⟩ := trodAll_cons r1
  obtain ⟨v3, vs3, d3, ds3, p3, q3, rfl, rfl, rfl, h3, r3⟩ := trodAll_cons r2
  obtain ⟨v4, vs4, d4, ds4, p4, q4, rfl, rfl, rfl, h4, r4⟩ := trodAll_cons r3
  obtain ⟨rfl, rfl, rfl⟩ := trodAll_nil r4
  obtain rfl : args = #[v0, v1, v2, v3, v4] := by cases args; simp_all
  obtain ⟨rfl, rfl⟩ := trodVars_none hV
  obtain ⟨a0, rfl, rfl, rfl, w0⟩ := open_string Tryd.underlying9 (hval 0 9 v0 rfl rfl) h0
  obtain ⟨a1, rfl, rfl, rfl, w1⟩ := open_int Tryd.underlying5 (hval 1 5 v1 rfl rfl) h1
  obtain ⟨a2, len2, cap2, rfl⟩ := okWide_slice Tryd.underlying22 (hval 2 22 v2 rfl rfl)
  have k2 := h2
  have lt2 : ∀ x ∈ p2, x.block < W.heap.size := by obtain ⟨m, hm⟩ := k2; exact DataW.trod_lt m _ _ _ hm
  obtain ⟨X, hX0, hX1, hX2⟩ : ∃ X : List UInt8, X.length = len2 ∧ len2 ≤ maxLen ∧ Reads W (.slice a2 len2 cap2) X := by
    obtain ⟨fuel, hf⟩ := h2
    exact bytes_in hf
  subst hX0
  obtain ⟨a3, rfl, rfl, rfl, w3⟩ := open_int Tryd.underlying23 (hval 3 23 v3 rfl rfl) h3
  obtain ⟨a4, rfl, rfl, rfl, w4⟩ := open_string Tryd.underlying9 (hval 4 9 v4 rfl rfl) h4
  clear hA0 hval0
  have b1 := bounds_u8 w1
  have b3 := bounds_u64 w3
  obtain ⟨u, rfl⟩ : ∃ u : Nat, a3 = (u : Int) := ⟨a3.toNat, by omega⟩
  refine (back_any a0 a4 a2 cap2 X u a1 W (by omega) (by omega) (by omega) w0 hX1 w4 hX2 (tab_of_laid hL)).mono fun e W' ⟨he, bel⟩ => ?_
  subst he
  exact ⟨_, rfl, _, _, _, [], _, [], hW', trodAll_mk1 (shut_bool Tryd.underlying4 _), trodAll_cons_mk (shut_string Tryd.underlying9 w0) (trodAll_mk4 (shut_int Tryd.underlying5 w1) (Below.trod laidOut (by kernel_rfl) (of_decide_eq_true (by kernel_rfl)) k2 bel lt2) (shut_int Tryd.underlying23 w3) (shut_string Tryd.underlying9 w4)), rfl, bel.frame _, fun h => by cases h⟩

theorem db_holds : Rows.FnAppendMemberJSONDecodesBackSaid :=
  OpenClaim.holds_of_wide 3 Tryd.f3 rfl rfl rfl rfl rfl rfl rfl ⟨rfl, rfl, rfl, rfl, rfl⟩ rfl rfl rfl rfl rfl (by kernel_rfl) Tryd.func3 (by kernel_rfl)
    (of_decide_eq_true (by kernel_rfl)) (by unfold Func.isWrapper; first | (rw [if_pos (by decide +kernel)]; kernel_rfl) | (rw [if_neg (by decide +kernel)]; exact ⟨rfl, rfl⟩))
    (fun os started H enc _ => db_lifted os started H enc)

theorem fnAppendMemberJSONDecodesBackCard_holds : Rows.FnAppendMemberJSONDecodesBackCardSaid :=
  Claim7.holds_tied_plain_at .later [] [.data, .data, .data] true (true, "653587008ff045eab78d9b689bcecd07ed0f7bdadaba0dc5c5e5824b28ca8133") false
    db_holds (fun _ h => by cases h) (by kernel_rfl) (fun _ h => by cases h) fnAppendMemberJSONDecodesBack_row_tie rfl ⟨rfl, rfl⟩ (by kernel_rfl) rfl
    (fun f fn hf hfn => by
      obtain rfl : f = 3 := Option.some.inj ((show Tryd.prog.funcNamed Rows.fnAppendMemberJSONDecodesBackRow.func = some 3 by kernel_rfl).symm.trans hf) |>.symm
      obtain rfl : fn = Tryd.f3 := (Option.some.inj (Tryd.func3.symm.trans hfn)).symm
      exact ⟨by kernel_rfl, fun j t ht => by
        rw [Tryd.params3] at ht
        have hm : t ∈ [9, 5, 22, 23, 9] := by simpa using Array.mem_of_getElem? ht
        have hall : ([9, 5, 22, 23, 9].all fun u => !Tryd.prog.wantsStandIn u) = true := by kernel_rfl
        exact (show Tryd.prog.wantsStandIn t = false by simpa using List.all_eq_true.1 hall t hm)⟩)
    (by kernel_rfl)
end Go.Proofs.Qxb6603296aDoor
