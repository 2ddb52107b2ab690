/-
  Seat b6603200a: FnServiceAccountCallPrefixFree: the law's walk over the contracts; the row.
-/
import Derived.Test.Qxb6603200aRows
import Derived.Test.Qxb6603200aWalkB
import Derived.ProofKit
import Derived.OpenShut
import Derived.ShutString
namespace Go.Proofs.Qxb6603200a
open Go.ChangeShapes Go.WideShapes Go.ChangeAt Go.RowKit
open Go.ChangeMaps (open_string shut_string)

theorem pf_own : ownKnob Try.prog.godebug = none := by kernel_rfl

set_option maxHeartbeats 400000 in
theorem pf_out (p s : ByteArray) (w : World) (h : 524288 < p.size ∨ 524288 < s.size ∨ 1048576 < p.size + s.size) (hp : p.size ≤ 9223372036854775807) (hs : s.size ≤ 9223372036854775807) :
    Calls Try.prog 5 #[.string p, .string s] w fun e w' => e = .returned (.bool true) ∧ Below w.heap.size w w' := by
  by_cases c1 : (1048576 : Int) < (p.size : Int)
  · go_enter Try.func5, Try.ntmps5
    go_wp2
    go_ret
    exact ⟨rfl, Below.refl _ _⟩
  by_cases c2 : (1048576 : Int) < (s.size : Int)
  · go_enter Try.func5, Try.ntmps5
    go_wp2
    go_ret
    exact ⟨rfl, Below.refl _ _⟩
  by_cases c3 : (1048576 : Int) < (p.size : Int) + (s.size : Int)
  · go_enter Try.func5, Try.ntmps5
    go_wp2
    go_ret
    exact ⟨rfl, Below.refl _ _⟩
  by_cases c4 : (524288 : Int) < (p.size : Int)
  · go_enter Try.func5, Try.ntmps5
    go_wp2
    go_ret
    exact ⟨rfl, Below.refl _ _⟩
  have c5 : (524288 : Int) < (s.size : Int) := by omega
  go_enter Try.func5, Try.ntmps5
  go_wp2
  go_ret
  exact ⟨rfl, Below.refl _ _⟩

set_option maxHeartbeats 400000 in
theorem pf_in (p s : ByteArray) (w : World) (h1 : p.size ≤ 524288) (h2 : s.size ≤ 524288) :
    Calls Try.prog 5 #[.string p, .string s] w fun e w' => e = .returned (.bool true) ∧ Below w.heap.size w w' := by
  have i1 : (p.size : Int) ≤ 524288 := by omega
  have i2 : (s.size : Int) ≤ 524288 := by omega
  obtain ⟨b, hb⟩ := bool_of (∃ j, 0 ≤ j ∧ Plain.occ s.data.toList Plain.I j = true)
  have hO := occurs_any s ⟨#[47, 115, 101, 114, 118, 105, 99, 101, 65, 99, 99, 111, 117, 110, 116, 115, 47]⟩ 0 w (by omega) (by rw [inf_size]; omega) (by omega) (by rw [inf_size]; omega) b (hid hb)
  cases b with
  | false =>
    have HO := hid hO
    clear hO hb
    go_enter Try.func5, Try.ntmps5
    go_wp2_with (first
      | (go_at_call 9; refine HO.out.mono ?_; rintro e w1 ⟨rfl, hb1⟩)
      | (go_at_call 13; go_in))
    go_ret
    exact ⟨rfl, hb1⟩
  | true =>
    obtain ⟨A, M, ok, hS, -, -, hC⟩ := svc_any s (by omega)
    obtain ⟨j, -, hj⟩ := hb.1 rfl
    obtain rfl : ok = true := Plain.svc_ok hS j hj
    have hps : (p ++ s).size ≤ 1048576 := by rw [ByteArray.size_append]; omega
    obtain ⟨A2, M2, ok2, hS2, -, -, hC2⟩ := svc_any (p ++ s) (by omega)
    rw [app_list] at hS2
    obtain ⟨e0, e1, e2⟩ := Plain.svc_uniq (Plain.svc_front p.data.toList hS) hS2
    subst e0
    obtain rfl : A = A2 := ba_ext e1
    obtain rfl : M = M2 := ba_ext e2
    have HO := hid hO
    have HC := hid hC
    have HC2 := hid hC2
    clear hO hb hS hS2 hC hC2 hj e1 e2 hps
    go_enter Try.func5, Try.ntmps5
    go_wp2_with (first
      | (go_at_call 9; refine HO.out.mono ?_; rintro e w1 ⟨rfl, hb1⟩; refine Hid.out ?_)
      | (go_at_call 13; go_in))
    refine hid ?_
    go_wp2_with fail
    refine (HC.out _).mono ?_
    rintro e w2 ⟨rfl, hb2⟩
    go_wp2_with fail
    refine (HC2.out _).mono ?_
    rintro e w3 ⟨rfl, hb3⟩
    go_wp2
    go_ret
    have s1 := hb1.size
    have s2 := hb2.size
    exact ⟨ret_bool (by simp), (hb1.trans (hb2.mono s1)).trans (hb3.mono (by omega))⟩

theorem pf_walk (p s : ByteArray) (hp : p.size ≤ maxLen) (hs : s.size ≤ maxLen) (w : World) :
    Calls Try.prog 5 #[.string p, .string s] w fun e w' => e = .returned (.bool true) ∧ Below w.heap.size w w' := by
  unfold maxLen at hp hs
  by_cases h1 : p.size ≤ 524288
  · by_cases h2 : s.size ≤ 524288
    · exact pf_in p s w h1 h2
    · exact pf_out p s w (by omega) hp hs
  · exact pf_out p s w (by omega) hp hs

set_option maxRecDepth 100000 in
theorem pf_lifted (os : Os) (started : os.Started) (H : Type) (enc : TypeId × Value → H) :
    ReturnsInHanded {} Try.checked os 5 .any (Rows.fnServiceAccountCallPrefixFreeSpec.pre6 enc Try.prog Try.f5 Rows.fnServiceAccountCallPrefixFreeRow.domain false) (Rows.fnServiceAccountCallPrefixFreeSpec.post enc Try.prog Try.f5 false true false false) := by
  refine returnsInHanded_of_change (C := Try.checked) pf_own started (by kernel_rfl) Try.func5
    (ChangeSpec.witness6 (enc := enc) (C := Try.checked) false ⟨#[], #[.string ByteArray.empty, .string ByteArray.empty], []⟩ 8 (by kernel_rfl) (by kernel_rfl) (by kernel_rfl) (by kernel_rfl)) ?_
  intro W base args ds gs before hval0 hW hcnd _
  have hval : ∀ (j : Nat) t v, Try.f5.params[j]? = some t → args[j]? = some v → Value.okWide Try.prog W .any base t v := hval0
  have hW' := hW
  obtain ⟨p, q, hA0, hV, rfl, hfz, hnd⟩ := hW
  have hA : DataW.TrodAll enc Try.prog W 0 (fun _ => true) true Try.f5.params.toList args.toList ds p := hA0
  rw [Try.params5] at hA hval
  obtain ⟨v0, v1, d0, d1, p0, p1, rfl, rfl, rfl, h0, h1⟩ := trodAll_two hA
  obtain ⟨rfl, rfl⟩ := trodVars_none hV
  obtain ⟨a0, rfl, rfl, rfl, w0⟩ := open_string Try.underlying9 (hval 0 9 v0 rfl rfl) h0
  obtain ⟨a1, rfl, rfl, rfl, w1⟩ := open_string Try.underlying9 (hval 1 9 v1 rfl rfl) h1
  clear hA0 hval0
  simp only [List.append_nil] at hW'
  refine (pf_walk a0 a1 w0 w1 W).mono fun e W' ⟨he, hg⟩ => ?_
  subst he
  refine ⟨_, rfl, _, _, _, [], [], [], hW', ?_, ?_, ?_, hg.frame _, fun h => by cases h⟩
  · exact trodAll_mk1 (shut_bool Try.underlying4 _)
  · exact trodAll_mk2 (shut_string Try.underlying9 w0) (shut_string Try.underlying9 w1)
  · rfl

theorem fnServiceAccountCallPrefixFree_holds : Rows.FnServiceAccountCallPrefixFreeSaid :=
  OpenClaim.holds_of_wide 5 Try.f5 rfl rfl rfl rfl rfl rfl rfl ⟨rfl, rfl, rfl, rfl, rfl⟩ rfl rfl rfl rfl rfl (by kernel_rfl) Try.func5 (by kernel_rfl)
    (of_decide_eq_true (by kernel_rfl)) (by unfold Func.isWrapper; first | (rw [if_pos (by decide +kernel)]; kernel_rfl) | (rw [if_neg (by decide +kernel)]; exact ⟨rfl, rfl⟩))
    (fun os started H enc _ => pf_lifted os started H enc)
end Go.Proofs.Qxb6603200a
