/-
  Seat b6603200a: FnServiceAccountCallSpec: the law's walk over the contracts; the row.
-/
import Derived.Test.Qxb6603200aRows
import Derived.Test.Qxb6603200aWalkB
import Derived.ProofKit
import Derived.OpenShut
import Derived.ShutString
namespace Go.Proofs.Qxb6603200a
open Go.ChangeShapes Go.WideShapes Go.ChangeAt Go.RowKit
open Go.ChangeMaps (open_string shut_string)

theorem sp_own : ownKnob Try.prog.godebug = none := by kernel_rfl

set_option maxHeartbeats 400000 in
theorem sp_in (s : ByteArray) (w : World) (h1 : s.size ≤ 1048576) :
    Calls Try.prog 3 #[.string s] w fun e w' => e = .returned (.bool true) ∧ Below w.heap.size w w' := by
  have i1 : (s.size : Int) ≤ 1048576 := by omega
  obtain ⟨A, M, ok, hS, hA, hM, hC⟩ := svc_any s (by omega)
  have HC := hid hC
  clear hC
  rcases hS with ⟨rfl, e1, e2, hn⟩ | ⟨rfl, p, r, hl, hlast, hcut⟩
  · -- not accepted
    obtain rfl : A = ⟨#[]⟩ := ba_ext e1
    obtain rfl : M = ⟨#[]⟩ := ba_ext e2
    have HO : Hid (∀ w1, Calls Try.prog 9 #[.string s, .int .i64 0, .string ⟨#[47, 115, 101, 114, 118, 105, 99, 101, 65, 99, 99, 111, 117, 110, 116, 115, 47]⟩] w1 fun e w' => e = .returned (.bool false) ∧ Below w1.heap.size w1 w') := hid fun w1 =>
      occurs_any s ⟨#[47, 115, 101, 114, 118, 105, 99, 101, 65, 99, 99, 111, 117, 110, 116, 115, 47]⟩ 0 w1 (by omega) (by rw [inf_size]; omega) (by omega) (by rw [inf_size]; omega) false
        (hid ⟨fun h => Bool.noConfusion h, fun ⟨j, _, hj⟩ => by rw [inf_list, hn j] at hj; exact hj⟩)
    clear hn e1 e2 hA hM
    go_enter Try.func3, Try.ntmps3
    go_wp2_with (first
      | (go_at_call 8; refine (HC.out _).mono ?_; rintro e w1 ⟨rfl, hb1⟩)
      | (go_at_call 9; refine (HO.out _).mono ?_; rintro e w2 ⟨rfl, hb2⟩)
      | (go_at_call 7; go_in))
    go_ret
    exact ⟨rfl, hb1.trans (hb2.mono hb1.size)⟩
  · have hm58 : (58 : UInt8) ∉ M.data.toList := by
      rcases hcut with ⟨-, h⟩ | ⟨-, h, -⟩
      · exact h
      · rw [h]; simp
    have HNM : Hid (∀ w1, Calls Try.prog 10 #[.string M] w1 fun e w' => e = .returned (.bool true) ∧ w' = w1) := hid fun w1 => noColon_any M w1 (by omega) true (hid ⟨fun _ => hm58, fun _ => rfl⟩)
    obtain ⟨T, hT⟩ : ∃ T, (⟨#[47, 115, 101, 114, 118, 105, 99, 101, 65, 99, 99, 111, 117, 110, 116, 115, 47]⟩ : ByteArray) ++ A ++ ⟨#[58]⟩ ++ M = T := ⟨_, rfl⟩
    have hTl : T.data.toList = Plain.I ++ (A.data.toList ++ 58 :: M.data.toList) := by
      rw [← hT, app_list, app_list, app_list, inf_list]; simp
    have hTz : T.size = 17 + A.size + 1 + M.size := by
      rw [← hT, ByteArray.size_append, ByteArray.size_append, ByteArray.size_append, inf_size]
      have : (⟨#[58]⟩ : ByteArray).size = 1 := rfl
      omega
    have hsz : s.size = p.length + 17 + r.length := by
      have h := congrArg List.length hl
      rw [List.length_append, List.length_append, Plain.I_len] at h
      exact h
    rcases hcut with ⟨hr, -⟩ | ⟨hr, hm, ha⟩
    · -- a colon
      have hrz : r.length = A.size + 1 + M.size := by
        rw [hr, List.length_append, List.length_cons]
        have h2 : A.data.toList.length = A.size := rfl
        have h3 : M.data.toList.length = M.size := rfl
        omega
      have hLT : Plain.LastTail s.data.toList T.data.toList := by
        have e : s.data.toList = p ++ T.data.toList := by rw [hTl, ← hr, ← List.append_assoc, hl]
        rw [e]
        exact Plain.lastTail_of p _ (by rw [← e]; exact hlast)
      have HL : Hid (∀ w1, Calls Try.prog 11 #[.string s, .string T] w1 fun e w' => e = .returned (.bool true) ∧ Below w1.heap.size w1 w') := hid fun w1 => lastTail_any s T w1 (by omega) (by omega) (by omega) true (hid ⟨fun _ => hLT, fun _ => rfl⟩)
      have hAM : A.size + M.size ≤ 1048576 := by omega
      clear hLT hrz hr hsz hTz hTl hm58 hl hlast
      go_enter Try.func3, Try.ntmps3
      go_wp2_with (first
        | (go_at_call 8; refine (HC.out _).mono ?_; rintro e w1 ⟨rfl, hb1⟩)
        | (go_at_call 10; refine (HNM.out _).mono ?_; rintro e w2 ⟨rfl, rfl⟩)
        | (go_at_call 11; refine (HL.out _).mono ?_; rintro e w3 ⟨rfl, hb3⟩)
        | (go_at_call 7; go_in))
      go_ret
      exact ⟨rfl, hb1.trans (hb3.mono hb1.size)⟩
    · -- no colon
      obtain rfl : M = ⟨#[]⟩ := ba_ext hm
      have hrz : r.length = A.size := by rw [hr]; rfl
      have hTs : T.size ≤ 1048594 := by
        have : (⟨#[]⟩ : ByteArray).size = 0 := rfl
        omega
      obtain ⟨b, hb⟩ := bool_of (Plain.LastTail s.data.toList T.data.toList)
      have HL : Hid (∀ w1, Calls Try.prog 11 #[.string s, .string T] w1 fun e w' => e = .returned (.bool b) ∧ Below w1.heap.size w1 w') := hid fun w1 => lastTail_any s T w1 (by omega) (by omega) (by omega) b (hid hb)
      clear hb
      cases b with
      | true =>
        clear hrz hr hsz hTz hTl hm58 hl hlast ha hm
        go_enter Try.func3, Try.ntmps3
        go_wp2_with (first
          | (go_at_call 8; refine (HC.out _).mono ?_; rintro e w1 ⟨rfl, hb1⟩)
          | (go_at_call 10; refine (HNM.out _).mono ?_; rintro e w2 ⟨rfl, rfl⟩)
          | (go_at_call 11; refine (HL.out _).mono ?_; rintro e w3 ⟨rfl, hb3⟩)
          | (go_at_call 7; go_in))
        go_ret
        exact ⟨rfl, hb1.trans (hb3.mono hb1.size)⟩
      | false =>
        have HNA : Hid (∀ w1, Calls Try.prog 10 #[.string A] w1 fun e w' => e = .returned (.bool true) ∧ w' = w1) := hid fun w1 => noColon_any A w1 (by omega) true (hid ⟨fun _ => ha, fun _ => rfl⟩)
        obtain ⟨U, hU⟩ : ∃ U, (⟨#[47, 115, 101, 114, 118, 105, 99, 101, 65, 99, 99, 111, 117, 110, 116, 115, 47]⟩ : ByteArray) ++ A = U := ⟨_, rfl⟩
        have hUl : U.data.toList = Plain.I ++ A.data.toList := by rw [← hU, app_list, inf_list]
        have hUz : U.size = 17 + A.size := by rw [← hU, ByteArray.size_append, inf_size]
        have hLT : Plain.LastTail s.data.toList U.data.toList := by
          have e : s.data.toList = p ++ U.data.toList := by rw [hUl, ← hr, ← List.append_assoc, hl]
          rw [e]
          exact Plain.lastTail_of p _ (by rw [← e]; exact hlast)
        have HLU : Hid (∀ w1, Calls Try.prog 11 #[.string s, .string U] w1 fun e w' => e = .returned (.bool true) ∧ Below w1.heap.size w1 w') := hid fun w1 => lastTail_any s U w1 (by omega) (by omega) (by omega) true (hid ⟨fun _ => hLT, fun _ => rfl⟩)
        have hUs : U.size ≤ 1048593 := by omega
        clear hrz hr hsz hTz hTl hm58 hl hlast ha hm hLT hUl hUz
        rw [hU] at hT
        go_enter Try.func3, Try.ntmps3
        go_wp2_with (first
          | (go_at_call 8; refine (HC.out _).mono ?_; rintro e w1 ⟨rfl, hb1⟩; refine Hid.out ?_)
          | (go_at_call 7; go_in))
        refine hid ?_
        go_wp2_with fail
        refine (HNM.out _).mono ?_
        rintro e w2 ⟨rfl, rfl⟩
        go_wp2_with fail
        refine (HL.out _).mono ?_
        rintro e w3 ⟨rfl, hb3⟩
        go_wp2_with fail
        refine (HNA.out _).mono ?_
        rintro e w4 ⟨rfl, rfl⟩
        go_wp2_with fail
        refine (HLU.out _).mono ?_
        rintro e w5 ⟨rfl, hb5⟩
        go_wp2
        go_ret
        have s1 := hb1.size
        have s3 := hb3.size
        exact ⟨rfl, (hb1.trans (hb3.mono s1)).trans (hb5.mono (by omega))⟩

theorem sp_walk (s : ByteArray) (hs : s.size ≤ maxLen) (w : World) :
    Calls Try.prog 3 #[.string s] w fun e w' => e = .returned (.bool true) ∧ Below w.heap.size w w' := by
  unfold maxLen at hs
  by_cases h1 : s.size ≤ 1048576
  · exact sp_in s w h1
  · have i1 : (1048576 : Int) < (s.size : Int) := by omega
    go_enter Try.func3, Try.ntmps3
    go_wp2
    go_ret
    exact ⟨rfl, Below.refl _ _⟩

set_option maxRecDepth 100000 in
theorem sp_lifted (os : Os) (started : os.Started) (H : Type) (enc : TypeId × Value → H) :
    ReturnsInHanded {} Try.checked os 3 .any (Rows.fnServiceAccountCallSpecSpec.pre6 enc Try.prog Try.f3 Rows.fnServiceAccountCallSpecRow.domain false) (Rows.fnServiceAccountCallSpecSpec.post enc Try.prog Try.f3 false true false false) := by
  refine returnsInHanded_of_change (C := Try.checked) sp_own started (by kernel_rfl) Try.func3
    (ChangeSpec.witness6 (enc := enc) (C := Try.checked) false ⟨#[], #[.string ByteArray.empty], []⟩ 8 (by kernel_rfl) (by kernel_rfl) (by kernel_rfl) (by kernel_rfl)) ?_
  intro W base args ds gs before hval0 hW hcnd _
  have hval : ∀ (j : Nat) t v, Try.f3.params[j]? = some t → args[j]? = some v → Value.okWide Try.prog W .any base t v := hval0
  have hW' := hW
  obtain ⟨p, q, hA0, hV, rfl, hfz, hnd⟩ := hW
  have hA : DataW.TrodAll enc Try.prog W 0 (fun _ => true) true Try.f3.params.toList args.toList ds p := hA0
  rw [Try.params3] at hA hval
  obtain ⟨v0, d0, rfl, rfl, h0⟩ := trodAll_one hA
  obtain ⟨rfl, rfl⟩ := trodVars_none hV
  obtain ⟨a0, rfl, rfl, rfl, w0⟩ := open_string Try.underlying9 (hval 0 9 v0 rfl rfl) h0
  clear hA0 hval0
  simp only [List.append_nil] at hW'
  refine (sp_walk a0 w0 W).mono fun e W' ⟨he, hg⟩ => ?_
  subst he
  refine ⟨_, rfl, _, _, _, [], [], [], hW', ?_, ?_, ?_, hg.frame _, fun h => by cases h⟩
  · exact trodAll_mk1 (shut_bool Try.underlying4 _)
  · exact trodAll_mk1 (shut_string Try.underlying9 w0)
  · rfl

theorem fnServiceAccountCallSpec_holds : Rows.FnServiceAccountCallSpecSaid :=
  OpenClaim.holds_of_wide 3 Try.f3 rfl rfl rfl rfl rfl rfl rfl ⟨rfl, rfl, rfl, rfl, rfl⟩ rfl rfl rfl rfl rfl (by kernel_rfl) Try.func3 (by kernel_rfl)
    (of_decide_eq_true (by kernel_rfl)) (by unfold Func.isWrapper; first | (rw [if_pos (by decide +kernel)]; kernel_rfl) | (rw [if_neg (by decide +kernel)]; exact ⟨rfl, rfl⟩))
    (fun os started H enc _ => sp_lifted os started H enc)
end Go.Proofs.Qxb6603200a
