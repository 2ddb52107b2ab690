/-
  Seat b6603200a: FnServiceAccountCallRoundTrip: the law's walk over the contracts; the row.
-/
import Derived.Test.Qxb6603200aRows
import Derived.Test.Qxb6603200aWalkB
import Derived.ProofKit
import Derived.OpenShut
import Derived.ShutString
namespace Go.Proofs.Qxb6603200a
open Go.ChangeShapes Go.WideShapes Go.ChangeAt Go.RowKit
open Go.ChangeMaps (open_string shut_string)

theorem rt_own : ownKnob Try.prog.godebug = none := by kernel_rfl

set_option maxHeartbeats 400000 in
theorem rt_colon (p a m : ByteArray) (w : World) (h1 : p.size ≤ 262144) (h2 : a.size ≤ 262144) (h3 : m.size ≤ 262144) :
    Calls Try.prog 4 #[.string p, .string a, .string m, .bool true] w fun e w' => e = .returned (.bool true) ∧ Below w.heap.size w w' := by
  have i1 : (p.size : Int) ≤ 262144 := by omega
  have i2 : (a.size : Int) ≤ 262144 := by omega
  have i3 : (m.size : Int) ≤ 262144 := by omega
  obtain ⟨n, hn⟩ := bool_of ((58 : UInt8) ∉ m.data.toList)
  have hN := noColon_any m w (by omega) n (hid hn)
  cases n with
  | false =>
    have HN := hid hN
    clear hN hn
    go_enter Try.func4, Try.ntmps4
    go_wp2_with (first
      | (go_at_call 10; refine HN.out.mono ?_; rintro e w' ⟨rfl, rfl⟩)
      | (go_at_call 12; go_in))
    go_ret
    exact ⟨rfl, Below.refl _ _⟩
  | true =>
    obtain ⟨T, hT⟩ : ∃ T, (⟨#[47, 115, 101, 114, 118, 105, 99, 101, 65, 99, 99, 111, 117, 110, 116, 115, 47]⟩ : ByteArray) ++ a ++ ⟨#[58]⟩ ++ m = T := ⟨_, rfl⟩
    have hTl : T.data.toList = Plain.I ++ (a.data.toList ++ 58 :: m.data.toList) := by
      rw [← hT, app_list, app_list, app_list, inf_list]; simp
    have hTs : T.size ≤ 524306 := by
      rw [← hT, ByteArray.size_append, ByteArray.size_append, ByteArray.size_append, inf_size]
      have : (⟨#[58]⟩ : ByteArray).size = 1 := rfl
      omega
    obtain ⟨b, hb⟩ := bool_of (∃ j, 1 ≤ j ∧ Plain.occ T.data.toList Plain.I j = true)
    have hO := occurs_any T ⟨#[47, 115, 101, 114, 118, 105, 99, 101, 65, 99, 99, 111, 117, 110, 116, 115, 47]⟩ 1 w (by omega) (by rw [inf_size]; omega) (by omega) (by rw [inf_size]; omega) b (hid hb)
    cases b with
    | true =>
      have HN := hid hN
      have HO := hid hO
      clear hN hn hO hb hTl hTs
      go_enter Try.func4, Try.ntmps4
      go_wp2_with (first
        | (go_at_call 10; refine HN.out.mono ?_; rintro e w' ⟨rfl, rfl⟩)
        | (go_at_call 9; refine HO.out.mono ?_; rintro e w1 ⟨rfl, hb1⟩)
        | (go_at_call 12; go_in))
      go_ret
      exact ⟨rfl, hb1⟩
    | false =>
      have hno : ∀ j, 1 ≤ j → Plain.occ (Plain.I ++ (a.data.toList ++ 58 :: m.data.toList)) Plain.I j = false := fun j hj => by
        rw [← hTl]
        cases h : Plain.occ T.data.toList Plain.I j with
        | false => rfl
        | true => exact absurd (hb.2 ⟨j, hj, h⟩) (by decide)
      have hps : (p ++ T).size ≤ 1048576 := by rw [ByteArray.size_append]; omega
      obtain ⟨A, M, ok, hS, -, -, hC⟩ := svc_any (p ++ T) (by omega)
      rw [app_list, hTl] at hS
      obtain ⟨e0, e1, e2⟩ := Plain.svc_uniq hS (Plain.svc_built p.data.toList _ a.data.toList m.data.toList hno (.inl ⟨rfl, hn.1 rfl⟩))
      subst e0
      obtain rfl : A = a := ba_ext e1
      obtain rfl : M = m := ba_ext e2
      have HN := hid hN
      have HO := hid hO
      have HC := hid hC
      clear hN hn hO hb hTl hno hps hS hC e1 e2
      go_enter Try.func4, Try.ntmps4
      go_wp2_with (first
        | (go_at_call 10; refine HN.out.mono ?_; rintro e w' ⟨rfl, rfl⟩)
        | (go_at_call 9; refine HO.out.mono ?_; rintro e w1 ⟨rfl, hb1⟩)
        | (go_at_call 8; refine (HC.out _).mono ?_; rintro e w2 ⟨rfl, hb2⟩)
        | (go_at_call 12; go_in))
      go_ret
      exact ⟨ret_bool (by simp), hb1.trans (hb2.mono hb1.size)⟩

set_option maxHeartbeats 400000 in
theorem rt_bare (p a m : ByteArray) (w : World) (h1 : p.size ≤ 262144) (h2 : a.size ≤ 262144) (h3 : m.size ≤ 262144) :
    Calls Try.prog 4 #[.string p, .string a, .string m, .bool false] w fun e w' => e = .returned (.bool true) ∧ Below w.heap.size w w' := by
  have i1 : (p.size : Int) ≤ 262144 := by omega
  have i2 : (a.size : Int) ≤ 262144 := by omega
  have i3 : (m.size : Int) ≤ 262144 := by omega
  obtain ⟨n, hn⟩ := bool_of ((58 : UInt8) ∉ a.data.toList)
  have hN := noColon_any a w (by omega) n (hid hn)
  cases n with
  | false =>
    have HN := hid hN
    clear hN hn
    go_enter Try.func4, Try.ntmps4
    go_wp2_with (first
      | (go_at_call 10; refine HN.out.mono ?_; rintro e w' ⟨rfl, rfl⟩)
      | (go_at_call 12; go_in))
    go_ret
    exact ⟨rfl, Below.refl _ _⟩
  | true =>
    obtain ⟨T, hT⟩ : ∃ T, (⟨#[47, 115, 101, 114, 118, 105, 99, 101, 65, 99, 99, 111, 117, 110, 116, 115, 47]⟩ : ByteArray) ++ a = T := ⟨_, rfl⟩
    have hTl : T.data.toList = Plain.I ++ a.data.toList := by rw [← hT, app_list, inf_list]
    have hTs : T.size ≤ 262161 := by
      rw [← hT, ByteArray.size_append, inf_size]
      omega
    obtain ⟨b, hb⟩ := bool_of (∃ j, 1 ≤ j ∧ Plain.occ T.data.toList Plain.I j = true)
    have hO := occurs_any T ⟨#[47, 115, 101, 114, 118, 105, 99, 101, 65, 99, 99, 111, 117, 110, 116, 115, 47]⟩ 1 w (by omega) (by rw [inf_size]; omega) (by omega) (by rw [inf_size]; omega) b (hid hb)
    cases b with
    | true =>
      have HN := hid hN
      have HO := hid hO
      clear hN hn hO hb hTl hTs
      go_enter Try.func4, Try.ntmps4
      go_wp2_with (first
        | (go_at_call 10; refine HN.out.mono ?_; rintro e w' ⟨rfl, rfl⟩)
        | (go_at_call 9; refine HO.out.mono ?_; rintro e w1 ⟨rfl, hb1⟩)
        | (go_at_call 12; go_in))
      go_ret
      exact ⟨rfl, hb1⟩
    | false =>
      have hno : ∀ j, 1 ≤ j → Plain.occ (Plain.I ++ a.data.toList) Plain.I j = false := fun j hj => by
        rw [← hTl]
        cases h : Plain.occ T.data.toList Plain.I j with
        | false => rfl
        | true => exact absurd (hb.2 ⟨j, hj, h⟩) (by decide)
      have hps : (p ++ T).size ≤ 1048576 := by rw [ByteArray.size_append]; omega
      obtain ⟨A, M, ok, hS, -, -, hC⟩ := svc_any (p ++ T) (by omega)
      rw [app_list, hTl] at hS
      obtain ⟨e0, e1, e2⟩ := Plain.svc_uniq hS (Plain.svc_built p.data.toList _ a.data.toList [] hno (.inr ⟨rfl, rfl, hn.1 rfl⟩))
      subst e0
      obtain rfl : A = a := ba_ext e1
      obtain rfl : M = ⟨#[]⟩ := ba_ext e2
      have HN := hid hN
      have HO := hid hO
      have HC := hid hC
      clear hN hn hO hb hTl hno hps hS hC e1 e2
      go_enter Try.func4, Try.ntmps4
      go_wp2_with (first
        | (go_at_call 10; refine HN.out.mono ?_; rintro e w' ⟨rfl, rfl⟩)
        | (go_at_call 9; refine HO.out.mono ?_; rintro e w1 ⟨rfl, hb1⟩)
        | (go_at_call 8; refine (HC.out _).mono ?_; rintro e w2 ⟨rfl, hb2⟩)
        | (go_at_call 12; go_in))
      go_ret
      exact ⟨ret_bool (by simp), hb1.trans (hb2.mono hb1.size)⟩

set_option maxHeartbeats 400000 in
theorem rt_out (p a m : ByteArray) (c : Bool) (w : World) (h : 262144 < p.size ∨ 262144 < a.size ∨ 262144 < m.size) (hp : p.size ≤ 9223372036854775807) (ha : a.size ≤ 9223372036854775807) (hm : m.size ≤ 9223372036854775807) :
    Calls Try.prog 4 #[.string p, .string a, .string m, .bool c] w fun e w' => e = .returned (.bool true) ∧ Below w.heap.size w w' := by
  by_cases c1 : (1048576 : Int) < (p.size : Int)
  · go_enter Try.func4, Try.ntmps4
    go_wp2
    go_ret
    exact ⟨rfl, Below.refl _ _⟩
  by_cases c2 : (1048576 : Int) < (a.size : Int)
  · go_enter Try.func4, Try.ntmps4
    go_wp2
    go_ret
    exact ⟨rfl, Below.refl _ _⟩
  by_cases c3 : (1048576 : Int) < (p.size : Int) + (a.size : Int)
  · go_enter Try.func4, Try.ntmps4
    go_wp2
    go_ret
    exact ⟨rfl, Below.refl _ _⟩
  by_cases c4 : (1048576 : Int) < (m.size : Int)
  · go_enter Try.func4, Try.ntmps4
    go_wp2
    go_ret
    exact ⟨rfl, Below.refl _ _⟩
  by_cases c5 : (1048576 : Int) < (p.size : Int) + (a.size : Int) + (m.size : Int)
  · go_enter Try.func4, Try.ntmps4
    go_wp2
    go_ret
    exact ⟨rfl, Below.refl _ _⟩
  by_cases c6 : (262144 : Int) < (p.size : Int)
  · go_enter Try.func4, Try.ntmps4
    go_wp2
    go_ret
    exact ⟨rfl, Below.refl _ _⟩
  by_cases c7 : (262144 : Int) < (a.size : Int)
  · go_enter Try.func4, Try.ntmps4
    go_wp2
    go_ret
    exact ⟨rfl, Below.refl _ _⟩
  have c8 : (262144 : Int) < (m.size : Int) := by omega
  go_enter Try.func4, Try.ntmps4
  go_wp2
  go_ret
  exact ⟨rfl, Below.refl _ _⟩

theorem rt_walk (p a m : ByteArray) (c : Bool) (hp : p.size ≤ maxLen) (ha : a.size ≤ maxLen) (hm : m.size ≤ maxLen) (w : World) :
    Calls Try.prog 4 #[.string p, .string a, .string m, .bool c] w fun e w' => e = .returned (.bool true) ∧ Below w.heap.size w w' := by
  unfold maxLen at hp ha hm
  by_cases h : 262144 < p.size ∨ 262144 < a.size ∨ 262144 < m.size
  · exact rt_out p a m c w h hp ha hm
  · cases c
    · exact rt_bare p a m w (by omega) (by omega) (by omega)
    · exact rt_colon p a m w (by omega) (by omega) (by omega)

set_option maxRecDepth 100000 in
theorem rt_lifted (os : Os) (started : os.Started) (H : Type) (enc : TypeId × Value → H) :
    ReturnsInHanded {} Try.checked os 4 .any (Rows.fnServiceAccountCallRoundTripSpec.pre6 enc Try.prog Try.f4 Rows.fnServiceAccountCallRoundTripRow.domain false) (Rows.fnServiceAccountCallRoundTripSpec.post enc Try.prog Try.f4 false true false false) := by
  refine returnsInHanded_of_change (C := Try.checked) rt_own started (by kernel_rfl) Try.func4
    (ChangeSpec.witness6 (enc := enc) (C := Try.checked) false ⟨#[], #[.string ByteArray.empty, .string ByteArray.empty, .string ByteArray.empty, .bool false], []⟩ 8 (by kernel_rfl) (by kernel_rfl) (by kernel_rfl) (by kernel_rfl)) ?_
  intro W base args ds gs before hval0 hW hcnd _
  have hval : ∀ (j : Nat) t v, Try.f4.params[j]? = some t → args[j]? = some v → Value.okWide Try.prog W .any base t v := hval0
  have hW' := hW
  obtain ⟨p, q, hA0, hV, rfl, hfz, hnd⟩ := hW
  have hA : DataW.TrodAll enc Try.prog W 0 (fun _ => true) true Try.f4.params.toList args.toList ds p := hA0
  rw [Try.params4] at hA hval
  obtain ⟨v0, v1, v2, v3, d0, d1, d2, d3, p0, p1, p2, p3, rfl, rfl, rfl, h0, h1, h2, h3⟩ := trodAll_four hA
  obtain ⟨rfl, rfl⟩ := trodVars_none hV
  obtain ⟨a0, rfl, rfl, rfl, w0⟩ := open_string Try.underlying9 (hval 0 9 v0 rfl rfl) h0
  obtain ⟨a1, rfl, rfl, rfl, w1⟩ := open_string Try.underlying9 (hval 1 9 v1 rfl rfl) h1
  obtain ⟨a2, rfl, rfl, rfl, w2⟩ := open_string Try.underlying9 (hval 2 9 v2 rfl rfl) h2
  obtain ⟨a3, rfl, rfl, rfl⟩ := open_bool Try.underlying4 (hval 3 4 v3 rfl rfl) h3
  clear hA0 hval0
  simp only [List.append_nil] at hW'
  refine (rt_walk a0 a1 a2 a3 w0 w1 w2 W).mono fun e W' ⟨he, hg⟩ => ?_
  subst he
  refine ⟨_, rfl, _, _, _, [], [], [], hW', ?_, ?_, ?_, hg.frame _, fun h => by cases h⟩
  · exact trodAll_mk1 (shut_bool Try.underlying4 _)
  · exact trodAll_mk4 (shut_string Try.underlying9 w0) (shut_string Try.underlying9 w1) (shut_string Try.underlying9 w2) (shut_bool Try.underlying4 a3)
  · rfl

theorem fnServiceAccountCallRoundTrip_holds : Rows.FnServiceAccountCallRoundTripSaid :=
  OpenClaim.holds_of_wide 4 Try.f4 rfl rfl rfl rfl rfl rfl rfl ⟨rfl, rfl, rfl, rfl, rfl⟩ rfl rfl rfl rfl rfl (by kernel_rfl) Try.func4 (by kernel_rfl)
    (of_decide_eq_true (by kernel_rfl)) (by unfold Func.isWrapper; first | (rw [if_pos (by decide +kernel)]; kernel_rfl) | (rw [if_neg (by decide +kernel)]; exact ⟨rfl, rfl⟩))
    (fun os started H enc _ => rt_lifted os started H enc)
end Go.Proofs.Qxb6603200a
