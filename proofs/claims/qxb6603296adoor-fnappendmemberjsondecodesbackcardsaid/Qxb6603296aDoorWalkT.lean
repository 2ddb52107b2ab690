/-
  Seat b6603296aD: THE WALKS of appendMemberJSON and ZZAppendMemberJSONB1 onto a slice that the call owns or that is full.
-/
import Derived.Test.Qxb6603296aDoorWalkB
import Derived.Test.Qxb6603296aDoorWalkS
namespace Go.Proofs.Qxb6603296aDoor
open Go.RowKit
open Go.Lib (byteCells)

set_option maxHeartbeats 1000000 in
theorem member_uintS (B n : Nat) (u : Nat) (hu : u < 18446744073709551616) (name S : ByteArray) (sv : Value) (xs : List Value) (w : World) (hst : Start B n sv xs w) (hname : name.size ≤ 1048576)  (hlim : n ≤ 1048576) (ht : Tb B w) :
    Calls Tryd.prog 27 #[.agg #[.string name, .int .u8 2], sv, .agg #[.int .u64 u, .string S]] w fun e w' => ∃ v', e = .returned v' ∧ St B n xs w w' v' (Plain.head name.data.toList ++ Lib.decDigits u) := by
  have hBw := hst.1
  obtain ⟨i0, hi, hz0, hz1, hz2⟩ := info_parts Tryd.info5
  obtain ⟨k1, k2⟩ := two_new w (.cells #[.string name, .int .u8 2] 28) (.cells #[.int .u64 u, .string S] 31)
  have HT := hid ((show Lib.TabBelow _ _ _ _ _ _ from ht).on (below_two hBw (.cells #[.string name, .int .u8 2] 28) (.cells #[.int .u64 u, .string S] 31)))
  have hq := Plain.quoted_len name.data.toList
  have hh := Plain.head_len name.data.toList
  have hnl : name.data.toList.length = name.size := rfl
  have bq : n + (Plain.quoted name.data.toList).length + 1 ≤ 50000000 := by omega
  have bh : n + (Plain.head name.data.toList).length ≤ 50000000 := by omega
  have HO := hid hst
  have K1 := hid k1
  have K2 := hid k2
  clear ht hst k1 k2 hq hh hnl
  go_enter Tryd.func27, Tryd.ntmps27
  go_wp2_with fail
  refine (appStr_start B n sv xs name _ ((HO.out.alloc _).alloc _) hname (by omega)).mono ?_
  rintro e w1 ⟨v1, rfl, h1⟩
  go_wp2_with (first
    | (at_builtin; refine wpList_append_own _ rfl (.tmp 11) (.tmp 12) 22 rfl B 5 i0 (.int .u8 0) 1 1 Tryd.underlying22 hi hz0 hz1 hz2 rfl (by decide) _ _ _ rfl (h1.own.alloc _) ⟨w1.heap.size, 0, none⟩ 1 1 [.int .u8 58] rfl rfl (news_block w1 #[.int .u8 58] _) (by intro u hu; simp at hu; subst hu; rfl) (by unfold maxLen; omega) (by omega) (by have := h1.room; simp; omega) ?_; intro v2 w2 ho2 hg2 _; have h2 := h1.more _ [58] ho2 hg2 rfl rfl; have c1 : w2.cell? ⟨w.heap.size, 1, none⟩ = some (.int .u8 2) := box_kept h2 _ _ 28 _ (by decide) K1.out 1; have c2 : w2.cell? ⟨w.heap.size + 1, 0, none⟩ = some (.int .u64 u) := box_kept h2 _ _ 31 _ (by decide) K2.out 0; have c3 : w2.cell? ⟨w.heap.size + 1, 1, none⟩ = some (.string S) := box_kept h2 _ _ 31 _ (by decide) K2.out 1; clear ho2 hg2)
    | (go_at_call 32; refine (appUint_at B (n + (Plain.head name.data.toList).length) u hu v2 (xs ++ byteCells (Plain.head name.data.toList)) w2 h2.own h2.room (by omega) (Lib.TabBelow.on HT.out h2.below)).mono ?_; rintro e w3 ⟨v3, rfl, h3⟩))
  go_ret
  exact ⟨_, rfl, St.unbox _ _ hBw (St.trans (l1 := Plain.head name.data.toList) h2 h3)⟩

set_option maxHeartbeats 1000000 in
theorem member_lowS (B n : Nat) (u : Nat) (hu : u ≤ 9223372036854775807) (name S : ByteArray) (sv : Value) (xs : List Value) (w : World) (hst : Start B n sv xs w) (hname : name.size ≤ 1048576)  (hlim : n ≤ 1048576) (ht : Tb B w) :
    Calls Tryd.prog 27 #[.agg #[.string name, .int .u8 1], sv, .agg #[.int .u64 u, .string S]] w fun e w' => ∃ v', e = .returned v' ∧ St B n xs w w' v' (Plain.head name.data.toList ++ Lib.itoa (u : Int)) := by
  have hBw := hst.1
  obtain ⟨i0, hi, hz0, hz1, hz2⟩ := info_parts Tryd.info5
  obtain ⟨k1, k2⟩ := two_new w (.cells #[.string name, .int .u8 1] 28) (.cells #[.int .u64 u, .string S] 31)
  have HT := hid ((show Lib.TabBelow _ _ _ _ _ _ from ht).on (below_two hBw (.cells #[.string name, .int .u8 1] 28) (.cells #[.int .u64 u, .string S] 31)))
  have hq := Plain.quoted_len name.data.toList
  have hh := Plain.head_len name.data.toList
  have hnl : name.data.toList.length = name.size := rfl
  have bq : n + (Plain.quoted name.data.toList).length + 1 ≤ 50000000 := by omega
  have bh : n + (Plain.head name.data.toList).length ≤ 50000000 := by omega
  have HO := hid hst
  have K1 := hid k1
  have K2 := hid k2
  clear ht hst k1 k2 hq hh hnl
  have hui : (u : Int) ≤ 9223372036854775807 := by omega
  go_enter Tryd.func27, Tryd.ntmps27
  go_wp2_with fail
  refine (appStr_start B n sv xs name _ ((HO.out.alloc _).alloc _) hname (by omega)).mono ?_
  rintro e w1 ⟨v1, rfl, h1⟩
  go_wp2_with (first
    | (at_builtin; refine wpList_append_own _ rfl (.tmp 11) (.tmp 12) 22 rfl B 5 i0 (.int .u8 0) 1 1 Tryd.underlying22 hi hz0 hz1 hz2 rfl (by decide) _ _ _ rfl (h1.own.alloc _) ⟨w1.heap.size, 0, none⟩ 1 1 [.int .u8 58] rfl rfl (news_block w1 #[.int .u8 58] _) (by intro u hu; simp at hu; subst hu; rfl) (by unfold maxLen; omega) (by omega) (by have := h1.room; simp; omega) ?_; intro v2 w2 ho2 hg2 _; have h2 := h1.more _ [58] ho2 hg2 rfl rfl; have c1 : w2.cell? ⟨w.heap.size, 1, none⟩ = some (.int .u8 1) := box_kept h2 _ _ 28 _ (by decide) K1.out 1; have c2 : w2.cell? ⟨w.heap.size + 1, 0, none⟩ = some (.int .u64 u) := box_kept h2 _ _ 31 _ (by decide) K2.out 0; have c3 : w2.cell? ⟨w.heap.size + 1, 1, none⟩ = some (.string S) := box_kept h2 _ _ 31 _ (by decide) K2.out 1; clear ho2 hg2)
    | (go_at_call 31; refine (appInt_at B (n + (Plain.head name.data.toList).length) (u : Int) (by omega) (by omega) v2 (xs ++ byteCells (Plain.head name.data.toList)) w2 h2.own h2.room (by omega) (Lib.TabBelow.on HT.out h2.below)).mono ?_; rintro e w3 ⟨v3, rfl, h3⟩))
  go_ret
  exact ⟨_, rfl, St.unbox _ _ hBw (St.trans (l1 := Plain.head name.data.toList) h2 h3)⟩

set_option maxHeartbeats 1000000 in
theorem member_highS (B n : Nat) (u : Nat) (hu : 9223372036854775808 ≤ u) (hu2 : u < 18446744073709551616) (name S : ByteArray) (sv : Value) (xs : List Value) (w : World) (hst : Start B n sv xs w) (hname : name.size ≤ 1048576)  (hlim : n ≤ 1048576) (ht : Tb B w) :
    Calls Tryd.prog 27 #[.agg #[.string name, .int .u8 1], sv, .agg #[.int .u64 u, .string S]] w fun e w' => ∃ v', e = .returned v' ∧ St B n xs w w' v' (Plain.head name.data.toList ++ Lib.itoa ((u : Int) - 18446744073709551616)) := by
  have hBw := hst.1
  obtain ⟨i0, hi, hz0, hz1, hz2⟩ := info_parts Tryd.info5
  obtain ⟨k1, k2⟩ := two_new w (.cells #[.string name, .int .u8 1] 28) (.cells #[.int .u64 u, .string S] 31)
  have HT := hid ((show Lib.TabBelow _ _ _ _ _ _ from ht).on (below_two hBw (.cells #[.string name, .int .u8 1] 28) (.cells #[.int .u64 u, .string S] 31)))
  have hq := Plain.quoted_len name.data.toList
  have hh := Plain.head_len name.data.toList
  have hnl : name.data.toList.length = name.size := rfl
  have bq : n + (Plain.quoted name.data.toList).length + 1 ≤ 50000000 := by omega
  have bh : n + (Plain.head name.data.toList).length ≤ 50000000 := by omega
  have HO := hid hst
  have K1 := hid k1
  have K2 := hid k2
  clear ht hst k1 k2 hq hh hnl
  have HW := hid (wrap_high u hu hu2)
  go_enter Tryd.func27, Tryd.ntmps27
  go_wp2_with fail
  refine (appStr_start B n sv xs name _ ((HO.out.alloc _).alloc _) hname (by omega)).mono ?_
  rintro e w1 ⟨v1, rfl, h1⟩
  go_wp2_with (first
    | (at_builtin; refine wpList_append_own _ rfl (.tmp 11) (.tmp 12) 22 rfl B 5 i0 (.int .u8 0) 1 1 Tryd.underlying22 hi hz0 hz1 hz2 rfl (by decide) _ _ _ rfl (h1.own.alloc _) ⟨w1.heap.size, 0, none⟩ 1 1 [.int .u8 58] rfl rfl (news_block w1 #[.int .u8 58] _) (by intro u hu; simp at hu; subst hu; rfl) (by unfold maxLen; omega) (by omega) (by have := h1.room; simp; omega) ?_; intro v2 w2 ho2 hg2 _; have h2 := h1.more _ [58] ho2 hg2 rfl rfl; have c1 : w2.cell? ⟨w.heap.size, 1, none⟩ = some (.int .u8 1) := box_kept h2 _ _ 28 _ (by decide) K1.out 1; have c2 : w2.cell? ⟨w.heap.size + 1, 0, none⟩ = some (.int .u64 u) := box_kept h2 _ _ 31 _ (by decide) K2.out 0; have c3 : w2.cell? ⟨w.heap.size + 1, 1, none⟩ = some (.string S) := box_kept h2 _ _ 31 _ (by decide) K2.out 1; clear ho2 hg2)
    | (go_at_call 31; refine (appInt_at B (n + (Plain.head name.data.toList).length) (wrap64 (u : Int)) (by rw [HW.out]; omega) (by rw [HW.out]; omega) v2 (xs ++ byteCells (Plain.head name.data.toList)) w2 h2.own h2.room (by omega) (Lib.TabBelow.on HT.out h2.below)).mono ?_; rintro e w3 ⟨v3, rfl, h3⟩; rw [HW.out] at h3))
  go_ret
  exact ⟨_, rfl, St.unbox _ _ hBw (St.trans (l1 := Plain.head name.data.toList) h2 h3)⟩

set_option maxHeartbeats 1000000 in
theorem member_textS (B n : Nat) (u : Int) (typ : Int) (n1 : typ ≠ 1) (n2 : typ ≠ 2) (name S : ByteArray) (sv : Value) (xs : List Value) (w : World) (hst : Start B n sv xs w) (hname : name.size ≤ 1048576) (hS : S.size ≤ 1048576) (hlim : n ≤ 1048576) (ht : Tb B w) :
    Calls Tryd.prog 27 #[.agg #[.string name, .int .u8 typ], sv, .agg #[.int .u64 u, .string S]] w fun e w' => ∃ v', e = .returned v' ∧ St B n xs w w' v' (Plain.head name.data.toList ++ Plain.quoted S.data.toList) := by
  have hBw := hst.1
  obtain ⟨i0, hi, hz0, hz1, hz2⟩ := info_parts Tryd.info5
  obtain ⟨k1, k2⟩ := two_new w (.cells #[.string name, .int .u8 typ] 28) (.cells #[.int .u64 u, .string S] 31)
  have HT := hid ((show Lib.TabBelow _ _ _ _ _ _ from ht).on (below_two hBw (.cells #[.string name, .int .u8 typ] 28) (.cells #[.int .u64 u, .string S] 31)))
  have hq := Plain.quoted_len name.data.toList
  have hh := Plain.head_len name.data.toList
  have hnl : name.data.toList.length = name.size := rfl
  have bq : n + (Plain.quoted name.data.toList).length + 1 ≤ 50000000 := by omega
  have bh : n + (Plain.head name.data.toList).length ≤ 50000000 := by omega
  have HO := hid hst
  have K1 := hid k1
  have K2 := hid k2
  clear ht hst k1 k2 hq hh hnl
  have q1 : (typ == 1) = false := beqf n1
  have q2 : (typ == 2) = false := beqf n2
  clear n1 n2
  go_enter Tryd.func27, Tryd.ntmps27
  go_wp2_with fail
  refine (appStr_start B n sv xs name _ ((HO.out.alloc _).alloc _) hname (by omega)).mono ?_
  rintro e w1 ⟨v1, rfl, h1⟩
  go_wp2_with (first
    | (at_builtin; refine wpList_append_own _ rfl (.tmp 11) (.tmp 12) 22 rfl B 5 i0 (.int .u8 0) 1 1 Tryd.underlying22 hi hz0 hz1 hz2 rfl (by decide) _ _ _ rfl (h1.own.alloc _) ⟨w1.heap.size, 0, none⟩ 1 1 [.int .u8 58] rfl rfl (news_block w1 #[.int .u8 58] _) (by intro u hu; simp at hu; subst hu; rfl) (by unfold maxLen; omega) (by omega) (by have := h1.room; simp; omega) ?_; intro v2 w2 ho2 hg2 _; have h2 := h1.more _ [58] ho2 hg2 rfl rfl; have c1 : w2.cell? ⟨w.heap.size, 1, none⟩ = some (.int .u8 typ) := box_kept h2 _ _ 28 _ (by decide) K1.out 1; have c2 : w2.cell? ⟨w.heap.size + 1, 0, none⟩ = some (.int .u64 u) := box_kept h2 _ _ 31 _ (by decide) K2.out 0; have c3 : w2.cell? ⟨w.heap.size + 1, 1, none⟩ = some (.string S) := box_kept h2 _ _ 31 _ (by decide) K2.out 1; clear ho2 hg2)
    | (go_at_call 30; refine (appStr_any B (n + (Plain.head name.data.toList).length) v2 (xs ++ byteCells (Plain.head name.data.toList)) S w2 h2.own h2.room hS (by omega)).mono ?_; rintro e w3 ⟨v3, rfl, h3⟩))
  go_ret
  exact ⟨_, rfl, St.unbox _ _ hBw (St.trans (l1 := Plain.head name.data.toList) h2 h3)⟩

set_option maxHeartbeats 1000000 in
/-- 'ZZAppendMemberJSONB1' hands on what 'appendMemberJSON' answers. -/
theorem zz_ofS (B n : Nat) (name S : ByteArray) (typ u : Int) (sv : Value) (xs : List Value) (w : World) (hst : Start B n sv xs w) (ht : Tb B w) (l : List UInt8)
    (H : ∀ w1 : World, Start B n sv xs w1 → Tb B w1 → Calls Tryd.prog 27 #[.agg #[.string name, .int .u8 typ], sv, .agg #[.int .u64 u, .string S]] w1 fun e w' => ∃ v', e = .returned v' ∧ St B n xs w1 w' v' l) :
    Calls Tryd.prog 9 #[.agg #[.string name, .int .u8 typ], sv, .agg #[.int .u64 u, .string S]] w fun e w' => ∃ v', e = .returned v' ∧ St B n xs w w' v' l := by
  have hBw := hst.1
  have HC := hid (H ((w.alloc (.cells #[.string name, .int .u8 typ] 28)).alloc (.cells #[.int .u64 u, .string S] 31)) ((hst.alloc _).alloc _) ((show Lib.TabBelow _ _ _ _ _ _ from ht).on (below_two hBw _ _)))
  clear H ht hst
  go_enter Tryd.func9, Tryd.ntmps9
  go_wp2_with fail
  refine HC.out.mono ?_
  rintro e w1 ⟨v1, rfl, h1⟩
  go_wp2
  go_ret
  exact ⟨_, rfl, St.unbox _ _ hBw h1⟩

theorem zz_uintS (B n : Nat) (u : Nat) (hu : u < 18446744073709551616) (name S : ByteArray) (sv : Value) (xs : List Value) (w : World) (hst : Start B n sv xs w) (hname : name.size ≤ 1048576) (hlim : n ≤ 1048576) (ht : Tb B w) :
    Calls Tryd.prog 9 #[.agg #[.string name, .int .u8 2], sv, .agg #[.int .u64 u, .string S]] w fun e w' => ∃ v', e = .returned v' ∧ St B n xs w w' v' (Plain.head name.data.toList ++ Lib.decDigits u) :=
  zz_ofS B n name S 2 u sv xs w hst ht _ fun w1 h1 h3 => member_uintS B n u hu name S sv xs w1 h1 hname hlim h3
theorem zz_intS (B n : Nat) (u : Nat) (hu : u < 18446744073709551616) (name S : ByteArray) (sv : Value) (xs : List Value) (w : World) (hst : Start B n sv xs w) (hname : name.size ≤ 1048576) (hlim : n ≤ 1048576) (ht : Tb B w) :
    Calls Tryd.prog 9 #[.agg #[.string name, .int .u8 1], sv, .agg #[.int .u64 u, .string S]] w fun e w' => ∃ v', e = .returned v' ∧ St B n xs w w' v' (Plain.head name.data.toList ++ Lib.itoa (asInt u)) := by
  unfold asInt
  by_cases h : u ≤ 9223372036854775807
  · rw [if_pos h]
    exact zz_ofS B n name S 1 u sv xs w hst ht _ fun w1 h1 h3 => member_lowS B n u h name S sv xs w1 h1 hname hlim h3
  · rw [if_neg h]
    exact zz_ofS B n name S 1 u sv xs w hst ht _ fun w1 h1 h3 => member_highS B n u (by omega) hu name S sv xs w1 h1 hname hlim h3
theorem zz_textS (B n : Nat) (u typ : Int) (n1 : typ ≠ 1) (n2 : typ ≠ 2) (name S : ByteArray) (sv : Value) (xs : List Value) (w : World) (hst : Start B n sv xs w) (hname : name.size ≤ 1048576) (hS : S.size ≤ 1048576) (hlim : n ≤ 1048576) (ht : Tb B w) :
    Calls Tryd.prog 9 #[.agg #[.string name, .int .u8 typ], sv, .agg #[.int .u64 u, .string S]] w fun e w' => ∃ v', e = .returned v' ∧ St B n xs w w' v' (Plain.head name.data.toList ++ Plain.quoted S.data.toList) :=
  zz_ofS B n name S typ u sv xs w hst ht _ fun w1 h1 h3 => member_textS B n u typ n1 n2 name S sv xs w1 h1 hname hS hlim h3
end Go.Proofs.Qxb6603296aDoor
