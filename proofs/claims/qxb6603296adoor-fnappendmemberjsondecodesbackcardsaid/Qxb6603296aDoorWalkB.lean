/-
  Seat b6603296aD: THE WALKS of strconv.AppendUint, (Column).appendMemberJSON and ZZAppendMemberJSONB1 onto a slice that the call owns.
-/
import Derived.Test.Qxb6603296aDoorRows
import Derived.Test.Qxb6603296aDoorWalkA
import Derived.Test.Qxb6603296aDoorShelf
import Derived.Lib.ItoaLen
namespace Go.Proofs.Qxb6603296aDoor
open Go.RowKit
open Go.Lib (byteCells)

/-- The library's table, as the rows list it, whatever is done from block B on. -/
def Tb (B : Nat) (w : World) : Prop := Lib.TabBelow Tryd.prog B w (Rows.fnAppendMemberJSONDecodesBackRow.named.headD "") .u64 Lib.pow10Tab

theorem St.of {B n : Nat} {xs : List Value} {w w' : World} {v' : Value} {l : List UInt8} (ho : w'.ownsRow B 5 1 v' (n + l.length) (xs ++ byteCells l)) (hb : Below B w w') (hk : Lib.OthersKept 5 none w w') (hB : B ≤ w.heap.size) : St B n xs w w' v' l :=
  ⟨ho, hb, hk, Nat.le_trans hB hb.size⟩
/-- One state behind another. -/
theorem St.trans {B n : Nat} {xs : List Value} {w0 w1 w2 : World} {v1 v2 : Value} {l1 l2 : List UInt8} (h1 : St B n xs w0 w1 v1 l1) (h2 : St B (n + l1.length) (xs ++ byteCells l1) w1 w2 v2 l2) : St B n xs w0 w2 v2 (l1 ++ l2) :=
  ⟨by rw [List.length_append, cells_append, ← List.append_assoc, ← Nat.add_assoc]; exact h2.own, h1.below.trans h2.below, h1.others.trans h2.others, h2.room⟩

theorem appInt_at (B n : Nat) (i : Int) (h0 : -9223372036854775808 ≤ i) (h1 : i ≤ 9223372036854775807) (sv : Value) (xs : List Value) (w : World) (hown : w.ownsRow B 5 1 sv n xs) (hBw : B ≤ w.heap.size) (hlim : n ≤ 100000000) (ht : Tb B w) :
    Calls Tryd.prog 31 #[sv, .int .i64 i, .int .i64 10] w fun e w' => ∃ v', e = .returned v' ∧ St B n xs w w' v' (Lib.itoa i) := by
  refine (Any.strconv_AppendInt_10 Tryd.laysM176 B n i h0 h1 sv xs w hown hBw (by omega) ht).mono ?_
  rintro e w' ⟨v', he, ho, hb, hk⟩
  exact ⟨v', he, St.of ho hb hk hBw⟩
theorem inUint_at (B n u : Nat) (hu : u < 18446744073709551616) (sv : Value) (xs : List Value) (w : World) (hown : w.ownsRow B 5 1 sv n xs) (hBw : B ≤ w.heap.size) (hlim : n ≤ 100000000) (ht : Tb B w) :
    Calls Tryd.prog 34 #[sv, .int .u64 u, .int .i64 10] w fun e w' => ∃ v', e = .returned v' ∧ St B n xs w w' v' (Lib.decDigits u) := by
  refine (Any.internal_strconv_AppendUint_10 Tryd.laysM288 B n u hu sv xs w hown hBw (by omega) ht.here).mono ?_
  rintro e w' ⟨v', he, ho, hb, hk⟩
  exact ⟨v', he, St.of ho hb hk hBw⟩
theorem appUint_at (B n u : Nat) (hu : u < 18446744073709551616) (sv : Value) (xs : List Value) (w : World) (hown : w.ownsRow B 5 1 sv n xs) (hBw : B ≤ w.heap.size) (hlim : n ≤ 100000000) (ht : Tb B w) :
    Calls Tryd.prog 32 #[sv, .int .u64 u, .int .i64 10] w fun e w' => ∃ v', e = .returned v' ∧ St B n xs w w' v' (Lib.decDigits u) := by
  have H := hid (inUint_at B n u hu sv xs w hown hBw hlim ht)
  clear hown ht
  go_enter Tryd.func32, Tryd.ntmps32
  go_wp2_with (go_at_call 34; refine H.out.mono ?_; rintro e w1 ⟨v1, rfl, h1⟩)
  go_ret
  exact ⟨_, rfl, h1⟩

/-- The boxes of the two structs are no rows of bytes: they are as they were. -/
theorem box_kept {B n : Nat} {xs : List Value} {w0 w1 : World} {v : Value} {l : List UInt8} (h : St B n xs w0 w1 v l) (g : Nat) (cs : Array Value) (t : TypeId) (fz : Nat × Nat) (ht : t ≠ 5) (hg : w0.heap[g]? = some (.cells cs t fz)) (j : Nat) : w1.cell? ⟨g, j, none⟩ = cs[j]? := by
  have h1 := h.others g _ hg (by simp) (by intro c f e; injection e with _ e2 _; exact ht e2)
  unfold World.cell?
  rw [h1]
  simp

theorem two_new (w : World) (a b : Obj) : ((w.alloc a).alloc b).heap[w.heap.size]? = some a ∧ ((w.alloc a).alloc b).heap[w.heap.size + 1]? = some b := by
  refine ⟨?_, ?_⟩
  · show ((w.heap.push a).push b)[w.heap.size]? = _
    simp [Array.getElem?_push]
  · show ((w.heap.push a).push b)[w.heap.size + 1]? = _
    have : w.heap.size + 1 = (w.heap.push a).size := by simp
    rw [this, Array.getElem?_push_size]
theorem below_two {B : Nat} {w : World} (hB : B ≤ w.heap.size) (a b : Obj) : Below B w ((w.alloc a).alloc b) := ((Below.refl _ _).alloc hB a).alloc (by simp; omega) b
/-- A state over the world with the two boxes is a state over the world before them. -/
theorem St.unbox {B n : Nat} {xs : List Value} {w w1 : World} {v : Value} {l : List UInt8} (a b : Obj) (hB : B ≤ w.heap.size) (h : St B n xs ((w.alloc a).alloc b) w1 v l) : St B n xs w w1 v l :=
  ⟨h.own, (below_two hB a b).trans h.below, (((Lib.OthersKept.refl 5 none w).alloc a).alloc b).trans h.others, h.room⟩

set_option maxHeartbeats 1000000 in
theorem member_uint (B n : Nat) (u : Nat) (hu : u < 18446744073709551616) (name S : ByteArray) (sv : Value) (xs : List Value) (w : World) (hown : w.ownsRow B 5 1 sv n xs) (hBw : B ≤ w.heap.size) (hname : name.size ≤ 1048576)  (hlim : n ≤ 1048576) (ht : Tb B w) :
    Calls Tryd.prog 27 #[.agg #[.string name, .int .u8 2], sv, .agg #[.int .u64 u, .string S]] w fun e w' => ∃ v', e = .returned v' ∧ St B n xs w w' v' (Plain.head name.data.toList ++ Lib.decDigits u) := by
  obtain ⟨i0, hi, hz0, hz1, hz2⟩ := info_parts Tryd.info5
  obtain ⟨k1, k2⟩ := two_new w (.cells #[.string name, .int .u8 2] 28) (.cells #[.int .u64 u, .string S] 31)
  have HT := hid ((show Lib.TabBelow _ _ _ _ _ _ from ht).on (below_two hBw (.cells #[.string name, .int .u8 2] 28) (.cells #[.int .u64 u, .string S] 31)))
  have hq := Plain.quoted_len name.data.toList
  have hh := Plain.head_len name.data.toList
  have hnl : name.data.toList.length = name.size := rfl
  have bq : n + (Plain.quoted name.data.toList).length + 1 ≤ 50000000 := by omega
  have bh : n + (Plain.head name.data.toList).length ≤ 50000000 := by omega
  have HO := hid hown
  have K1 := hid k1
  have K2 := hid k2
  clear ht hown k1 k2 hq hh hnl
  go_enter Tryd.func27, Tryd.ntmps27
  go_wp2_with fail
  refine (appStr_any B n sv xs name _ ((HO.out.alloc _).alloc _) (by simp; omega) hname (by omega)).mono ?_
  rintro e w1 ⟨v1, rfl, h1⟩
  go_wp2_with (first
    | (at_builtin; refine wpList_append_own _ rfl (.tmp 11) (.tmp 12) 22 rfl B 5 i0 (.int .u8 0) 1 1 Tryd.underlying22 hi hz0 hz1 hz2 rfl (by decide) _ _ _ rfl (h1.own.alloc _) ⟨w1.heap.size, 0, none⟩ 1 1 [.int .u8 58] rfl rfl (news_block w1 #[.int .u8 58] _) (by intro u hu; simp at hu; subst hu; rfl) (by unfold maxLen; omega) (by omega) (by have := h1.room; simp; omega) ?_; intro v2 w2 ho2 hg2 _; have h2 := h1.more _ [58] ho2 hg2 rfl rfl; have c1 : w2.cell? ⟨w.heap.size, 1, none⟩ = some (.int .u8 2) := box_kept h2 _ _ 28 _ (by decide) K1.out 1; have c2 : w2.cell? ⟨w.heap.size + 1, 0, none⟩ = some (.int .u64 u) := box_kept h2 _ _ 31 _ (by decide) K2.out 0; have c3 : w2.cell? ⟨w.heap.size + 1, 1, none⟩ = some (.string S) := box_kept h2 _ _ 31 _ (by decide) K2.out 1; clear ho2 hg2)
    | (go_at_call 32; refine (appUint_at B (n + (Plain.head name.data.toList).length) u hu v2 (xs ++ byteCells (Plain.head name.data.toList)) w2 h2.own h2.room (by omega) (Lib.TabBelow.on HT.out h2.below)).mono ?_; rintro e w3 ⟨v3, rfl, h3⟩))
  go_ret
  exact ⟨_, rfl, St.unbox _ _ hBw (St.trans (l1 := Plain.head name.data.toList) h2 h3)⟩

set_option maxHeartbeats 1000000 in
theorem member_low (B n : Nat) (u : Nat) (hu : u ≤ 9223372036854775807) (name S : ByteArray) (sv : Value) (xs : List Value) (w : World) (hown : w.ownsRow B 5 1 sv n xs) (hBw : B ≤ w.heap.size) (hname : name.size ≤ 1048576)  (hlim : n ≤ 1048576) (ht : Tb B w) :
    Calls Tryd.prog 27 #[.agg #[.string name, .int .u8 1], sv, .agg #[.int .u64 u, .string S]] w fun e w' => ∃ v', e = .returned v' ∧ St B n xs w w' v' (Plain.head name.data.toList ++ Lib.itoa (u : Int)) := by
  obtain ⟨i0, hi, hz0, hz1, hz2⟩ := info_parts Tryd.info5
  obtain ⟨k1, k2⟩ := two_new w (.cells #[.string name, .int .u8 1] 28) (.cells #[.int .u64 u, .string S] 31)
  have HT := hid ((show Lib.TabBelow _ _ _ _ _ _ from ht).on (below_two hBw (.cells #[.string name, .int .u8 1] 28) (.cells #[.int .u64 u, .string S] 31)))
  have hq := Plain.quoted_len name.data.toList
  have hh := Plain.head_len name.data.toList
  have hnl : name.data.toList.length = name.size := rfl
  have bq : n + (Plain.quoted name.data.toList).length + 1 ≤ 50000000 := by omega
  have bh : n + (Plain.head name.data.toList).length ≤ 50000000 := by omega
  have HO := hid hown
  have K1 := hid k1
  have K2 := hid k2
  clear ht hown k1 k2 hq hh hnl
  have hui : (u : Int) ≤ 9223372036854775807 := by omega
  go_enter Tryd.func27, Tryd.ntmps27
  go_wp2_with fail
  refine (appStr_any B n sv xs name _ ((HO.out.alloc _).alloc _) (by simp; omega) hname (by omega)).mono ?_
  rintro e w1 ⟨v1, rfl, h1⟩
  go_wp2_with (first
    | (at_builtin; refine wpList_append_own _ rfl (.tmp 11) (.tmp 12) 22 rfl B 5 i0 (.int .u8 0) 1 1 Tryd.underlying22 hi hz0 hz1 hz2 rfl (by decide) _ _ _ rfl (h1.own.alloc _) ⟨w1.heap.size, 0, none⟩ 1 1 [.int .u8 58] rfl rfl (news_block w1 #[.int .u8 58] _) (by intro u hu; simp at hu; subst hu; rfl) (by unfold maxLen; omega) (by omega) (by have := h1.room; simp; omega) ?_; intro v2 w2 ho2 hg2 _; have h2 := h1.more _ [58] ho2 hg2 rfl rfl; have c1 : w2.cell? ⟨w.heap.size, 1, none⟩ = some (.int .u8 1) := box_kept h2 _ _ 28 _ (by decide) K1.out 1; have c2 : w2.cell? ⟨w.heap.size + 1, 0, none⟩ = some (.int .u64 u) := box_kept h2 _ _ 31 _ (by decide) K2.out 0; have c3 : w2.cell? ⟨w.heap.size + 1, 1, none⟩ = some (.string S) := box_kept h2 _ _ 31 _ (by decide) K2.out 1; clear ho2 hg2)
    | (go_at_call 31; refine (appInt_at B (n + (Plain.head name.data.toList).length) (u : Int) (by omega) (by omega) v2 (xs ++ byteCells (Plain.head name.data.toList)) w2 h2.own h2.room (by omega) (Lib.TabBelow.on HT.out h2.below)).mono ?_; rintro e w3 ⟨v3, rfl, h3⟩))
  go_ret
  exact ⟨_, rfl, St.unbox _ _ hBw (St.trans (l1 := Plain.head name.data.toList) h2 h3)⟩

theorem wrap_high (u : Nat) (h1 : 9223372036854775808 ≤ u) (h2 : u < 18446744073709551616) : wrap64 (u : Int) = (u : Int) - 18446744073709551616 := by
  unfold wrap64
  omega
set_option maxHeartbeats 1000000 in
theorem member_high (B n : Nat) (u : Nat) (hu : 9223372036854775808 ≤ u) (hu2 : u < 18446744073709551616) (name S : ByteArray) (sv : Value) (xs : List Value) (w : World) (hown : w.ownsRow B 5 1 sv n xs) (hBw : B ≤ w.heap.size) (hname : name.size ≤ 1048576)  (hlim : n ≤ 1048576) (ht : Tb B w) :
    Calls Tryd.prog 27 #[.agg #[.string name, .int .u8 1], sv, .agg #[.int .u64 u, .string S]] w fun e w' => ∃ v', e = .returned v' ∧ St B n xs w w' v' (Plain.head name.data.toList ++ Lib.itoa ((u : Int) - 18446744073709551616)) := by
  obtain ⟨i0, hi, hz0, hz1, hz2⟩ := info_parts Tryd.info5
  obtain ⟨k1, k2⟩ := two_new w (.cells #[.string name, .int .u8 1] 28) (.cells #[.int .u64 u, .string S] 31)
  have HT := hid ((show Lib.TabBelow _ _ _ _ _ _ from ht).on (below_two hBw (.cells #[.string name, .int .u8 1] 28) (.cells #[.int .u64 u, .string S] 31)))
  have hq := Plain.quoted_len name.data.toList
  have hh := Plain.head_len name.data.toList
  have hnl : name.data.toList.length = name.size := rfl
  have bq : n + (Plain.quoted name.data.toList).length + 1 ≤ 50000000 := by omega
  have bh : n + (Plain.head name.data.toList).length ≤ 50000000 := by omega
  have HO := hid hown
  have K1 := hid k1
  have K2 := hid k2
  clear ht hown k1 k2 hq hh hnl
  have HW := hid (wrap_high u hu hu2)
  go_enter Tryd.func27, Tryd.ntmps27
  go_wp2_with fail
  refine (appStr_any B n sv xs name _ ((HO.out.alloc _).alloc _) (by simp; omega) hname (by omega)).mono ?_
  rintro e w1 ⟨v1, rfl, h1⟩
  go_wp2_with (first
    | (at_builtin; refine wpList_append_own _ rfl (.tmp 11) (.tmp 12) 22 rfl B 5 i0 (.int .u8 0) 1 1 Tryd.underlying22 hi hz0 hz1 hz2 rfl (by decide) _ _ _ rfl (h1.own.alloc _) ⟨w1.heap.size, 0, none⟩ 1 1 [.int .u8 58] rfl rfl (news_block w1 #[.int .u8 58] _) (by intro u hu; simp at hu; subst hu; rfl) (by unfold maxLen; omega) (by omega) (by have := h1.room; simp; omega) ?_; intro v2 w2 ho2 hg2 _; have h2 := h1.more _ [58] ho2 hg2 rfl rfl; have c1 : w2.cell? ⟨w.heap.size, 1, none⟩ = some (.int .u8 1) := box_kept h2 _ _ 28 _ (by decide) K1.out 1; have c2 : w2.cell? ⟨w.heap.size + 1, 0, none⟩ = some (.int .u64 u) := box_kept h2 _ _ 31 _ (by decide) K2.out 0; have c3 : w2.cell? ⟨w.heap.size + 1, 1, none⟩ = some (.string S) := box_kept h2 _ _ 31 _ (by decide) K2.out 1; clear ho2 hg2)
    | (go_at_call 31; refine (appInt_at B (n + (Plain.head name.data.toList).length) (wrap64 (u : Int)) (by rw [HW.out]; omega) (by rw [HW.out]; omega) v2 (xs ++ byteCells (Plain.head name.data.toList)) w2 h2.own h2.room (by omega) (Lib.TabBelow.on HT.out h2.below)).mono ?_; rintro e w3 ⟨v3, rfl, h3⟩; rw [HW.out] at h3))
  go_ret
  exact ⟨_, rfl, St.unbox _ _ hBw (St.trans (l1 := Plain.head name.data.toList) h2 h3)⟩

set_option maxHeartbeats 1000000 in
theorem member_text (B n : Nat) (u : Int) (typ : Int) (n1 : typ ≠ 1) (n2 : typ ≠ 2) (name S : ByteArray) (sv : Value) (xs : List Value) (w : World) (hown : w.ownsRow B 5 1 sv n xs) (hBw : B ≤ w.heap.size) (hname : name.size ≤ 1048576) (hS : S.size ≤ 1048576) (hlim : n ≤ 1048576) (ht : Tb B w) :
    Calls Tryd.prog 27 #[.agg #[.string name, .int .u8 typ], sv, .agg #[.int .u64 u, .string S]] w fun e w' => ∃ v', e = .returned v' ∧ St B n xs w w' v' (Plain.head name.data.toList ++ Plain.quoted S.data.toList) := by
  obtain ⟨i0, hi, hz0, hz1, hz2⟩ := info_parts Tryd.info5
  obtain ⟨k1, k2⟩ := two_new w (.cells #[.string name, .int .u8 typ] 28) (.cells #[.int .u64 u, .string S] 31)
  have HT := hid ((show Lib.TabBelow _ _ _ _ _ _ from ht).on (below_two hBw (.cells #[.string name, .int .u8 typ] 28) (.cells #[.int .u64 u, .string S] 31)))
  have hq := Plain.quoted_len name.data.toList
  have hh := Plain.head_len name.data.toList
  have hnl : name.data.toList.length = name.size := rfl
  have bq : n + (Plain.quoted name.data.toList).length + 1 ≤ 50000000 := by omega
  have bh : n + (Plain.head name.data.toList).length ≤ 50000000 := by omega
  have HO := hid hown
  have K1 := hid k1
  have K2 := hid k2
  clear ht hown k1 k2 hq hh hnl
  have q1 : (typ == 1) = false := beqf n1
  have q2 : (typ == 2) = false := beqf n2
  clear n1 n2
  go_enter Tryd.func27, Tryd.ntmps27
  go_wp2_with fail
  refine (appStr_any B n sv xs name _ ((HO.out.alloc _).alloc _) (by simp; omega) hname (by omega)).mono ?_
  rintro e w1 ⟨v1, rfl, h1⟩
  go_wp2_with (first
    | (at_builtin; refine wpList_append_own _ rfl (.tmp 11) (.tmp 12) 22 rfl B 5 i0 (.int .u8 0) 1 1 Tryd.underlying22 hi hz0 hz1 hz2 rfl (by decide) _ _ _ rfl (h1.own.alloc _) ⟨w1.heap.size, 0, none⟩ 1 1 [.int .u8 58] rfl rfl (news_block w1 #[.int .u8 58] _) (by intro u hu; simp at hu; subst hu; rfl) (by unfold maxLen; omega) (by omega) (by have := h1.room; simp; omega) ?_; intro v2 w2 ho2 hg2 _; have h2 := h1.more _ [58] ho2 hg2 rfl rfl; have c1 : w2.cell? ⟨w.heap.size, 1, none⟩ = some (.int .u8 typ) := box_kept h2 _ _ 28 _ (by decide) K1.out 1; have c2 : w2.cell? ⟨w.heap.size + 1, 0, none⟩ = some (.int .u64 u) := box_kept h2 _ _ 31 _ (by decide) K2.out 0; have c3 : w2.cell? ⟨w.heap.size + 1, 1, none⟩ = some (.string S) := box_kept h2 _ _ 31 _ (by decide) K2.out 1; clear ho2 hg2)
    | (go_at_call 30; refine (appStr_any B (n + (Plain.head name.data.toList).length) v2 (xs ++ byteCells (Plain.head name.data.toList)) S w2 h2.own h2.room hS (by omega)).mono ?_; rintro e w3 ⟨v3, rfl, h3⟩))
  go_ret
  exact ⟨_, rfl, St.unbox _ _ hBw (St.trans (l1 := Plain.head name.data.toList) h2 h3)⟩

set_option maxHeartbeats 1000000 in
/-- 'ZZAppendMemberJSONB1' hands on what 'appendMemberJSON' answers. -/
theorem zz_of (B n : Nat) (name S : ByteArray) (typ u : Int) (sv : Value) (xs : List Value) (w : World) (hown : w.ownsRow B 5 1 sv n xs) (hBw : B ≤ w.heap.size) (ht : Tb B w) (l : List UInt8)
    (H : ∀ w1 : World, w1.ownsRow B 5 1 sv n xs → B ≤ w1.heap.size → Tb B w1 → Calls Tryd.prog 27 #[.agg #[.string name, .int .u8 typ], sv, .agg #[.int .u64 u, .string S]] w1 fun e w' => ∃ v', e = .returned v' ∧ St B n xs w1 w' v' l) :
    Calls Tryd.prog 9 #[.agg #[.string name, .int .u8 typ], sv, .agg #[.int .u64 u, .string S]] w fun e w' => ∃ v', e = .returned v' ∧ St B n xs w w' v' l := by
  have HC := hid (H ((w.alloc (.cells #[.string name, .int .u8 typ] 28)).alloc (.cells #[.int .u64 u, .string S] 31)) ((hown.alloc _).alloc _) (by simp; omega) ((show Lib.TabBelow _ _ _ _ _ _ from ht).on (below_two hBw _ _)))
  clear H ht hown
  go_enter Tryd.func9, Tryd.ntmps9
  go_wp2_with fail
  refine HC.out.mono ?_
  rintro e w1 ⟨v1, rfl, h1⟩
  go_wp2
  go_ret
  exact ⟨_, rfl, St.unbox _ _ hBw h1⟩

theorem zz_uint (B n : Nat) (u : Nat) (hu : u < 18446744073709551616) (name S : ByteArray) (sv : Value) (xs : List Value) (w : World) (hown : w.ownsRow B 5 1 sv n xs) (hBw : B ≤ w.heap.size) (hname : name.size ≤ 1048576) (hlim : n ≤ 1048576) (ht : Tb B w) :
    Calls Tryd.prog 9 #[.agg #[.string name, .int .u8 2], sv, .agg #[.int .u64 u, .string S]] w fun e w' => ∃ v', e = .returned v' ∧ St B n xs w w' v' (Plain.head name.data.toList ++ Lib.decDigits u) :=
  zz_of B n name S 2 u sv xs w hown hBw ht _ fun w1 h1 h2 h3 => member_uint B n u hu name S sv xs w1 h1 h2 hname hlim h3
/-- What an Int column writes: the int64 whose bits are u. -/
def asInt (u : Nat) : Int := if u ≤ 9223372036854775807 then u else (u : Int) - 18446744073709551616
theorem zz_int (B n : Nat) (u : Nat) (hu : u < 18446744073709551616) (name S : ByteArray) (sv : Value) (xs : List Value) (w : World) (hown : w.ownsRow B 5 1 sv n xs) (hBw : B ≤ w.heap.size) (hname : name.size ≤ 1048576) (hlim : n ≤ 1048576) (ht : Tb B w) :
    Calls Tryd.prog 9 #[.agg #[.string name, .int .u8 1], sv, .agg #[.int .u64 u, .string S]] w fun e w' => ∃ v', e = .returned v' ∧ St B n xs w w' v' (Plain.head name.data.toList ++ Lib.itoa (asInt u)) := by
  unfold asInt
  by_cases h : u ≤ 9223372036854775807
  · rw [if_pos h]
    exact zz_of B n name S 1 u sv xs w hown hBw ht _ fun w1 h1 h2 h3 => member_low B n u h name S sv xs w1 h1 h2 hname hlim h3
  · rw [if_neg h]
    exact zz_of B n name S 1 u sv xs w hown hBw ht _ fun w1 h1 h2 h3 => member_high B n u (by omega) hu name S sv xs w1 h1 h2 hname hlim h3
theorem zz_text (B n : Nat) (u typ : Int) (n1 : typ ≠ 1) (n2 : typ ≠ 2) (name S : ByteArray) (sv : Value) (xs : List Value) (w : World) (hown : w.ownsRow B 5 1 sv n xs) (hBw : B ≤ w.heap.size) (hname : name.size ≤ 1048576) (hS : S.size ≤ 1048576) (hlim : n ≤ 1048576) (ht : Tb B w) :
    Calls Tryd.prog 9 #[.agg #[.string name, .int .u8 typ], sv, .agg #[.int .u64 u, .string S]] w fun e w' => ∃ v', e = .returned v' ∧ St B n xs w w' v' (Plain.head name.data.toList ++ Plain.quoted S.data.toList) :=
  zz_of B n name S typ u sv xs w hown hBw ht _ fun w1 h1 h2 h3 => member_text B n u typ n1 n2 name S sv xs w1 h1 h2 hname hS hlim h3
end Go.Proofs.Qxb6603296aDoor
