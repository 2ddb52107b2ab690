/-
  Seat b6603234aD: THE WALK of String and of the law, over the shelf's contract of strconv.Itoa.
-/
import Derived.Test.Qxb6603234aDoorRows
import Derived.Test.Qxb6603234aDoorWalkA
import Derived.Test.Qxb6603234aDoorShelf
import Derived.Lib.AppendIntMem
import Derived.Lib.ItoaLen
namespace Go.Proofs.Qxb6603234aDoor
open Go.RowKit

theorem app_list (a b : ByteArray) : (a ++ b).data.toList = a.data.toList ++ b.data.toList := by simp
theorem ext_data (s : ByteArray) (a b : Nat) : (s.extract a b).data.toList = (s.data.toList.drop a).take (b - a) := by
  obtain ⟨⟨l⟩⟩ := s
  rw [ByteArray.extract_mk]

/-- The library's table, as the row lists it. -/
def Tab (w : World) : Prop := Lib.TabIs Tryd.prog w (Rows.fnGuaranteeStringParsesBackRow.named.headD "") .u64 Lib.pow10Tab

theorem itoa_at (g : Int) (h0 : -9223372036854775808 ≤ g) (h1 : g ≤ 9223372036854775807) (w : World) (ht : Tab w) :
    Calls Tryd.prog 7 #[.int .i64 g] w fun e w' => e = .returned (.string ⟨(Lib.itoa g).toArray⟩) ∧ Below w.heap.size w w' := by
  refine (Any.strconv_Itoa Tryd.laysM171 g h0 h1 w ht).mono ?_
  rintro e w' ⟨he, k, os, rfl⟩
  exact ⟨he, Lib.below_grow _ _ (Nat.le_refl _) _ _⟩

set_option maxHeartbeats 400000 in
theorem string_any (g : Int) (h0 : -9223372036854775808 ≤ g) (h1 : g ≤ 9223372036854775807) (n1 : g ≠ 1) (n2 : g ≠ 2) (S : ByteArray)
    (hS : (⟨#[71, 117, 97, 114, 97, 110, 116, 101, 101, 40]⟩ : ByteArray) ++ ⟨(Lib.itoa g).toArray⟩ ++ ⟨#[41]⟩ = S) (w : World) (ht : Tab w) :
    Calls Tryd.prog 5 #[.int .i64 g] w fun e w' => e = .returned (.string S) ∧ Below w.heap.size w w' := by
  have hI := itoa_at g h0 h1 w ht
  have hl := Lib.itoa_length_le g h0 h1
  obtain ⟨N, hN⟩ : ∃ N : ByteArray, N = ⟨(Lib.itoa g).toArray⟩ := ⟨_, rfl⟩
  have hNs : N.size ≤ 21 := by rw [hN]; simpa [ByteArray.size] using hl
  rw [← hN] at hI hS
  have HI := hid hI
  have e1 : (g == 1) = false := beqf n1
  have e2 : (g == 2) = false := beqf n2
  clear hI hl hN ht n1 n2
  go_enter Tryd.func5, Tryd.ntmps5
  go_wp2_with (go_at_call 7; refine HI.out.mono ?_; rintro e w1 ⟨rfl, hb1⟩)
  go_ret
  exact ⟨rfl, hb1⟩

set_option maxHeartbeats 400000 in
theorem law_named (g : Int) (h : g = 1 ∨ g = 2) (w : World) :
    Calls Tryd.prog 3 #[.int .i64 g] w fun e w' => e = .returned (.bool true) ∧ Below w.heap.size w w' := by
  rcases h with rfl | rfl
  · go_enter Tryd.func3, Tryd.ntmps3
    go_wp2
    go_ret
    exact ⟨rfl, Below.refl _ _⟩
  · go_enter Tryd.func3, Tryd.ntmps3
    go_wp2
    go_ret
    exact ⟨rfl, Below.refl _ _⟩

/-- The parts of the text that String makes. -/
theorem parts (N S B : ByteArray) (hS : (⟨#[71, 117, 97, 114, 97, 110, 116, 101, 101, 40]⟩ : ByteArray) ++ N ++ ⟨#[41]⟩ = S) (hB : S.extract 10 (S.size - 1) = B) : B = N ∧ S.data.toList = pre ++ B.data.toList ++ [41] := by
  have hl : S.data.toList = pre ++ N.data.toList ++ [41] := by
    rw [← hS, app_list, app_list]; rfl
  have hz := size_of S N hl
  have e : B.data.toList = N.data.toList := by
    rw [← hB, ext_data, hl, List.append_assoc, show (10 : Nat) = pre.length from rfl, List.drop_left, List.take_left']
    have : N.data.toList.length = N.size := rfl
    have h10 : pre.length = 10 := rfl
    omega
  refine ⟨?_, by rw [e]; exact hl⟩
  cases B; cases N
  simp only [ByteArray.mk.injEq]
  exact Array.toList_inj.1 e

theorem fall_any (g : Int) (h0 : -9223372036854775808 ≤ g) (h1 : g ≤ 9223372036854775807) (S : ByteArray)
    (hS : (⟨#[71, 117, 97, 114, 97, 110, 116, 101, 101, 40]⟩ : ByteArray) ++ ⟨(Lib.itoa g).toArray⟩ ++ ⟨#[41]⟩ = S) (w : World) :
    Calls Tryd.prog 6 #[.string S] w fun e w' => e = .returned (.tuple #[.int .i64 g, .bool true]) ∧ Below w.heap.size w w' := by
  obtain ⟨B, hB⟩ : ∃ B, S.extract 10 (S.size - 1) = B := ⟨_, rfl⟩
  obtain ⟨e1, e2⟩ := parts _ S B hS hB
  by_cases hn : g < 0
  · obtain ⟨u, rfl⟩ : ∃ u : Nat, g = -(u : Int) := ⟨g.natAbs, by omega⟩
    have hl : B.data.toList = 45 :: Lib.decDigits u := by
      rw [e1]
      show Lib.itoa (-(u : Int)) = _
      unfold Lib.itoa
      rw [if_pos hn]
      simp
    obtain ⟨D, hD⟩ : ∃ D, B.extract 1 B.size = D := ⟨_, rfl⟩
    have hDl : D.data.toList = Lib.decDigits u := by
      rw [← hD, ext_data, hl, List.drop_one, List.tail_cons]
      have : B.data.toList.length = B.size := rfl
      rw [hl] at this
      rw [List.take_of_length_le]
      simp at this
      omega
    exact fall_neg S B D u hB hD (hid e2) (hid (by rw [hl, hDl])) (hid hDl) (by omega) (by omega) w
  · obtain ⟨u, rfl⟩ : ∃ u : Nat, g = (u : Int) := ⟨g.toNat, by omega⟩
    have hl : B.data.toList = Lib.decDigits u := by
      rw [e1]
      show Lib.itoa (u : Int) = _
      unfold Lib.itoa
      rw [if_neg hn]
      simp
    exact fall_pos S B u hB (hid e2) (hid hl) (by omega) w

theorem not_named (S : ByteArray) (r t : List UInt8) (h : S.data.toList = pre ++ r) : (S.toList == 104 :: t) = false := by
  rw [ByteArray.toList_eq, h]
  rfl

set_option maxHeartbeats 400000 in
theorem law_other (g : Int) (h0 : -9223372036854775808 ≤ g) (h1 : g ≤ 9223372036854775807) (n1 : g ≠ 1) (n2 : g ≠ 2) (w : World) (ht : Tab w) :
    Calls Tryd.prog 3 #[.int .i64 g] w fun e w' => e = .returned (.bool true) ∧ Below w.heap.size w w' := by
  obtain ⟨S, hS⟩ : ∃ S, (⟨#[71, 117, 97, 114, 97, 110, 116, 101, 101, 40]⟩ : ByteArray) ++ ⟨(Lib.itoa g).toArray⟩ ++ ⟨#[41]⟩ = S := ⟨_, rfl⟩
  have hA := string_any g h0 h1 n1 n2 S hS w ht
  have HF : Hid (∀ w1, Calls Tryd.prog 6 #[.string S] w1 fun e w' => e = .returned (.tuple #[.int .i64 g, .bool true]) ∧ Below w1.heap.size w1 w') := hid fun w1 => fall_any g h0 h1 S hS w1
  have HA := hid hA
  have hl := (parts _ S _ hS rfl).2
  rw [List.append_assoc] at hl
  have q1 := not_named S _ [101, 108, 100, 32, 119, 104, 105, 108, 101, 32, 116, 104, 101, 32, 115, 101, 115, 115, 105, 111, 110, 32, 108, 105, 118, 101, 115] hl
  have q2 := not_named S _ [101, 108, 100, 32, 119, 104, 105, 108, 101, 32, 116, 104, 101, 32, 108, 101, 97, 115, 101, 32, 105, 115, 32, 114, 101, 110, 101, 119, 101, 100] hl
  clear hA hS ht hl
  go_enter Tryd.func3, Tryd.ntmps3
  go_wp2_with (first
    | (go_at_call 5; refine HA.out.mono ?_; rintro e w1 ⟨rfl, hb1⟩)
    | (go_at_call 6; refine (HF.out _).mono ?_; rintro e w2 ⟨rfl, hb2⟩))
  go_ret
  exact ⟨ret_bool (by simp), hb1.trans (hb2.mono hb1.size)⟩
end Go.Proofs.Qxb6603234aDoor
