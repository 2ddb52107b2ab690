/-
  Seat b6603192aD: THE WALKS of the case table's helpers: isDigitByte, digitValue, countNonDigits, greaterText.
-/
import Derived.Test.Qxb6603192aDoorWalkC
import Derived.Test.Qxb6603192aDoorPlain2
import Derived.Deep.QuietTactic
import Derived.BigQuiet
namespace Go.Proofs.Qxb6603192aDoor
open Go.RowKit

theorem ret_int {k : IntKind} {a b : Int} (h : a = b) : Ending.returned (.int k a) = .returned (.int k b) := by rw [h]

set_option maxHeartbeats 400000 in
theorem isDigitByte_any (c : UInt8) (w : World) :
    Calls Tryd.prog 9 #[.int .u8 c.toNat] w fun e w' => e = .returned (.bool (Plain.dig c)) ∧ w' = w := by
  have hx : (c.toNat : Int) ≤ 255 := by have := c.toNat_lt; omega
  obtain ⟨x, hX⟩ : ∃ x : Nat, x = c.toNat := ⟨_, rfl⟩
  have e : Plain.dig c = (decide (48 ≤ x) && decide (x ≤ 57)) := by rw [hX]; rfl
  rw [e, ← hX]
  rw [← hX] at hx
  clear e hX
  go_enter Tryd.func9, Tryd.ntmps9
  go_wp2
  all_goals
    go_ret
    refine ⟨ret_bool ?_, rfl⟩
    simp_all
    try omega

set_option maxHeartbeats 400000 in
theorem digitValue_any (x : Nat) (h0 : 48 ≤ x) (h1 : x ≤ 57) (w : World) :
    Calls Tryd.prog 17 #[.int .u8 x] w fun e w' => e = .returned (.int .i64 ((x - 48 : Nat) : Int)) ∧ w' = w := by
  go_enter Tryd.func17, Tryd.ntmps17
  go_wp2
  all_goals
    go_ret
    refine ⟨ret_int ?_, rfl⟩
    have hh : ∀ k : Int, ((x : Int) == k) = true → (x : Int) = k := fun k h => by simpa using h
    first
      | (have q := hh 48 (by assumption); omega)
      | (have q := hh 49 (by assumption); omega)
      | (have q := hh 50 (by assumption); omega)
      | (have q := hh 51 (by assumption); omega)
      | (have q := hh 52 (by assumption); omega)
      | (have q := hh 53 (by assumption); omega)
      | (have q := hh 54 (by assumption); omega)
      | (have q := hh 55 (by assumption); omega)
      | (have q := hh 56 (by assumption); omega)
      | (have q := hh 57 (by assumption); omega)

theorem take_snoc (s : ByteArray) (k : Nat) (h : k < s.size) : s.data.toList.take (k + 1) = s.data.toList.take k ++ [s[k]] := by
  rw [List.take_succ_eq_append_getElem (by simpa using h)]; rfl

set_option maxHeartbeats 400000 in
theorem countNon_any (s : ByteArray) (w : World) (hs : s.size ≤ 1048576) :
    Calls Tryd.prog 15 #[.string s] w fun e w' => e = .returned (.int .i64 (Plain.cnt s.data.toList)) ∧ w' = w := by
  go_enter Tryd.func15, Tryd.ntmps15
  go_wp2
  go_loop [3, 4] (fun n i => ∃ k c : Nat, k ≤ s.size ∧ i = .int .i64 k ∧ n = .int .i64 c ∧ c ≤ k ∧ Hid (Plain.cnt (s.data.toList.take k) = c)) (fun _ i => s.size - (intOf i).toNat)
  case atStart => exact ⟨0, 0, Nat.zero_le _, rfl, rfl, Nat.le_refl _, hid (by simp [Plain.cnt])⟩
  case round =>
    obtain ⟨k, c, hk, rfl, rfl, hc, HC⟩ := hrel
    by_cases hlt : k < s.size
    · have hD := isDigitByte_any s[k] w
      have HS : Hid (Plain.cnt (s.data.toList.take (k + 1)) = c + (if Plain.dig s[k] then 0 else 1)) := hid (by rw [take_snoc s k hlt, Plain.cnt_snoc, HC.out])
      cases hd : Plain.dig s[k] with
      | true =>
        rw [hd] at hD HS
        have HD := hid hD
        clear hD hd
        go_wp2_with (go_at_call 9; refine HD.out.mono ?_; rintro e w' ⟨rfl, rfl⟩)
        go_round
        case rel => exact ⟨k + 1, c, by omega, by go_num, rfl, by omega, hid (by rw [HS.out]; simp)⟩
        case measure => simp [intOf]; omega
      | false =>
        rw [hd] at hD HS
        have HD := hid hD
        clear hD hd
        go_wp2_with (go_at_call 9; refine HD.out.mono ?_; rintro e w' ⟨rfl, rfl⟩)
        go_round
        case rel => exact ⟨k + 1, c + 1, by omega, by go_num, by go_num, by omega, hid (by rw [HS.out]; simp)⟩
        case measure => simp [intOf]; omega
    · go_wp2
      go_ret
      have e : s.data.toList.take k = s.data.toList := List.take_of_length_le (by simp; omega)
      have := HC.out
      rw [e] at this
      exact ⟨ret_int (by rw [this]), rfl⟩

theorem gt_step (a b : ByteArray) (k : Nat) (ha : k < a.size) (hb : k < b.size) : Plain.gtL (a.data.toList.drop k) (b.data.toList.drop k) = if a[k] = b[k] then Plain.gtL (a.data.toList.drop (k + 1)) (b.data.toList.drop (k + 1)) else decide (b[k].toNat < a[k].toNat) := by
  have e1 : a.data.toList.drop k = a[k] :: a.data.toList.drop (k + 1) := by rw [List.drop_eq_getElem_cons (by simpa using ha)]; rfl
  have e2 : b.data.toList.drop k = b[k] :: b.data.toList.drop (k + 1) := by rw [List.drop_eq_getElem_cons (by simpa using hb)]; rfl
  rw [e1, e2, Plain.gtL]

set_option maxHeartbeats 400000 in
theorem greater_any (a b : ByteArray) (w : World) (ha : a.size ≤ 1048576) :
    Calls Tryd.prog 16 #[.string a, .string b] w fun e w' => e = .returned (.bool (Plain.gtL a.data.toList b.data.toList)) ∧ Below w.heap.size w w' := by
  go_enter Tryd.func16, Tryd.ntmps16
  go_wp2
  go_loopw [5] (fun i wr => ∃ k : Nat, k ≤ a.size ∧ k ≤ b.size ∧ i = .int .i64 k ∧ Hid (Plain.gtL a.data.toList b.data.toList = Plain.gtL (a.data.toList.drop k) (b.data.toList.drop k)) ∧ Below w.heap.size w wr) (fun i _ => a.size - (intOf i).toNat)
  case atStart => exact ⟨0, Nat.zero_le _, Nat.zero_le _, rfl, hid rfl, Below.refl _ _⟩
  case round =>
    obtain ⟨k, h1, h2, rfl, HG, hbl⟩ := hrel
    by_cases k1 : k < a.size
    · by_cases k2 : k < b.size
      · have i1 : (k : Int) < (a.size : Int) := by omega
        have i2 : (k : Int) < (b.size : Int) := by omega
        go_wp2
        go_quiet (fail)
        go_wp2
        · go_quiet (fail)
          go_wp2
          go_ret
          have hne : ((a[k].toNat : Int) != (b[k].toNat : Int)) = true := by assumption
          refine ⟨ret_bool ?_, below_drewN (below_drewN hbl _) _⟩
          rw [HG.out, gt_step a b k k1 k2, if_neg (by intro e; rw [e] at hne; simp at hne)]
        · have hne : ((a[k].toNat : Int) != (b[k].toNat : Int)) = false := by assumption
          go_roundw
          case rel =>
            have e : a[k] = b[k] := UInt8.toNat_inj.1 (by simp at hne; omega)
            exact ⟨k + 1, by omega, by omega, by go_num, hid (by rw [HG.out, gt_step a b k k1 k2, if_pos e]), below_drewN hbl _⟩
          case measure => simp [intOf]; omega
      · have hk : k = b.size := by omega
        go_wp2
        go_ret
        refine ⟨ret_bool ?_, hbl⟩
        rw [HG.out, List.drop_of_length_le (l := b.data.toList) (by simp; omega)]
        cases a.data.toList.drop k <;> rfl
    · have hk : k = a.size := by omega
      go_wp2
      go_ret
      refine ⟨ret_bool ?_, hbl⟩
      rw [HG.out, List.drop_of_length_le (l := a.data.toList) (by simp; omega)]
      cases b.data.toList.drop k <;> rfl

end Go.Proofs.Qxb6603192aDoor
