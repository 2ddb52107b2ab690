/-
  Seat b6603234aD: THE WALK of zzParseFallback at the texts that String makes.
-/
import Derived.Test.Qxb6603234aDoorProg
import Derived.Test.Qxb6603234aDoorPlain
import Derived.WalkKit
import Derived.WalkSpells
import Derived.WalkLawsBesides
import Derived.Deep.QuietTactic
import Derived.BigQuiet
import Derived.Outline
namespace Go.Proofs.Qxb6603234aDoor
open Go.RowKit

theorem hid {p : Prop} (h : p) : Hid p := h
theorem ret_bool {a b : Bool} (h : a = b) : Ending.returned (.bool a) = .returned (.bool b) := by rw [h]
theorem beqf {a b : Int} (h : a ≠ b) : (a == b) = false := by simpa using h
theorem beqt {a b : Int} (h : a = b) : (a == b) = true := by simpa using h
theorem bnet {a b : Int} (h : a ≠ b) : (a != b) = true := by simpa using h
theorem bnef {a b : Int} (h : a = b) : (a != b) = false := by simpa using h
theorem getl (s : ByteArray) (k : Nat) (h : k < s.size) : s.data.toList[k]? = some s[k] := by
  rw [List.getElem?_eq_getElem (by simpa using h)]; rfl
theorem take_snoc (s : ByteArray) (k : Nat) (h : k < s.size) : s.data.toList.take (k + 1) = s.data.toList.take k ++ [s[k]] := by
  rw [List.take_succ_eq_append_getElem (by simpa using h)]; rfl
theorem byte_mem (s : ByteArray) (k : Nat) (hk : k < s.size) : s[k] ∈ s.data.toList := List.mem_of_getElem? (getl s k hk)

/-- The text ahead of the number. -/
def pre : List UInt8 := [71, 117, 97, 114, 97, 110, 116, 101, 101, 40]

theorem ret_pair {a c : Int} {b : Bool} (h : a = c) : Ending.returned (.tuple #[.int .i64 a, .bool b]) = .returned (.tuple #[.int .i64 c, .bool b]) := by rw [h]

/-- The bytes of such a text. -/
theorem pre_at (S : ByteArray) (r : List UInt8) (hS : S.data.toList = pre ++ r) (k : Nat) (hk : k < 10) (hs : k < S.size) : S[k].toNat = ((⟨#[71, 117, 97, 114, 97, 110, 116, 101, 101, 40]⟩ : ByteArray)[k]'hk).toNat := by
  have h1 := getl S k hs
  have h2 := getl ⟨#[71, 117, 97, 114, 97, 110, 116, 101, 101, 40]⟩ k hk
  rw [hS, List.getElem?_append_left (show k < pre.length from hk)] at h1
  have e : pre[k]? = (⟨#[71, 117, 97, 114, 97, 110, 116, 101, 101, 40]⟩ : ByteArray).data.toList[k]? := rfl
  rw [e, h2] at h1
  rw [Option.some.inj h1]
theorem last_at (S : ByteArray) (r : List UInt8) (hS : S.data.toList = r ++ [41]) (hs : S.size - 1 < S.size) : S[S.size - 1].toNat = 41 := by
  have h1 := getl S (S.size - 1) hs
  have hl : S.size = r.length + 1 := by
    have := congrArg List.length hS
    rw [List.length_append] at this
    exact this
  rw [hS, List.getElem?_append_right (by omega), show S.size - 1 - r.length = 0 by omega] at h1
  have e : S[S.size - 1] = 41 := (Option.some.inj h1).symm
  rw [e]; rfl
theorem size_of (S B : ByteArray) (hS : S.data.toList = pre ++ B.data.toList ++ [41]) : S.size = B.size + 11 := by
  have := congrArg List.length hS
  rw [List.length_append, List.length_append] at this
  have e1 : S.data.toList.length = S.size := rfl
  have e2 : B.data.toList.length = B.size := rfl
  have e3 : pre.length = 10 := rfl
  have e4 : [(41 : UInt8)].length = 1 := rfl
  omega
theorem head_at (B : ByteArray) (c : UInt8) (t : List UInt8) (hB : B.data.toList = c :: t) (h : 0 < B.size) : B[0] = c := by
  have h1 := getl B 0 h
  rw [hB] at h1
  exact (Option.some.inj h1).symm
/-- The digits' first byte: no sign; no zero ahead of another digit. -/
theorem first_ok (D : ByteArray) (u : Nat) (hD : D.data.toList = Lib.decDigits u) (h : 0 < D.size) : D[0].toNat ≠ 45 ∧ (1 < D.size → D[0].toNat ≠ 48) := by
  have hd := (Plain.dig_iff D[0]).1 (Plain.dec_dig u D[0] (by rw [← hD]; exact byte_mem D 0 h))
  refine ⟨by omega, fun h1 => ?_⟩
  by_cases h0 : u = 0
  · rw [h0, Plain.dec_zero] at hD
    have : D.size = 1 := by
      show D.data.toList.length = 1
      rw [hD]; rfl
    omega
  · obtain ⟨c, t, e, hc⟩ := Plain.dec_head u (by omega)
    rw [head_at D c t (by rw [hD, e]) h]
    exact hc

set_option maxHeartbeats 400000 in
theorem fall_pos (S B : ByteArray) (u : Nat) (hB : S.extract 10 (S.size - 1) = B) (hS : Hid (S.data.toList = pre ++ B.data.toList ++ [41])) (HD : Hid (B.data.toList = Lib.decDigits u)) (hu : u ≤ 9223372036854775807) (w : World) :
    Calls Tryd.prog 6 #[.string S] w fun e w' => e = .returned (.tuple #[.int .i64 u, .bool true]) ∧ Below w.heap.size w w' := by
  have hL1 : 1 ≤ B.size := by have := Plain.dec_ne u; rw [← HD.out] at this; exact this
  have hL2 : B.size ≤ 19 := by have := Plain.dec_len u (by omega); rw [← HD.out] at this; exact this
  have hsz := size_of S B hS.out
  have hp0 : 0 < B.size := hL1
  obtain ⟨f1, f2⟩ := first_ok B u HD.out hp0
  have s1 : (12 : Int) ≤ (S.size : Int) := by omega
  have s2 : (S.size : Int) ≤ 30 := by omega
  have s3 : (B.size : Int) ≤ 19 := by omega
  have z1 : ((B[0].toNat : Int) == 45) = false := beqf (by omega)
  have z2 : ((B.size : Int) == 0) = false := beqf (by omega)
  clear hsz f1
  go_enter Tryd.func6, Tryd.ntmps6
  go_wp2
  go_loopw [4] (fun i wr => ∃ k : Nat, k ≤ 10 ∧ i = .int .i64 k ∧ Below w.heap.size w wr) (fun i _ => 10 - (intOf i).toNat)
  case atStart => exact ⟨0, Nat.zero_le _, rfl, Below.refl _ _⟩
  case round =>
    obtain ⟨k, hk, rfl, hb⟩ := hrel
    by_cases hlt : k < 10
    · have x1 : (k : Int) < (S.size : Int) := by omega
      have x2 : (k : Int) < 10 := by omega
      have x0 : k < S.size := by omega
      have x3 : ((S[k].toNat : Int) != (((⟨#[71, 117, 97, 114, 97, 110, 116, 101, 101, 40]⟩ : ByteArray)[k]'hlt).toNat : Int)) = false := bnef (by rw [pre_at S _ (by rw [hS.out, List.append_assoc]) k hlt x0])
      go_wp2
      go_quiet (fail)
      go_wp2
      go_roundw
      case rel => exact ⟨k + 1, by omega, by go_num, below_drewN hb _⟩
      case measure => simp [intOf]; omega
    · have hk10 : k = 10 := by omega
      subst hk10
      clear hlt hk
      have y0 : S.size - 1 < S.size := by omega
      have y1 : ((S[S.size - 1].toNat : Int) != 41) = false := bnef (by rw [last_at S _ hS.out y0]; rfl)
      by_cases h1 : 1 < B.size
      · have z3 : ((B[0].toNat : Int) == 48) = false := beqf (by have := f2 h1; omega)
        have z4 : (1 : Int) < (B.size : Int) := by omega
        clear f2
        go_wp2
        go_loop [7, 8, 9, 10] (fun v i _ _ => ∃ j x : Nat, j ≤ B.size ∧ i = .int .i64 j ∧ v = .int .u64 x ∧ Hid (Plain.val (B.data.toList.take j) = x)) (fun _ i _ _ => B.size - (intOf i).toNat)
        case atStart => exact ⟨0, 0, Nat.zero_le _, rfl, rfl, hid (by rw [List.take_zero, Plain.val_eq, Plain.valFrom_nil])⟩
        case round =>
          obtain ⟨j, x, hj, rfl, rfl, HV⟩ := hrel
          by_cases hjl : j < B.size
          · have hdc := (Plain.dig_iff B[j]).1 (Plain.dec_dig u B[j] (by rw [← HD.out]; exact byte_mem B j hjl))
            have hle := Plain.val_take_le B.data.toList (j + 1)
            rw [HD.out, Plain.dec_val, ← HD.out] at hle
            have hsn : Plain.val (B.data.toList.take (j + 1)) = x * 10 + (B[j].toNat - 48) := by rw [take_snoc B j hjl, Plain.val_snoc, HV.out]
            rw [hsn] at hle
            have HSN := hid hsn
            have b0 : (48 : Int) ≤ (B[j].toNat : Int) := by omega
            have b1 : (B[j].toNat : Int) ≤ 57 := by omega
            have b2 : (x : Int) * 10 + ((B[j].toNat : Int) - 48) ≤ 9223372036854775808 := by omega
            clear hdc hle hsn
            go_wp2
            go_round
            case rel => exact ⟨j + 1, x * 10 + (B[j].toNat - 48), by omega, by go_num, by go_num, hid HSN.out⟩
            case measure => simp [intOf]; omega
          · have e : B.data.toList.take j = B.data.toList := List.take_of_length_le (by show B.size ≤ j; omega)
            have hx := HV.out
            rw [e, HD.out, Plain.dec_val] at hx
            subst hx
            clear e
            go_wp2
            go_ret2
            exact ⟨rfl, hb⟩
      · have z4 : (B.size : Int) ≤ 1 := by omega
        clear f2
        go_wp2
        go_loop [7, 8, 9, 10] (fun v i _ _ => ∃ j x : Nat, j ≤ B.size ∧ i = .int .i64 j ∧ v = .int .u64 x ∧ Hid (Plain.val (B.data.toList.take j) = x)) (fun _ i _ _ => B.size - (intOf i).toNat)
        case atStart => exact ⟨0, 0, Nat.zero_le _, rfl, rfl, hid (by rw [List.take_zero, Plain.val_eq, Plain.valFrom_nil])⟩
        case round =>
          obtain ⟨j, x, hj, rfl, rfl, HV⟩ := hrel
          by_cases hjl : j < B.size
          · have hdc := (Plain.dig_iff B[j]).1 (Plain.dec_dig u B[j] (by rw [← HD.out]; exact byte_mem B j hjl))
            have hle := Plain.val_take_le B.data.toList (j + 1)
            rw [HD.out, Plain.dec_val, ← HD.out] at hle
            have hsn : Plain.val (B.data.toList.take (j + 1)) = x * 10 + (B[j].toNat - 48) := by rw [take_snoc B j hjl, Plain.val_snoc, HV.out]
            rw [hsn] at hle
            have HSN := hid hsn
            have b0 : (48 : Int) ≤ (B[j].toNat : Int) := by omega
            have b1 : (B[j].toNat : Int) ≤ 57 := by omega
            have b2 : (x : Int) * 10 + ((B[j].toNat : Int) - 48) ≤ 9223372036854775808 := by omega
            clear hdc hle hsn
            go_wp2
            go_round
            case rel => exact ⟨j + 1, x * 10 + (B[j].toNat - 48), by omega, by go_num, by go_num, hid HSN.out⟩
            case measure => simp [intOf]; omega
          · have e : B.data.toList.take j = B.data.toList := List.take_of_length_le (by show B.size ≤ j; omega)
            have hx := HV.out
            rw [e, HD.out, Plain.dec_val] at hx
            subst hx
            clear e
            go_wp2
            go_ret2
            exact ⟨rfl, hb⟩

set_option maxHeartbeats 400000 in
theorem fall_neg (S B D : ByteArray) (u : Nat) (hB : S.extract 10 (S.size - 1) = B) (hDB : B.extract 1 B.size = D) (hS : Hid (S.data.toList = pre ++ B.data.toList ++ [41])) (HB : Hid (B.data.toList = 45 :: D.data.toList)) (HD : Hid (D.data.toList = Lib.decDigits u)) (hu : u ≤ 9223372036854775808) (hu1 : 1 ≤ u) (w : World) :
    Calls Tryd.prog 6 #[.string S] w fun e w' => e = .returned (.tuple #[.int .i64 (-(u : Int)), .bool true]) ∧ Below w.heap.size w w' := by
  have hL1 : 1 ≤ D.size := by have := Plain.dec_ne u; rw [← HD.out] at this; exact this
  have hL2 : D.size ≤ 19 := by have := Plain.dec_len u (by omega); rw [← HD.out] at this; exact this
  have hBs : B.size = D.size + 1 := by
    have := congrArg List.length HB.out
    rw [List.length_cons] at this
    exact this
  have hsz := size_of S B hS.out
  have hp0 : 0 < D.size := hL1
  obtain ⟨f1, f2⟩ := first_ok D u HD.out hp0
  have s1 : (12 : Int) ≤ (S.size : Int) := by omega
  have s2 : (S.size : Int) ≤ 31 := by omega
  have s3 : (D.size : Int) ≤ 19 := by omega
  have s4 : 0 < B.size := by omega
  have s5 : (1 : Int) ≤ (B.size : Int) := by omega
  have z1 : ((B[0].toNat : Int) == 45) = true := beqt (by rw [head_at B 45 _ HB.out s4]; rfl)
  have z2 : ((D.size : Int) == 0) = false := beqf (by omega)
  have z5 : ((u : Int) == 0) = false := beqf (by omega)
  clear hsz f1 hBs
  go_enter Tryd.func6, Tryd.ntmps6
  go_wp2
  go_loopw [4] (fun i wr => ∃ k : Nat, k ≤ 10 ∧ i = .int .i64 k ∧ Below w.heap.size w wr) (fun i _ => 10 - (intOf i).toNat)
  case atStart => exact ⟨0, Nat.zero_le _, rfl, Below.refl _ _⟩
  case round =>
    obtain ⟨k, hk, rfl, hb⟩ := hrel
    by_cases hlt : k < 10
    · have x1 : (k : Int) < (S.size : Int) := by omega
      have x2 : (k : Int) < 10 := by omega
      have x0 : k < S.size := by omega
      have x3 : ((S[k].toNat : Int) != (((⟨#[71, 117, 97, 114, 97, 110, 116, 101, 101, 40]⟩ : ByteArray)[k]'hlt).toNat : Int)) = false := bnef (by rw [pre_at S _ (by rw [hS.out, List.append_assoc]) k hlt x0])
      go_wp2
      go_quiet (fail)
      go_wp2
      go_roundw
      case rel => exact ⟨k + 1, by omega, by go_num, below_drewN hb _⟩
      case measure => simp [intOf]; omega
    · have hk10 : k = 10 := by omega
      subst hk10
      clear hlt hk
      have y0 : S.size - 1 < S.size := by omega
      have y1 : ((S[S.size - 1].toNat : Int) != 41) = false := bnef (by rw [last_at S _ hS.out y0]; rfl)
      by_cases h1 : 1 < D.size
      · have z3 : ((D[0].toNat : Int) == 48) = false := beqf (by have := f2 h1; omega)
        have z4 : (1 : Int) < (D.size : Int) := by omega
        clear f2
        go_wp2
        go_loop [7, 8, 9, 10] (fun v i _ _ => ∃ j x : Nat, j ≤ D.size ∧ i = .int .i64 j ∧ v = .int .u64 x ∧ Hid (Plain.val (D.data.toList.take j) = x)) (fun _ i _ _ => D.size - (intOf i).toNat)
        case atStart => exact ⟨0, 0, Nat.zero_le _, rfl, rfl, hid (by rw [List.take_zero, Plain.val_eq, Plain.valFrom_nil])⟩
        case round =>
          obtain ⟨j, x, hj, rfl, rfl, HV⟩ := hrel
          by_cases hjl : j < D.size
          · have hdc := (Plain.dig_iff D[j]).1 (Plain.dec_dig u D[j] (by rw [← HD.out]; exact byte_mem D j hjl))
            have hle := Plain.val_take_le D.data.toList (j + 1)
            rw [HD.out, Plain.dec_val, ← HD.out] at hle
            have hsn : Plain.val (D.data.toList.take (j + 1)) = x * 10 + (D[j].toNat - 48) := by rw [take_snoc D j hjl, Plain.val_snoc, HV.out]
            rw [hsn] at hle
            have HSN := hid hsn
            have b0 : (48 : Int) ≤ (D[j].toNat : Int) := by omega
            have b1 : (D[j].toNat : Int) ≤ 57 := by omega
            have b2 : (x : Int) * 10 + ((D[j].toNat : Int) - 48) ≤ 9223372036854775808 := by omega
            clear hdc hle hsn
            go_wp2
            go_round
            case rel => exact ⟨j + 1, x * 10 + (D[j].toNat - 48), by omega, by go_num, by go_num, hid HSN.out⟩
            case measure => simp [intOf]; omega
          · have e : D.data.toList.take j = D.data.toList := List.take_of_length_le (by show D.size ≤ j; omega)
            have hx := HV.out
            rw [e, HD.out, Plain.dec_val] at hx
            subst hx
            clear e
            go_wp2
            go_ret2
            exact ⟨ret_pair (by omega), hb⟩
      · have z4 : (D.size : Int) ≤ 1 := by omega
        clear f2
        go_wp2
        go_loop [7, 8, 9, 10] (fun v i _ _ => ∃ j x : Nat, j ≤ D.size ∧ i = .int .i64 j ∧ v = .int .u64 x ∧ Hid (Plain.val (D.data.toList.take j) = x)) (fun _ i _ _ => D.size - (intOf i).toNat)
        case atStart => exact ⟨0, 0, Nat.zero_le _, rfl, rfl, hid (by rw [List.take_zero, Plain.val_eq, Plain.valFrom_nil])⟩
        case round =>
          obtain ⟨j, x, hj, rfl, rfl, HV⟩ := hrel
          by_cases hjl : j < D.size
          · have hdc := (Plain.dig_iff D[j]).1 (Plain.dec_dig u D[j] (by rw [← HD.out]; exact byte_mem D j hjl))
            have hle := Plain.val_take_le D.data.toList (j + 1)
            rw [HD.out, Plain.dec_val, ← HD.out] at hle
            have hsn : Plain.val (D.data.toList.take (j + 1)) = x * 10 + (D[j].toNat - 48) := by rw [take_snoc D j hjl, Plain.val_snoc, HV.out]
            rw [hsn] at hle
            have HSN := hid hsn
            have b0 : (48 : Int) ≤ (D[j].toNat : Int) := by omega
            have b1 : (D[j].toNat : Int) ≤ 57 := by omega
            have b2 : (x : Int) * 10 + ((D[j].toNat : Int) - 48) ≤ 9223372036854775808 := by omega
            clear hdc hle hsn
            go_wp2
            go_round
            case rel => exact ⟨j + 1, x * 10 + (D[j].toNat - 48), by omega, by go_num, by go_num, hid HSN.out⟩
            case measure => simp [intOf]; omega
          · have e : D.data.toList.take j = D.data.toList := List.take_of_length_le (by show D.size ≤ j; omega)
            have hx := HV.out
            rw [e, HD.out, Plain.dec_val] at hx
            subst hx
            clear e
            go_wp2
            go_ret2
            exact ⟨ret_pair (by omega), hb⟩
end Go.Proofs.Qxb6603234aDoor
