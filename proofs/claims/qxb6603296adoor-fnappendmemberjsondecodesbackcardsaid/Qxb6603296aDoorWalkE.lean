/-
  Seat b6603296aD: THE WALKS of lowerHexDigitB1, bytesAreStringB1 and decodeDecimalB1.
-/
import Derived.Test.Qxb6603296aDoorWalkC
import Derived.Test.Qxb6603296aDoorPlain2
namespace Go.Proofs.Qxb6603296aDoor
open Go.RowKit
open Go.Lib (byteCells)

theorem ret_pair {k : IntKind} {a c : Int} {b : Bool} (h : a = c) : Ending.returned (.tuple #[.int k a, .bool b]) = .returned (.tuple #[.int k c, .bool b]) := by rw [h]

set_option maxHeartbeats 400000 in
theorem hex_lo (x : Nat) (h0 : 48 ≤ x) (h1 : x ≤ 57) (w : World) :
    Calls Tryd.prog 28 #[.int .u8 x] w fun e w' => e = .returned (.tuple #[.int .i64 ((x - 48 : Nat) : Int), .bool true]) ∧ w' = w := by
  have i0 : (48 : Int) ≤ (x : Int) := by omega
  have i1 : (x : Int) ≤ 57 := by omega
  go_enter Tryd.func28, Tryd.ntmps28
  go_wp2
  go_ret2
  exact ⟨ret_pair (by omega), rfl⟩
set_option maxHeartbeats 400000 in
theorem hex_hi (x : Nat) (h0 : 97 ≤ x) (h1 : x ≤ 102) (w : World) :
    Calls Tryd.prog 28 #[.int .u8 x] w fun e w' => e = .returned (.tuple #[.int .i64 ((x - 87 : Nat) : Int), .bool true]) ∧ w' = w := by
  have i0 : (97 : Int) ≤ (x : Int) := by omega
  have i1 : (x : Int) ≤ 102 := by omega
  go_enter Tryd.func28, Tryd.ntmps28
  go_wp2
  go_ret2
  exact ⟨ret_pair (by omega), rfl⟩
theorem hexd_toNat (n : Nat) (h : n < 16) : (Plain.hexd n).toNat = if n < 10 then 48 + n else 87 + n := by
  have : ∀ x : Fin 16, (Plain.hexd x.val).toNat = if x.val < 10 then 48 + x.val else 87 + x.val := by decide
  exact this ⟨n, h⟩
theorem hex_any (n : Nat) (h : n < 16) (w : World) :
    Calls Tryd.prog 28 #[.int .u8 ((Plain.hexd n).toNat : Int)] w fun e w' => e = .returned (.tuple #[.int .i64 n, .bool true]) ∧ w' = w := by
  rw [hexd_toNat n h]
  by_cases h1 : n < 10
  · rw [if_pos h1]
    have := hex_lo (48 + n) (by omega) (by omega) w
    rwa [Nat.add_sub_cancel_left] at this
  · rw [if_neg h1]
    have := hex_hi (87 + n) (by omega) (by omega) w
    rwa [Nat.add_sub_cancel_left] at this

set_option maxHeartbeats 400000 in
theorem same_len (a : Option Addr) (n cap : Nat) (s : ByteArray) (w : World) (hne : n ≠ s.size) :
    Calls Tryd.prog 12 #[.slice a n cap, .string s] w fun e w' => e = .returned (.bool false) ∧ ∃ q, w' = w.drewN q := by
  have h1 : ((n : Int) != (s.size : Int)) = true := bnet (by omega)
  go_enter Tryd.func12, Tryd.ntmps12
  go_wp2
  go_ret
  exact ⟨rfl, 0, rfl⟩
set_option maxHeartbeats 400000 in
theorem same_zero (a : Option Addr) (cap : Nat) (s : ByteArray) (hs : s.size = 0) (w : World) :
    Calls Tryd.prog 12 #[.slice a 0 cap, .string s] w fun e w' => e = .returned (.bool true) ∧ ∃ q, w' = w.drewN q := by
  have h1 : ((0 : Int) != (s.size : Int)) = false := bnef (by omega)
  go_enter Tryd.func12, Tryd.ntmps12
  go_wp2
  go_loop [5] (fun i => i = .int .i64 0) (fun _ => 0)
  case atStart => rfl
  case round =>
    subst hrel
    go_wp2
    go_ret
    exact ⟨rfl, 0, rfl⟩
set_option maxHeartbeats 400000 in
theorem same_some (b off cap : Nat) (X : List UInt8) (s : ByteArray) (n : Nat) (hX0 : X.length = n) (hs0 : s.size = n) (w : World) (hl : n ≤ 67108864) (hX : ∀ j (h : j < X.length), w.cell? ⟨b, off + j, none⟩ = some (.int .u8 X[j].toNat)) :
    Calls Tryd.prog 12 #[.slice (some ⟨b, off, none⟩) n cap, .string s] w fun e w' => e = .returned (.bool (decide (X = s.data.toList))) ∧ ∃ q, w' = w.drewN q := by
  obtain ⟨r, hr⟩ : ∃ r, r = decide (X = s.data.toList) := ⟨_, rfl⟩
  rw [← hr]
  have HR := hid hr
  have HX := hid hX
  have HX0 := hid hX0
  have hni : (n : Int) ≤ 67108864 := by omega
  have hq : ((n : Int) != (s.size : Int)) = false := bnef (by omega)
  have HS0 := hid hs0
  clear hr hX hX0 hs0
  go_enter Tryd.func12, Tryd.ntmps12
  go_wp2
  go_loopw [5] (fun i wr => ∃ k : Nat, k ≤ n ∧ i = .int .i64 k ∧ Hid (∀ j, j < k → X[j]? = s.data.toList[j]?) ∧ Hid (∃ q, wr = w.drewN q)) (fun i _ => n - (intOf i).toNat)
  case atStart => exact ⟨0, Nat.zero_le _, rfl, hid (fun j h => absurd h (Nat.not_lt_zero _)), hid ⟨0, rfl⟩⟩
  case round =>
    obtain ⟨k, hk, rfl, HE, HQ⟩ := hrel
    obtain ⟨q, hq⟩ := HQ.out
    subst hq
    by_cases hlt : k < n
    · have kX : k < X.length := by rw [HX0.out]; exact hlt
      have kS : k < s.size := by rw [HS0.out]; exact hlt
      have c1 : w.cell? ⟨b, off + k, none⟩ = some (.int .u8 X[k].toNat) := HX.out k kX
      have x1 : (k : Int) < (n : Int) := by omega
      have x2 : (k : Int) < (s.size : Int) := by omega
      go_wp2
      go_quiet (fail)
      go_wp2
      · have hne : ((X[k].toNat : Int) != (s[k].toNat : Int)) = true := by assumption
        go_ret
        refine ⟨ret_bool ?_, ⟨_, drewN_drewN _ _ _⟩⟩
        rw [HR.out, eq_comm, decide_eq_false_iff_not]
        intro e
        have h5 := getl s k kS
        rw [← e, List.getElem?_eq_getElem kX] at h5
        rw [Option.some.inj h5] at hne
        simp at hne
      · have hne : ((X[k].toNat : Int) != (s[k].toNat : Int)) = false := by assumption
        go_roundw
        case rel =>
          refine ⟨k + 1, by omega, by go_num, hid (fun j hj => ?_), hid ⟨_, rfl⟩⟩
          by_cases e : j = k
          · subst e
            rw [List.getElem?_eq_getElem kX, getl s j kS, UInt8.toNat_inj.1 (show X[j].toNat = s[j].toNat by simp at hne; omega)]
          · exact HE.out j (by omega)
        case measure => simp [intOf]; omega
    · go_wp2
      go_ret
      refine ⟨ret_bool ?_, ⟨q, rfl⟩⟩
      rw [HR.out, eq_comm, decide_eq_true_iff]
      apply List.ext_getElem?
      intro j
      by_cases hj : j < k
      · exact HE.out j hj
      · have h6 : s.data.toList.length = s.size := rfl
        rw [List.getElem?_eq_none (by have := HX0.out; omega), List.getElem?_eq_none (by have := HS0.out; omega)]
/-- bytesAreStringB1 at the very bytes of s. -/
theorem same_yes (v : Value) (s : ByteArray) (w : World) (hl : s.size ≤ 67108864) (hX : Reads w v s.data.toList) :
    Calls Tryd.prog 12 #[v, .string s] w fun e w' => e = .returned (.bool true) ∧ ∃ q, w' = w.drewN q := by
  rcases hX with ⟨a, cap, rfl, h0⟩ | ⟨b, off, cap, rfl, h1⟩
  · exact same_zero a cap s (by show s.data.toList.length = 0; rw [h0]; rfl) w
  · have h := same_some b off cap s.data.toList s s.data.toList.length rfl rfl w (by show s.size ≤ _; exact hl) h1
    rwa [decide_eq_true rfl] at h
end Go.Proofs.Qxb6603296aDoor
