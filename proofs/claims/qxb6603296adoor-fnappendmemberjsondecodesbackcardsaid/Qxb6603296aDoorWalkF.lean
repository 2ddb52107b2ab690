/-
  Seat b6603296aD: THE WALK of decodeDecimalB1.
-/
import Derived.Test.Qxb6603296aDoorWalkE
namespace Go.Proofs.Qxb6603296aDoor
open Go.RowKit
open Go.Lib (byteCells)

theorem val_step (D : List UInt8) (k : Nat) (h : k < D.length) : Plain.val (D.take (k + 1)) = Plain.val (D.take k) * 10 + (D[k].toNat - 48) := by
  rw [List.take_succ_eq_append_getElem h, Plain.val_snoc]

set_option maxHeartbeats 1000000 in
set_option maxRecDepth 100000 in
theorem deci_zero (g off cap a : Nat) (w : World) (ha : a ≤ 67108864) (hc : w.cell? ⟨g, off + a, none⟩ = some (.int .u8 48)) :
    Calls Tryd.prog 13 #[.slice (some ⟨g, off, none⟩) (a + 1) cap, .int .i64 a] w fun e w' => e = .returned (.tuple #[.int .u64 0, .int .i64 (a + 1 : Nat), .bool true]) ∧ w' = w := by
  have h1 : (a : Int) < ((a + 1 : Nat) : Int) := by omega
  go_enter Tryd.func13, Tryd.ntmps13
  go_wp2
  go_ret3
  exact ⟨rfl, rfl⟩

set_option maxHeartbeats 1000000 in
set_option maxRecDepth 100000 in
theorem deci_some (g off cap a n : Nat) (D : List UInt8) (w : World) (hn : n = a + D.length) (hl : n ≤ 67108864) (h0 : 1 ≤ D.length) (hd : ∀ c ∈ D, Plain.dig c = true) (hv : Plain.val D < 18446744073709551616) (hz : ∀ c t, D = c :: t → c.toNat ≠ 48) (hc : ∀ j (h : j < D.length), w.cell? ⟨g, off + (a + j), none⟩ = some (.int .u8 D[j].toNat)) :
    Calls Tryd.prog 13 #[.slice (some ⟨g, off, none⟩) n cap, .int .i64 a] w fun e w' => e = .returned (.tuple #[.int .u64 (Plain.val D), .int .i64 n, .bool true]) ∧ w' = w := by
  have c0 : w.cell? ⟨g, off + a, none⟩ = some (.int .u8 D[0].toNat) := hc 0 (by omega)
  have d0 := (Plain.dig_iff _).1 (hd D[0] (List.getElem_mem _))
  have z0 : D[0].toNat ≠ 48 := by
    cases D with
    | nil => exact absurd h0 (by decide)
    | cons c t => exact hz c t rfl
  obtain ⟨x0, hx0⟩ : ∃ x, x = D[0].toNat := ⟨_, rfl⟩
  rw [← hx0] at c0 d0 z0
  have e1 : (48 : Int) ≤ (x0 : Int) := by omega
  have e2 : (x0 : Int) ≤ 57 := by omega
  have e3 : ((x0 : Int) == 48) = false := beqf (by omega)
  have e4 : (a : Int) < (n : Int) := by omega
  have hni : (n : Int) ≤ 67108864 := by omega
  have HN := hid hn
  have HD := hid hd
  have HV := hid hv
  have HC := hid hc
  clear hn hd hv hc hz hx0 d0 z0
  go_enter Tryd.func13, Tryd.ntmps13
  go_wp2
  go_loopw [1, 7, 8] (fun i v _ wr => ∃ (k p V : Nat), k ≤ D.length ∧ Hid (p = a + k) ∧ p ≤ n ∧ i = .int .i64 p ∧ v = .int .u64 V ∧ Hid (V = Plain.val (D.take k)) ∧ wr = w) (fun i _ _ _ => n - (intOf i).toNat)
  case atStart => exact ⟨0, a, 0, Nat.zero_le _, hid rfl, by omega, rfl, rfl, hid (by simp [Plain.val, Plain.valFrom]), rfl⟩
  case round =>
    obtain ⟨k, p, V, hk, HP, hpn, rfl, rfl, HVk, rfl⟩ := hrel
    by_cases hlt : k < D.length
    · have hp1 : p < n := by have := HN.out; have := HP.out; omega
      have c1 : wr.cell? ⟨g, off + p, none⟩ = some (.int .u8 D[k].toNat) := by rw [HP.out]; exact HC.out k hlt
      have dk := (Plain.dig_iff _).1 (HD.out D[k] (List.getElem_mem _))
      have hs := val_step D k hlt
      have hb := Plain.val_take_le D (k + 1)
      have hv := HV.out
      rw [← HVk.out] at hs
      obtain ⟨x, hx⟩ : ∃ x, x = D[k].toNat := ⟨_, rfl⟩
      rw [← hx] at c1 dk hs
      have b1 : (48 : Int) ≤ (x : Int) := by omega
      have b2 : (x : Int) ≤ 57 := by omega
      have b3 : (V : Int) * 10 + ((x : Int) - 48) ≤ 18446744073709551615 := by omega
      have b4 : (p : Int) < (n : Int) := by omega
      have b5 : (V : Int) ≤ 1844674407370955161 := by omega
      have b6 : (V : Int) ≤ (18446744073709551615 - ((x : Int) - 48)) / 10 := by omega
      have HS := hid hs
      have HX := hid hx
      have hdk : 48 ≤ x := dk.1
      clear dk hs hb hv hx e1 e2 e3 e4 c0
      go_wp2
      go_roundw
      case rel =>
        refine ⟨k + 1, p + 1, Plain.val (D.take (k + 1)), by omega, hid (by rw [HP.out]; omega), by omega, by go_num, ?_, hid rfl, trivial⟩
        have := HS.out
        congr 1
        omega
      case measure => simp [intOf]; omega
    · have hkd : k = D.length := by omega
      have hpn' : p = n := by have := HN.out; have := HP.out; omega
      have hV : V = Plain.val D := by rw [HVk.out, hkd, List.take_of_length_le (Nat.le_refl _)]
      have b4 : ¬ (p : Int) < (n : Int) := by omega
      have b5 : n ≤ p := by omega
      have HPN := hid hpn'
      have HVV := hid hV
      clear hpn' hV c0 hkd
      go_wp2
      go_ret3
      exact ⟨by rw [HVV.out, HPN.out]; rfl, rfl⟩

/-- decodeDecimalB1 at the numeral of u that ends the slice. -/
theorem deci_any (g off cap a n u : Nat) (w : World) (hu : u < 18446744073709551616) (hn : n = a + (Lib.decDigits u).length) (hl : n ≤ 67108864) (hc : ∀ j (h : j < (Lib.decDigits u).length), w.cell? ⟨g, off + (a + j), none⟩ = some (.int .u8 (Lib.decDigits u)[j].toNat)) :
    Calls Tryd.prog 13 #[.slice (some ⟨g, off, none⟩) n cap, .int .i64 a] w fun e w' => e = .returned (.tuple #[.int .u64 u, .int .i64 n, .bool true]) ∧ w' = w := by
  by_cases h0 : u = 0
  · subst h0
    have hl1 : (Lib.decDigits 0).length = 1 := by rw [Plain.dec_zero]; rfl
    rw [hl1] at hn
    subst hn
    refine deci_zero g off cap a w (by omega) ?_
    have := hc 0 (by omega)
    have e : (Lib.decDigits 0)[0]'(by omega) = 48 := by simp [Plain.dec_zero]
    rw [e] at this
    exact this
  · obtain ⟨c, t, e, hne⟩ := Plain.dec_head u (by omega)
    have := deci_some g off cap a n (Lib.decDigits u) w hn hl (Plain.dec_ne u) (Plain.dec_dig u) (by rw [Plain.dec_val]; exact hu) (fun c' t' e' => by rw [e] at e'; injection e' with e1 e2; rw [← e1]; exact hne) hc
    rwa [Plain.dec_val] at this
end Go.Proofs.Qxb6603296aDoor
