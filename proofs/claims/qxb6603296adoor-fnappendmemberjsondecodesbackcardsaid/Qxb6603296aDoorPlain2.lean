/-
  Seat b6603296aD: THE PLAIN LAW, second part: decimal numerals, and where the bytes of a JSON string stand. No Go in sight.
-/
import Derived.Test.Qxb6603296aDoorPlain
namespace Go.Proofs.Qxb6603296aDoor.Plain
open Go

/-- One byte is an ASCII digit. -/
def dig (c : UInt8) : Bool := decide (48 ≤ c.toNat) && decide (c.toNat ≤ 57)
/-- The value of a list of digits read on from 'acc'. -/
def valFrom (acc : Nat) (l : List UInt8) : Nat := l.foldl (fun a c => a * 10 + (c.toNat - 48)) acc
def val (l : List UInt8) : Nat := valFrom 0 l

theorem dig_iff (c : UInt8) : dig c = true ↔ 48 ≤ c.toNat ∧ c.toNat ≤ 57 := by simp [dig]

theorem valFrom_cons (acc : Nat) (c : UInt8) (r : List UInt8) : valFrom acc (c :: r) = valFrom (acc * 10 + (c.toNat - 48)) r := by simp only [valFrom, List.foldl_cons]
theorem valFrom_nil (acc : Nat) : valFrom acc [] = acc := by simp only [valFrom, List.foldl_nil]
theorem val_eq (l : List UInt8) : val l = valFrom 0 l := by rw [val]
theorem valFrom_eq (l : List UInt8) : ∀ acc, valFrom acc l = acc * 10 ^ l.length + val l := by
  induction l with
  | nil => intro acc; rw [valFrom_nil, val_eq, valFrom_nil, List.length_nil, Nat.pow_zero, Nat.mul_one, Nat.add_zero]
  | cons c r ih =>
    intro acc
    rw [val_eq, valFrom_cons, valFrom_cons, ih, ih, List.length_cons, Nat.pow_succ, Nat.add_mul, Nat.zero_mul, Nat.zero_add, Nat.mul_assoc, Nat.mul_comm 10, Nat.add_assoc]

theorem val_cons (c : UInt8) (r : List UInt8) : val (c :: r) = (c.toNat - 48) * 10 ^ r.length + val r := by
  rw [val_eq, valFrom_cons, valFrom_eq, Nat.zero_mul, Nat.zero_add]
theorem valFrom_append (a b : List UInt8) : ∀ acc, valFrom acc (a ++ b) = valFrom (valFrom acc a) b := by
  induction a with
  | nil => intro acc; rw [List.nil_append, valFrom_nil]
  | cons c r ih => intro acc; rw [List.cons_append, valFrom_cons, valFrom_cons, ih]
theorem val_snoc (l : List UInt8) (c : UInt8) : val (l ++ [c]) = val l * 10 + (c.toNat - 48) := by
  rw [val_eq, valFrom_append, valFrom_cons, valFrom_nil, ← val_eq]
theorem val_zeros (z : Nat) (l : List UInt8) : val (List.replicate z 48 ++ l) = val l := by
  induction z with
  | zero => rw [List.replicate_zero, List.nil_append]
  | succ z ih =>
    rw [List.replicate_succ, List.cons_append, val_cons, ih]
    have : (48 : UInt8).toNat - 48 = 0 := by decide
    rw [this, Nat.zero_mul, Nat.zero_add]
theorem val_lt (l : List UInt8) (h : ∀ c ∈ l, dig c = true) : val l < 10 ^ l.length := by
  induction l with
  | nil => rw [val_eq, valFrom_nil]; exact Nat.pow_pos (by decide)
  | cons c r ih =>
    rw [val_cons, List.length_cons, Nat.pow_succ]
    have h1 := ih (fun x hx => h x (List.mem_cons_of_mem _ hx))
    have h2 := (dig_iff c).1 (h c (List.mem_cons_self ..))
    have h3 : (c.toNat - 48) * 10 ^ r.length ≤ 9 * 10 ^ r.length := Nat.mul_le_mul_right _ (by omega)
    omega

theorem pos10 (n : Nat) : 0 < 10 ^ n := Nat.pow_pos (by decide)
theorem le_valFrom (acc : Nat) (l : List UInt8) : acc ≤ valFrom acc l := by
  rw [valFrom_eq]
  have := pos10 l.length
  have : acc * 1 ≤ acc * 10 ^ l.length := Nat.mul_le_mul_left _ this
  omega
theorem head_le (c : UInt8) (r : List UInt8) (hc : dig c = true) (h : c.toNat ≠ 48) : 10 ^ r.length ≤ val (c :: r) := by
  have := (dig_iff c).1 hc
  rw [val_cons]
  have h2 : 1 * 10 ^ r.length ≤ (c.toNat - 48) * 10 ^ r.length := Nat.mul_le_mul_right _ (by omega)
  omega
theorem val_take_le (r : List UInt8) (k : Nat) : val (r.take k) ≤ val r := by
  have h := valFrom_append (r.take k) (r.drop k) 0
  rw [List.take_append_drop, ← val_eq, ← val_eq] at h
  rw [h]
  exact le_valFrom _ _


/-! ### The numeral that Itoa writes -/
theorem toNat_ofNat (m : Nat) (h : m < 10) : (UInt8.ofNat (48 + m)).toNat = 48 + m := by
  simp [UInt8.toNat_ofNat]; omega
theorem dec_dig : ∀ (u : Nat), ∀ c ∈ Lib.decDigits u, dig c = true := by
  intro u
  induction u using Nat.strongRecOn with
  | _ u ih =>
    intro c hc
    by_cases h : u < 10
    · rw [Lib.decDigits_one h, List.mem_singleton] at hc
      rw [hc, dig_iff, toNat_ofNat u h]; omega
    · rw [Lib.decDigits, dif_neg h] at hc
      rcases List.mem_append.1 hc with hc | hc
      · exact ih (u / 10) (by omega) c hc
      · rw [List.mem_singleton] at hc
        rw [hc, dig_iff, toNat_ofNat _ (Nat.mod_lt _ (by decide))]; omega
theorem dec_val : ∀ (u : Nat), val (Lib.decDigits u) = u := by
  intro u
  induction u using Nat.strongRecOn with
  | _ u ih =>
    by_cases h : u < 10
    · rw [Lib.decDigits_one h, val_cons, toNat_ofNat u h, val_eq, valFrom_nil]; simp
    · rw [Lib.decDigits, dif_neg h, val_snoc, ih (u / 10) (by omega), toNat_ofNat _ (Nat.mod_lt _ (by decide))]; omega
theorem dec_ne (u : Nat) : 1 ≤ (Lib.decDigits u).length := by
  rw [Lib.decDigits_length]; exact Lib.nDigits_pos u
/-- No zero leads, but for 0 itself. -/
theorem dec_head : ∀ (u : Nat), 1 ≤ u → ∃ c t, Lib.decDigits u = c :: t ∧ c.toNat ≠ 48 := by
  intro u
  induction u using Nat.strongRecOn with
  | _ u ih =>
    intro hu
    by_cases h : u < 10
    · exact ⟨_, [], Lib.decDigits_one h, by rw [toNat_ofNat u h]; omega⟩
    · obtain ⟨c, t, e, hc⟩ := ih (u / 10) (by omega) (by omega)
      refine ⟨c, t ++ [UInt8.ofNat (48 + u % 10)], ?_, hc⟩
      rw [Lib.decDigits, dif_neg h, e]; rfl
theorem dec_zero : Lib.decDigits 0 = [48] := by rw [Lib.decDigits_one (by decide)]; rfl
theorem dec_len (u : Nat) (h : u ≤ 9223372036854775808) : (Lib.decDigits u).length ≤ 19 := by
  by_cases h0 : u = 0
  · rw [h0, dec_zero]; decide
  · obtain ⟨c, t, e, hc⟩ := dec_head u (by omega)
    apply Classical.byContradiction
    intro hn
    have h1 := head_le c t (dec_dig u c (by rw [e]; simp)) hc
    rw [← e, dec_val] at h1
    have h2 : (10 : Nat) ^ 19 ≤ 10 ^ t.length := Nat.pow_le_pow_right (by decide) (by rw [e] at hn; simp at hn; omega)
    have h3 : (10 : Nat) ^ 19 = 10000000000000000000 := by decide
    omega
end Go.Proofs.Qxb6603296aDoor.Plain
