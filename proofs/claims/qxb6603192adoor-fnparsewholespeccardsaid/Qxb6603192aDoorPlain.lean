/-
  Seat b6603192aD: THE PLAIN LAW: no Go in sight. Decimal numerals as lists of bytes; what ParseInt answers on a list of digits; the case table 'modelWhole'.
-/
import Derived.Lib.ParseIntB
namespace Go.Proofs.Qxb6603192aDoor.Plain
open Go

/-- One byte is an ASCII digit. -/
def dig (c : UInt8) : Bool := decide (48 ≤ c.toNat) && decide (c.toNat ≤ 57)
/-- The value of a list of digits read on from 'acc'. -/
def valFrom (acc : Nat) (l : List UInt8) : Nat := l.foldl (fun a c => a * 10 + (c.toNat - 48)) acc
def val (l : List UInt8) : Nat := valFrom 0 l

theorem dig_iff (c : UInt8) : dig c = true ↔ 48 ≤ c.toNat ∧ c.toNat ≤ 57 := by simp [dig]

theorem valFrom_cons (acc : Nat) (c : UInt8) (r : List UInt8) : valFrom acc (c :: r) = valFrom (acc * 10 + (c.toNat - 48)) r := by simp only [valFrom, List.foldl_cons]
theorem valFrom_nil (acc : Nat) : valFrom acc [] = acc := by simp only [valFrom, List.foldl_nil]
theorem val_eq (l : List UInt8) : val l = valFrom 0 l := by rw [val]
theorem valFrom_eq (l : List UInt8) : ∀ acc, valFrom acc l = acc * 10 ^ l.length + val l := by
  induction l with
  | nil => intro acc; rw [valFrom_nil, val_eq, valFrom_nil, List.length_nil, Nat.pow_zero, Nat.mul_one, Nat.add_zero]
  | cons c r ih =>
    intro acc
    rw [val_eq, valFrom_cons, valFrom_cons, ih, ih, List.length_cons, Nat.pow_succ, Nat.add_mul, Nat.zero_mul, Nat.zero_add, Nat.mul_assoc, Nat.mul_comm 10, Nat.add_assoc]

theorem val_cons (c : UInt8) (r : List UInt8) : val (c :: r) = (c.toNat - 48) * 10 ^ r.length + val r := by
  rw [val_eq, valFrom_cons, valFrom_eq, Nat.zero_mul, Nat.zero_add]
theorem valFrom_append (a b : List UInt8) : ∀ acc, valFrom acc (a ++ b) = valFrom (valFrom acc a) b := by
  induction a with
  | nil => intro acc; rw [List.nil_append, valFrom_nil]
  | cons c r ih => intro acc; rw [List.cons_append, valFrom_cons, valFrom_cons, ih]
theorem val_snoc (l : List UInt8) (c : UInt8) : val (l ++ [c]) = val l * 10 + (c.toNat - 48) := by
  rw [val_eq, valFrom_append, valFrom_cons, valFrom_nil, ← val_eq]
theorem val_zeros (z : Nat) (l : List UInt8) : val (List.replicate z 48 ++ l) = val l := by
  induction z with
  | zero => rw [List.replicate_zero, List.nil_append]
  | succ z ih =>
    rw [List.replicate_succ, List.cons_append, val_cons, ih]
    have : (48 : UInt8).toNat - 48 = 0 := by decide
    rw [this, Nat.zero_mul, Nat.zero_add]
theorem val_lt (l : List UInt8) (h : ∀ c ∈ l, dig c = true) : val l < 10 ^ l.length := by
  induction l with
  | nil => rw [val_eq, valFrom_nil]; exact Nat.pow_pos (by decide)
  | cons c r ih =>
    rw [val_cons, List.length_cons, Nat.pow_succ]
    have h1 := ih (fun x hx => h x (List.mem_cons_of_mem _ hx))
    have h2 := (dig_iff c).1 (h c (List.mem_cons_self ..))
    have h3 : (c.toNat - 48) * 10 ^ r.length ≤ 9 * 10 ^ r.length := Nat.mul_le_mul_right _ (by omega)
    omega

/-! ### What ParseInt answers on digits -/
theorem pos10 (n : Nat) : 0 < 10 ^ n := Nat.pow_pos (by decide)
theorem le_valFrom (acc : Nat) (l : List UInt8) : acc ≤ valFrom acc l := by
  rw [valFrom_eq]
  have := pos10 l.length
  have : acc * 1 ≤ acc * 10 ^ l.length := Nat.mul_le_mul_left _ this
  omega
theorem parseUintM_digits (l : List UInt8) : ∀ acc, (∀ c ∈ l, dig c = true) → acc ≤ 18446744073709551615 →
    Lib.parseUintM 18446744073709551615 acc l = if valFrom acc l ≤ 18446744073709551615 then .ok (valFrom acc l) else .range := by
  induction l with
  | nil => intro acc _ h; simp [Lib.parseUintM, valFrom, h]
  | cons c r ih =>
    intro acc hd h
    have hc := (dig_iff c).1 (hd c (List.mem_cons_self ..))
    have hle := le_valFrom (acc * 10 + (c.toNat - 48)) r
    rw [Lib.parseUintM, if_pos hc, valFrom_cons]
    by_cases h1 : 1844674407370955162 ≤ acc
    · rw [if_pos h1, if_neg (by omega)]
    · rw [if_neg h1]
      by_cases h2 : 18446744073709551615 < acc * 10 + (c.toNat - 48)
      · rw [if_pos h2, if_neg (by omega)]
      · rw [if_neg h2, ih _ (fun x hx => hd x (List.mem_cons_of_mem _ hx)) (by omega)]

theorem parse_ok (l : List UInt8) (h0 : l ≠ []) (hd : ∀ c ∈ l, dig c = true) (h : val l ≤ 9223372036854775807) : Lib.parseIntB 64 l = .ok (val l : Int) := by
  match l, h0 with
  | c :: r, _ =>
    have hc := (dig_iff c).1 (hd c (List.mem_cons_self ..))
    have e := parseUintM_digits (c :: r) 0 hd (by decide)
    rw [← val_eq, if_pos (by omega)] at e
    have e2 : Lib.parseUintB 64 (c :: r) = .ok (val (c :: r)) := by rw [Lib.parseUintB, if_neg (by simp)]; exact e
    have n43 : ¬ c.toNat = 43 := by omega
    have n45 : ¬ c.toNat = 45 := by omega
    have n3 : ¬ (2 ^ (64 - 1) ≤ val (c :: r)) := by simp; omega
    simp only [Lib.parseIntB, n43, n45, or_self, if_false, e2, not_false_eq_true, true_and, false_and, if_neg n3]
theorem parse_range (l : List UInt8) (hd : ∀ c ∈ l, dig c = true) (h : 9223372036854775807 < val l) : Lib.parseIntB 64 l = .range := by
  match l, h with
  | [], h => rw [val_eq, valFrom_nil] at h; omega
  | c :: r, h =>
    have hc := (dig_iff c).1 (hd c (List.mem_cons_self ..))
    have e := parseUintM_digits (c :: r) 0 hd (by decide)
    rw [← val_eq] at e
    have n43 : ¬ c.toNat = 43 := by omega
    have n45 : ¬ c.toNat = 45 := by omega
    have e1 : Lib.parseUintB 64 (c :: r) = Lib.parseUintM 18446744073709551615 0 (c :: r) := by rw [Lib.parseUintB, if_neg (by simp)]
    by_cases hle : val (c :: r) ≤ 18446744073709551615
    · rw [if_pos hle] at e
      have n3 : 2 ^ (64 - 1) ≤ val (c :: r) := by simp; omega
      simp only [Lib.parseIntB, n43, n45, or_self, if_false, e1, e, not_false_eq_true, true_and, if_pos n3]
    · rw [if_neg hle] at e
      simp only [Lib.parseIntB, n43, n45, or_self, if_false, e1, e]
theorem sat_digits (l : List UInt8) (hd : ∀ c ∈ l, dig c = true) : Lib.intSat 64 l = 9223372036854775807 := by
  match l with
  | [] => rfl
  | c :: r =>
    have hc := (dig_iff c).1 (hd c (List.mem_cons_self ..))
    rw [Lib.intSat, if_neg]
    · rfl
    · simp; omega

/-! ### What parseWhole answers: a number and a bool -/
def pwN (l : List UInt8) : Int := if l.all dig && !l.isEmpty then (if val l ≤ 9223372036854775807 then (val l : Int) else 9223372036854775807) else 0
def pwB (l : List UInt8) : Bool := l.all dig && decide (1 ≤ val l) && decide (val l ≤ 9223372036854775807)

end Go.Proofs.Qxb6603192aDoor.Plain
