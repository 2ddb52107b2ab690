/-
  Seat b6603192aD: THE PLAIN LAW of FnParseWholeSpec: what the case table answers is what parseWhole answers. No Go in sight.
-/
import Derived.Test.Qxb6603192aDoorPlain
namespace Go.Proofs.Qxb6603192aDoor.Plain
open Go

/-- Bytewise greater, from the left. -/
def gtL : List UInt8 → List UInt8 → Bool
  | x :: xs, y :: ys => if x = y then gtL xs ys else decide (y.toNat < x.toNat)
  | _, _ => false

theorem gtL_val : ∀ (a b : List UInt8), a.length = b.length → (∀ c ∈ a, dig c = true) → (∀ c ∈ b, dig c = true) → gtL a b = decide (val b < val a)
  | [], [], _, _, _ => by simp [gtL]
  | x :: xs, y :: ys, h, ha, hb => by
    have hl : xs.length = ys.length := by simpa using h
    have ih := gtL_val xs ys hl (fun c hc => ha c (List.mem_cons_of_mem _ hc)) (fun c hc => hb c (List.mem_cons_of_mem _ hc))
    have dx := (dig_iff x).1 (ha x (List.mem_cons_self ..))
    have dy := (dig_iff y).1 (hb y (List.mem_cons_self ..))
    have lx := val_lt xs (fun c hc => ha c (List.mem_cons_of_mem _ hc))
    have ly := val_lt ys (fun c hc => hb c (List.mem_cons_of_mem _ hc))
    rw [val_cons, val_cons, gtL, hl]
    rw [hl] at lx
    generalize 10 ^ ys.length = t at *
    by_cases e : x = y
    · subst e
      rw [if_pos rfl, ih]
      exact decide_eq_decide.2 (by omega)
    · rw [if_neg e]
      have e' : x.toNat ≠ y.toNat := fun h => e (UInt8.toNat_inj.1 h)
      by_cases g : y.toNat < x.toNat
      · have : (y.toNat - 48 + 1) * t ≤ (x.toNat - 48) * t := Nat.mul_le_mul_right _ (by omega)
        rw [Nat.add_mul, Nat.one_mul] at this
        rw [decide_eq_true g, eq_comm, decide_eq_true_iff]
        omega
      · have : (x.toNat - 48 + 1) * t ≤ (y.toNat - 48) * t := Nat.mul_le_mul_right _ (by omega)
        rw [Nat.add_mul, Nat.one_mul] at this
        rw [decide_eq_false g, eq_comm, decide_eq_false_iff_not]
        omega
  | [], _ :: _, h, _, _ => by simp at h
  | _ :: _, [], h, _, _ => by simp at h

/-- "9223372036854775807" -/
def top : List UInt8 := [57, 50, 50, 51, 51, 55, 50, 48, 51, 54, 56, 53, 52, 55, 55, 53, 56, 48, 55]
theorem top_val : val top = 9223372036854775807 := by decide
theorem top_dig : ∀ c ∈ top, dig c = true := by decide
theorem top_len : top.length = 19 := by decide

theorem head_le (c : UInt8) (r : List UInt8) (hc : dig c = true) (h : c.toNat ≠ 48) : 10 ^ r.length ≤ val (c :: r) := by
  have := (dig_iff c).1 hc
  rw [val_cons]
  have h2 : 1 * 10 ^ r.length ≤ (c.toNat - 48) * 10 ^ r.length := Nat.mul_le_mul_right _ (by omega)
  omega
theorem p18 : (10 : Nat) ^ 18 = 1000000000000000000 := by decide
theorem p19 : (10 : Nat) ^ 19 = 10000000000000000000 := by decide

/-- The five ways of the case table, for a text of digits: zeros, then r. -/
theorem ways_zero (l : List UInt8) (k : Nat) (h : l = List.replicate k 48) : pwN l = 0 ∧ pwB l = false := by
  have hv : val l = 0 := by
    have := val_zeros k []
    rw [List.append_nil] at this
    rw [h, this, val_eq, valFrom_nil]
  refine ⟨?_, ?_⟩
  · rw [pwN, hv]; split <;> simp
  · rw [pwB, hv]; simp
theorem pw_of (l : List UInt8) (hd : ∀ c ∈ l, dig c = true) (h0 : l ≠ []) : pwN l = (if val l ≤ 9223372036854775807 then (val l : Int) else 9223372036854775807) ∧ pwB l = (decide (1 ≤ val l) && decide (val l ≤ 9223372036854775807)) := by
  have h1 : l.all dig = true := List.all_eq_true.2 hd
  have h2 : l.isEmpty = false := by simpa using h0
  refine ⟨?_, ?_⟩
  · rw [pwN, h1, h2]; simp
  · rw [pwB, h1]; simp
theorem ways_over (l r : List UInt8) (k : Nat) (hd : ∀ c ∈ l, dig c = true) (h : l = List.replicate k 48 ++ r) (hr : 9223372036854775807 < val r) : pwN l = 9223372036854775807 ∧ pwB l = false := by
  have hv : val l = val r := by rw [h, val_zeros]
  have h0 : l ≠ [] := by
    intro e
    rw [e, val_eq, valFrom_nil] at hv
    omega
  obtain ⟨a, b⟩ := pw_of l hd h0
  rw [a, b, hv, if_neg (by omega)]
  refine ⟨rfl, ?_⟩
  rw [decide_eq_false (show ¬ val r ≤ 9223372036854775807 by omega), Bool.and_false]
theorem ways_in (l r : List UInt8) (k : Nat) (hd : ∀ c ∈ l, dig c = true) (h : l = List.replicate k 48 ++ r) (h1 : 1 ≤ val r) (hr : val r ≤ 9223372036854775807) : pwN l = val r ∧ pwB l = true := by
  have hv : val l = val r := by rw [h, val_zeros]
  have h0 : l ≠ [] := by
    intro e
    rw [e, val_eq, valFrom_nil] at hv
    omega
  obtain ⟨a, b⟩ := pw_of l hd h0
  rw [a, b, hv, if_pos hr]
  refine ⟨rfl, ?_⟩
  rw [decide_eq_true h1, decide_eq_true hr]; rfl

/-- r begins with no '0'. -/
def nz (r : List UInt8) : Prop := ∃ c t, r = c :: t ∧ c.toNat ≠ 48
theorem nz_pos (r : List UInt8) (hd : ∀ c ∈ r, dig c = true) (h : nz r) : 1 ≤ val r := by
  obtain ⟨c, t, rfl, hc⟩ := h
  have := head_le c t (hd c (List.mem_cons_self ..)) hc
  have := pos10 t.length
  omega
theorem nz_over (r : List UInt8) (hd : ∀ c ∈ r, dig c = true) (h : nz r) (hl : 19 < r.length) : 9223372036854775807 < val r := by
  obtain ⟨c, t, rfl, hc⟩ := h
  have h1 := head_le c t (hd c (List.mem_cons_self ..)) hc
  have h2 : (10 : Nat) ^ 19 ≤ 10 ^ t.length := Nat.pow_le_pow_right (by decide) (by simp at hl; omega)
  rw [p19] at h2
  omega
theorem short_in (r : List UInt8) (hd : ∀ c ∈ r, dig c = true) (hl : r.length < 19) : val r ≤ 9223372036854775807 := by
  have h1 := val_lt r hd
  have h2 : (10 : Nat) ^ r.length ≤ 10 ^ 18 := Nat.pow_le_pow_right (by decide) (by omega)
  rw [p18] at h2
  omega
theorem nineteen (r : List UInt8) (hd : ∀ c ∈ r, dig c = true) (hl : r.length = 19) : gtL r top = decide (9223372036854775807 < val r) := by
  rw [gtL_val r top (by rw [hl, top_len]) hd top_dig, top_val]

theorem val_take_le (r : List UInt8) (k : Nat) : val (r.take k) ≤ val r := by
  have h := valFrom_append (r.take k) (r.drop k) 0
  rw [List.take_append_drop, ← val_eq, ← val_eq] at h
  rw [h]
  exact le_valFrom _ _

/-- How many bytes are no digits. -/
def cnt (l : List UInt8) : Nat := (l.filter fun c => !dig c).length
theorem cnt_snoc (l : List UInt8) (c : UInt8) : cnt (l ++ [c]) = cnt l + (if dig c then 0 else 1) := by
  unfold cnt
  rw [List.filter_append]
  cases h : dig c <;> simp [h]
theorem cnt_le (l : List UInt8) : cnt l ≤ l.length := List.length_filter_le _ _
theorem cnt_zero (l : List UInt8) : cnt l = 0 ↔ l.all dig = true := by
  unfold cnt
  rw [List.length_eq_zero_iff, List.filter_eq_nil_iff, List.all_eq_true]
  constructor
  · intro h x hx; have := h x hx; simpa using this
  · intro h x hx; have := h x hx; simp [this]
theorem pw_bad (l : List UInt8) (h : l.all dig = false) : pwN l = 0 ∧ pwB l = false := by
  refine ⟨?_, ?_⟩
  · rw [pwN, h]; simp
  · rw [pwB, h]; simp
theorem pw_empty : pwN [] = 0 ∧ pwB [] = false := by
  refine ⟨?_, ?_⟩
  · rw [pwN]; simp
  · rw [pwB, val_eq, valFrom_nil]; simp

end Go.Proofs.Qxb6603192aDoor.Plain
