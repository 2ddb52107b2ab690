/-
  Seat b6603192aD: THE WALKS, first part: isDigits, decimal.
-/
import Derived.Test.Qxb6603192aDoorProg
import Derived.Test.Qxb6603192aDoorPlain
import Derived.Laws.IdiomStrings
import Derived.WideShapes
import Derived.WalkKit
import Derived.WalkSpells
import Derived.WalkLawsBesides
import Derived.Deep.DeepFit
import Derived.Outline
namespace Go.Proofs.Qxb6603192aDoor
open Go.RowKit

theorem hid {p : Prop} (h : p) : Hid p := h
theorem ret_bool {a b : Bool} (h : a = b) : Ending.returned (.bool a) = .returned (.bool b) := by rw [h]

/-- 'isDigits' as a plain function. -/
def isDig (l : List UInt8) : Bool := l.all Plain.dig

theorem isDig_take (s : ByteArray) (k : Nat) (hk : k < s.size) : isDig (s.data.toList.take (k + 1)) = (isDig (s.data.toList.take k) && (decide (48 ≤ s[k].toNat) && decide (s[k].toNat ≤ 57))) := by
  have : s.data.toList.take (k + 1) = s.data.toList.take k ++ [s[k]] := by
    rw [List.take_succ_eq_append_getElem (by simpa using hk)]; rfl
  rw [this]; simp [isDig, Plain.dig]
theorem isDig_bad (s : ByteArray) (k : Nat) (hk : k < s.size) (h : s[k].toNat < 48 ∨ 57 < s[k].toNat) : isDig s.data.toList = false := by
  have hm : s[k] ∈ s.data.toList := by
    have : s[k] = s.data.toList[k]'(by simpa using hk) := rfl
    rw [this]; exact List.getElem_mem _
  rw [isDig, List.all_eq_false]
  exact ⟨_, hm, by simp [Plain.dig]; omega⟩

set_option maxHeartbeats 400000 in
theorem isDigits_any (s : ByteArray) (w : World) (hs : s.size ≤ maxLen) :
    Calls Tryd.prog 14 #[.string s] w fun e w' => e = .returned (.bool (isDig s.data.toList)) ∧ w' = w := by
  unfold maxLen at hs
  go_enter Tryd.func14, Tryd.ntmps14
  go_wp2
  go_loop [3] (fun i => ∃ k : Nat, k ≤ s.size ∧ i = .int .i64 k ∧ Hid (isDig (s.data.toList.take k) = true)) (fun i => s.size - (intOf i).toNat)
  case atStart => exact ⟨0, Nat.zero_le _, rfl, hid rfl⟩
  case round =>
    obtain ⟨k, hk, rfl, hd⟩ := hrel
    by_cases hlt : k < s.size
    · by_cases h1 : (s[k].toNat : Int) < 48
      · go_wp2
        go_ret
        exact ⟨ret_bool (isDig_bad s k hlt (by omega)).symm, rfl⟩
      · by_cases h2 : (57 : Int) < (s[k].toNat : Int)
        · go_wp2
          go_ret
          exact ⟨ret_bool (isDig_bad s k hlt (by omega)).symm, rfl⟩
        · go_wp2
          go_round
          case rel => exact ⟨k + 1, by omega, by go_num, hid (by rw [isDig_take s k hlt, hd.out]; simp; omega)⟩
          case measure => simp [intOf]; omega
    · go_wp2
      go_ret
      have e : s.data.toList.take k = s.data.toList := List.take_of_length_le (by simp; omega)
      have := hd.out
      rw [e] at this
      exact ⟨ret_bool this.symm, rfl⟩

/-! ### decimal -/
theorem dig_ofNat (m : Nat) : Plain.dig (UInt8.ofNat (48 + m % 10)) = true := by
  rw [Plain.dig_iff]; simp [UInt8.toNat_ofNat]; omega
theorem toNat_ofNat (m : Nat) : (UInt8.ofNat (48 + m % 10)).toNat = 48 + m % 10 := by
  simp [UInt8.toNat_ofNat]; omega
theorem dec_step (n m : Nat) (D : List UInt8) (h : Plain.val D + 10 ^ D.length * m = n) : Plain.val (UInt8.ofNat (48 + m % 10) :: D) + 10 ^ (UInt8.ofNat (48 + m % 10) :: D).length * (m / 10) = n := by
  have e : 10 ^ D.length * (m % 10) + 10 ^ D.length * 10 * (m / 10) = 10 ^ D.length * m := by
    rw [Nat.mul_assoc, ← Nat.mul_add, Nat.mod_add_div]
  rw [Plain.val_cons, toNat_ofNat, List.length_cons, Nat.pow_succ, Nat.add_sub_cancel_left, Nat.mul_comm (m % 10)]
  omega
theorem dec_room (n m : Nat) (D : List UInt8) (h : Plain.val D + 10 ^ D.length * m = n) (hm : ¬ m = 0) (hn : n ≤ 9223372036854775807) : D.length ≤ 18 := by
  apply Classical.byContradiction
  intro hc
  have h1 : 10 ^ 19 ≤ 10 ^ D.length := Nat.pow_le_pow_right (by decide) (by omega)
  have h2 : 10 ^ D.length * 1 ≤ 10 ^ D.length * m := Nat.mul_le_mul_left _ (by omega)
  have h3 : (10 : Nat) ^ 19 = 10000000000000000000 := by decide
  omega

theorem zeros24 (j : Nat) (h : j < 24) : (#[.int .u8 0, .int .u8 0, .int .u8 0, .int .u8 0, .int .u8 0, .int .u8 0, .int .u8 0, .int .u8 0, .int .u8 0, .int .u8 0, .int .u8 0, .int .u8 0, .int .u8 0, .int .u8 0, .int .u8 0, .int .u8 0, .int .u8 0, .int .u8 0, .int .u8 0, .int .u8 0, .int .u8 0, .int .u8 0, .int .u8 0, .int .u8 0] : Array Value)[j]? = some (.int .u8 0) := by
  have : (#[.int .u8 0, .int .u8 0, .int .u8 0, .int .u8 0, .int .u8 0, .int .u8 0, .int .u8 0, .int .u8 0, .int .u8 0, .int .u8 0, .int .u8 0, .int .u8 0, .int .u8 0, .int .u8 0, .int .u8 0, .int .u8 0, .int .u8 0, .int .u8 0, .int .u8 0, .int .u8 0, .int .u8 0, .int .u8 0, .int .u8 0, .int .u8 0] : Array Value) = Array.replicate 24 (.int .u8 0) := by kernel_rfl
  rw [this, Array.getElem?_replicate, if_pos h]

set_option maxHeartbeats 400000 in
theorem decimal_any (n : Nat) (h0 : 1 ≤ n) (h1 : n ≤ 9223372036854775807) (w : World) :
    Calls Tryd.prog 6 #[.int .i64 n] w fun e w' => ∃ D : List UInt8, e = .returned (.string ⟨D.toArray⟩) ∧ D ≠ [] ∧ D.length ≤ 24 ∧ (∀ c ∈ D, Plain.dig c = true) ∧ Plain.val D = n ∧ Below w.heap.size w w' := by
  go_enter Tryd.func6, Tryd.ntmps6
  go_wp2
  go_loopw [0, 4] (fun a i wr => ∃ (p m : Nat) (D : List UInt8), a = .int .i64 m ∧ i = .int .i64 p ∧ m ≤ n ∧ p ≤ 24 ∧ Hid (p + D.length = 24 ∧ (∀ c ∈ D, Plain.dig c = true) ∧ Plain.val D + 10 ^ D.length * m = n) ∧
      Hid (∀ j, j < p → wr.cell? ⟨w.heap.size, j, none⟩ = some (.int .u8 0)) ∧ Hid (∀ j (h : j < D.length), wr.cell? ⟨w.heap.size, p + j, none⟩ = some (.int .u8 D[j].toNat)) ∧ (∀ j, wr.frozen? ⟨w.heap.size, j, none⟩ = false) ∧ Below w.heap.size w wr)
    (fun a _ _ => (intOf a).toNat)
  case atStart =>
    refine ⟨24, n, [], rfl, rfl, Nat.le_refl _, Nat.le_refl _, hid ⟨rfl, by simp, by simp [Plain.val_eq, Plain.valFrom_nil]⟩, hid ?_, hid (by simp), ?_, (Below.refl _ _).alloc (Nat.le_refl _) _⟩
    · intro j hj
      rw [World.cell?_alloc_mark]
      exact zeros24 j hj
    · intro j
      rw [World.frozen?_alloc_mark]
      simp
  case round =>
    obtain ⟨p, m, D, rfl, rfl, hmn, hp, hD, hz, hc, hfr, hb⟩ := hrel
    by_cases hm : m = 0
    · subst hm
      obtain ⟨d1, d2, d3⟩ := hD.out
      have d4 : D ≠ [] := by
        intro e
        rw [e] at d3
        simp [Plain.val_eq, Plain.valFrom_nil] at d3
        omega
      have d5 : D.length ≠ 0 := fun e => d4 (List.length_eq_zero_iff.1 e)
      have hcv : (convert 23 9 (.slice (some ⟨w.heap.size, p, none⟩) (24 - p) (24 - p))).run Tryd.prog wr = .ok (.string ⟨D.toArray⟩) wr := by
        have := run_convert_bytes_back (P := Tryd.prog) wr 23 9 5 ⟨w.heap.size, p, none⟩ (24 - p) D Tryd.underlying23 Tryd.underlying5 Tryd.underlying9 (fun j hj => by rw [WideShapes.add_plain]; exact hc.out j hj)
        rwa [show D.length = 24 - p by omega] at this
      have hpi : (p : Int) ≤ 24 := by omega
      have hpn : ¬ 24 = p := by omega
      have d6 : D.length ≤ 24 := by omega
      have HD := hid d3
      have HE := hid d1
      clear d3 d1 d5
      go_wp2
      go_ret
      exact ⟨D, rfl, d4, d6, d2, by have := HD.out; simpa using this, hb⟩
    · have hmp : (0 : Int) < (m : Int) := by omega
      obtain ⟨d1, d2, d3⟩ := hD.out
      have d4 := dec_room n m D d3 hm h1
      obtain ⟨q, rfl⟩ : ∃ q, p = q + 1 := ⟨p - 1, by omega⟩
      have hcq : wr.cell? ⟨w.heap.size, q, none⟩ = some (.int .u8 0) := hz.out q (by omega)
      have hfq := hfr q
      have HD := hid (And.intro d1 (And.intro d2 d3))
      clear d1 d2 d3
      go_wp2
      go_roundw
      case rel =>
        obtain ⟨d1, d2, d3⟩ := HD.out
        refine ⟨q, m / 10, UInt8.ofNat (48 + m % 10) :: D, by go_num, rfl, by omega, by omega, hid ⟨by simp; omega, ?_, dec_step n m D d3⟩, hid ?_, hid ?_, ?_, hb.setCell (Nat.le_refl _) _⟩
        · intro c hc'
          rcases List.mem_cons.1 hc' with rfl | hc'
          · exact dig_ofNat m
          · exact d2 c hc'
        · intro j hj
          rw [World.cell?_setCell_other _ _ _ _ (by intro e; injection e; omega)]
          exact hz.out j (by omega)
        · intro j hj
          match j, hj with
          | 0, _ =>
            rw [Nat.add_zero, World.cell?_setCell_same _ _ _ hcq]
            simp only [List.getElem_cons_zero, toNat_ofNat]
            go_num
          | j + 1, hj =>
            rw [World.cell?_setCell_other _ _ _ _ (by intro e; injection e; omega)]
            have := hc.out j (by simpa using hj)
            rw [show q + (j + 1) = q + 1 + j by omega]
            simpa using this
        · intro j
          rw [World.frozen?_setCell]
          exact hfr j
      case measure => simp [intOf]; omega
end Go.Proofs.Qxb6603192aDoor
