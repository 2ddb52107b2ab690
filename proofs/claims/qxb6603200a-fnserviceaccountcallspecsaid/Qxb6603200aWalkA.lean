/-
  Seat b6603200a: THE WALKS of the law's helpers: zzMatchAt, zzOccursFrom, zzNoColon, zzIsLastTail.
-/
import Derived.Test.Qxb6603200aProg
import Derived.Test.Qxb6603200aPlain
import Derived.WalkKit
import Derived.WalkSpells
import Derived.WalkLawsBesides
import Derived.Deep.QuietTactic
import Derived.BigQuiet
import Derived.Outline
namespace Go.Proofs.Qxb6603200a
open Go.RowKit

theorem hid {p : Prop} (h : p) : Hid p := h
theorem ret_bool {a b : Bool} (h : a = b) : Ending.returned (.bool a) = .returned (.bool b) := by rw [h]

theorem bool_of (P : Prop) : ∃ r : Bool, (r = true ↔ P) := by
  by_cases h : P
  · exact ⟨true, ⟨fun _ => h, fun _ => rfl⟩⟩
  · exact ⟨false, ⟨fun e => Bool.noConfusion e, fun p => absurd p h⟩⟩
theorem true_of {r : Bool} {P : Prop} (h : r = true ↔ P) (p : P) : r = true := h.2 p
theorem false_of {r : Bool} {P : Prop} (h : r = true ↔ P) (p : ¬ P) : r = false := by
  cases r
  · rfl
  · exact absurd (h.1 rfl) p

theorem getl (s : ByteArray) (k : Nat) (h : k < s.size) : s.data.toList[k]? = some s[k] := by
  rw [List.getElem?_eq_getElem (by simpa using h)]; rfl
theorem take_snoc (s : ByteArray) (k : Nat) (h : k < s.size) : s.data.toList.take (k + 1) = s.data.toList.take k ++ [s[k]] := by
  rw [List.take_succ_eq_append_getElem (by simpa using h)]; rfl
/-- pat stands at k if its bytes do. -/
theorem occ_all (s pat : ByteArray) (k : Nat) (hj : ∀ j, j < pat.size → s.data.toList[k + j]? = pat.data.toList[j]?) : Plain.occ s.data.toList pat.data.toList k = true := by
  unfold Plain.occ Lib.occAt
  rw [List.isPrefixOf_iff_prefix, List.prefix_iff_getElem?]
  intro j hj'
  have hj2 : j < pat.size := by simpa using hj'
  rw [List.getElem?_drop, hj j hj2, List.getElem?_eq_getElem hj']
theorem occ_none (s pat : ByteArray) (k j : Nat) (hj : j < pat.size) (hne : s.data.toList[k + j]? ≠ pat.data.toList[j]?) : Plain.occ s.data.toList pat.data.toList k = false := by
  cases h : Plain.occ s.data.toList pat.data.toList k with
  | false => rfl
  | true =>
    exfalso
    apply hne
    unfold Plain.occ Lib.occAt at h
    rw [List.isPrefixOf_iff_prefix, List.prefix_iff_getElem?] at h
    have := h j (by simpa using hj)
    rw [List.getElem?_drop] at this
    rw [this, List.getElem?_eq_getElem (by simpa using hj)]
theorem occ_short (s pat : ByteArray) (k : Nat) (h1 : 1 ≤ pat.size) (h : s.size < k + pat.size) : Plain.occ s.data.toList pat.data.toList k = false := by
  cases e : Plain.occ s.data.toList pat.data.toList k with
  | false => rfl
  | true =>
    rcases Lib.occAt_room e with h2 | h2
    · simp at h2; omega
    · have : pat.data.toList.length = 0 := by rw [h2]; rfl
      have h3 : pat.size = 0 := this
      omega

set_option maxHeartbeats 400000 in
theorem match_any (s pat : ByteArray) (k : Nat) (w : World) (hs : s.size ≤ 4194304) (hp : pat.size ≤ 4194304) (hk : k ≤ 4194304) (h1 : 1 ≤ pat.size) :
    Calls Try.prog 18 #[.string s, .int .i64 k, .string pat] w fun e w' => e = .returned (.bool (Plain.occ s.data.toList pat.data.toList k)) ∧ Below w.heap.size w w' := by
  by_cases c1 : s.size < pat.size
  · have e := occ_short s pat k h1 (by omega)
    rw [e]
    clear e
    have i1 : (s.size : Int) < (pat.size : Int) := by omega
    go_enter Try.func18, Try.ntmps18
    go_wp2
    go_ret
    exact ⟨rfl, Below.refl _ _⟩
  by_cases c2 : s.size < k + pat.size
  · have e := occ_short s pat k h1 (by omega)
    rw [e]
    clear e
    have i1 : ¬ (s.size : Int) < (pat.size : Int) := by omega
    have i2 : (s.size : Int) - (pat.size : Int) < (k : Int) := by omega
    go_enter Try.func18, Try.ntmps18
    go_wp2
    go_ret
    exact ⟨rfl, Below.refl _ _⟩
  have i1 : (pat.size : Int) ≤ (s.size : Int) := by omega
  have i2 : (k : Int) ≤ (s.size : Int) - (pat.size : Int) := by omega
  have h2 : k + pat.size ≤ s.size := by omega
  clear c1 c2
  obtain ⟨r, hr⟩ : ∃ r, r = Plain.occ s.data.toList pat.data.toList k := ⟨_, rfl⟩
  have HR := hid hr
  rw [← hr]
  clear hr
  go_enter Try.func18, Try.ntmps18
  go_wp2
  go_loopw [7] (fun i wr => ∃ j : Nat, j ≤ pat.size ∧ i = .int .i64 j ∧ Hid (∀ t, t < j → s.data.toList[k + t]? = pat.data.toList[t]?) ∧ Below w.heap.size w wr) (fun i _ => pat.size - (intOf i).toNat)
  case atStart => exact ⟨0, Nat.zero_le _, rfl, hid (fun t ht => absurd ht (Nat.not_lt_zero _)), Below.refl _ _⟩
  case round =>
    obtain ⟨j, hj, rfl, HT, hb⟩ := hrel
    by_cases hlt : j < pat.size
    · have hx : k + j < s.size := by omega
      have x1 : (k : Int) + (j : Int) < (s.size : Int) := by omega
      have x2 : (j : Int) < (pat.size : Int) := by omega
      have x3 : (0 : Int) ≤ (k : Int) + (j : Int) := by omega
      have x4 : ((k : Int) + (j : Int)).toNat = k + j := by omega
      go_wp2
      go_quiet (fail)
      go_wp2
      · have hne : ((s[k + j].toNat : Int) != (pat[j].toNat : Int)) = true := by assumption
        go_ret
        refine ⟨ret_bool ?_, below_drewN hb _⟩
        rw [HR.out, occ_none s pat k j hlt (by
          rw [getl s (k + j) hx, getl pat j hlt]
          intro e
          rw [Option.some.inj e] at hne
          simp at hne)]
      · have hne : ((s[k + j].toNat : Int) != (pat[j].toNat : Int)) = false := by assumption
        go_roundw
        case rel =>
          refine ⟨j + 1, by omega, by go_num, hid (fun t ht => ?_), below_drewN hb _⟩
          by_cases e : t = j
          · subst e
            rw [getl s (k + t) hx, getl pat t hlt, UInt8.toNat_inj.1 (show s[k + t].toNat = pat[t].toNat by simp at hne; omega)]
          · exact HT.out t (by omega)
        case measure => simp [intOf]; omega
    · go_wp2
      go_ret
      refine ⟨ret_bool ?_, hb⟩
      rw [HR.out, occ_all s pat k (fun t ht => HT.out t (by omega))]

set_option maxHeartbeats 400000 in
theorem occurs_any (s pat : ByteArray) (f : Nat) (w : World) (hs : s.size ≤ 2097152) (hp : pat.size ≤ 2097152) (hf : f ≤ 2097153) (h1 : 1 ≤ pat.size) (r : Bool) (HR : Hid (r = true ↔ ∃ j, f ≤ j ∧ Plain.occ s.data.toList pat.data.toList j = true)) :
    Calls Try.prog 9 #[.string s, .int .i64 f, .string pat] w fun e w' => e = .returned (.bool r) ∧ Below w.heap.size w w' := by
  go_enter Try.func9, Try.ntmps9
  go_wp2
  go_loopw [7] (fun i wr => ∃ k : Nat, f ≤ k ∧ k ≤ 2097153 ∧ i = .int .i64 k ∧ Hid (∀ j, f ≤ j → j < k → Plain.occ s.data.toList pat.data.toList j = false) ∧ Below w.heap.size w wr) (fun i _ => s.size + 1 - (intOf i).toNat)
  case atStart => exact ⟨f, Nat.le_refl _, hf, rfl, hid (fun j h2 h3 => absurd h3 (by omega)), Below.refl _ _⟩
  case round =>
    obtain ⟨k, hk, hk2, rfl, HN, hb⟩ := hrel
    have hbs := hb.size
    by_cases hlt : k + pat.size ≤ s.size
    · have x1 : (k : Int) + (pat.size : Int) ≤ (s.size : Int) := by omega
      have hM := match_any s pat k wr (by omega) (by omega) (by omega) h1
      cases hr : Plain.occ s.data.toList pat.data.toList k with
      | true =>
        rw [hr] at hM
        have HM := hid hM
        have HRR := hid hr
        clear hM hr
        go_wp2_with (go_at_call 18; refine HM.out.mono ?_; rintro e w1 ⟨rfl, hb1⟩)
        go_ret
        exact ⟨ret_bool (true_of HR.out ⟨k, hk, HRR.out⟩).symm, hb.trans (hb1.mono hbs)⟩
      | false =>
        rw [hr] at hM
        have HM := hid hM
        have HRR := hid hr
        clear hM hr
        go_wp2_with (go_at_call 18; refine HM.out.mono ?_; rintro e w1 ⟨rfl, hb1⟩)
        go_roundw
        case rel =>
          refine ⟨k + 1, by omega, by omega, by go_num, hid (fun j h2 h3 => ?_), hb.trans (hb1.mono hbs)⟩
          by_cases e : j = k
          · rw [e]; exact HRR.out
          · exact HN.out j h2 (by omega)
        case measure => simp [intOf]; omega
    · have x1 : ¬ (k : Int) + (pat.size : Int) ≤ (s.size : Int) := by omega
      go_wp2
      go_ret
      refine ⟨ret_bool (false_of HR.out (fun ⟨j, h2, h3⟩ => ?_)).symm, hb⟩
      by_cases e : j < k
      · rw [HN.out j h2 e] at h3; cases h3
      · rw [occ_short s pat j h1 (by omega)] at h3; cases h3

set_option maxHeartbeats 400000 in
theorem noColon_any (s : ByteArray) (w : World) (hs : s.size ≤ 4194304) (r : Bool) (HR : Hid (r = true ↔ (58 : UInt8) ∉ s.data.toList)) :
    Calls Try.prog 10 #[.string s] w fun e w' => e = .returned (.bool r) ∧ w' = w := by
  go_enter Try.func10, Try.ntmps10
  go_wp2
  go_loop [3] (fun i => ∃ k : Nat, k ≤ s.size ∧ i = .int .i64 k ∧ Hid ((58 : UInt8) ∉ s.data.toList.take k)) (fun i => s.size - (intOf i).toNat)
  case atStart => exact ⟨0, Nat.zero_le _, rfl, hid (by simp)⟩
  case round =>
    obtain ⟨k, hk, rfl, HN⟩ := hrel
    by_cases hlt : k < s.size
    · go_wp2
      · have he : ((s[k].toNat : Int) == 58) = true := by assumption
        go_ret
        refine ⟨ret_bool (false_of HR.out (fun h => ?_)).symm, rfl⟩
        have e : s[k] = 58 := UInt8.toNat_inj.1 (by simp at he; show s[k].toNat = 58; omega)
        exact absurd (e ▸ (show s[k] ∈ s.data.toList from List.mem_of_getElem? (getl s k hlt))) h
      · have he : ((s[k].toNat : Int) == 58) = false := by assumption
        go_round
        case rel =>
          refine ⟨k + 1, by omega, by go_num, hid ?_⟩
          rw [take_snoc s k hlt]
          intro hm
          rcases List.mem_append.1 hm with hm | hm
          · exact HN.out hm
          · rw [← List.mem_singleton.1 hm] at he
            simp at he
        case measure => simp [intOf]; omega
    · go_wp2
      go_ret
      have e : s.data.toList.take k = s.data.toList := List.take_of_length_le (by show s.size ≤ k; omega)
      have hn := HN.out
      rw [e] at hn
      exact ⟨ret_bool (true_of HR.out hn).symm, rfl⟩

/-- The marker as the dump has it. -/
theorem inf_list : (⟨#[47, 115, 101, 114, 118, 105, 99, 101, 65, 99, 99, 111, 117, 110, 116, 115, 47]⟩ : ByteArray).data.toList = Plain.I := rfl
theorem inf_size : (⟨#[47, 115, 101, 114, 118, 105, 99, 101, 65, 99, 99, 111, 117, 110, 116, 115, 47]⟩ : ByteArray).size = 17 := rfl

set_option maxHeartbeats 400000 in
theorem lastTail_any (s t : ByteArray) (w : World) (hs : s.size ≤ 2097152) (ht : t.size ≤ 2097152) (h1 : 1 ≤ t.size) (r : Bool) (HR : Hid (r = true ↔ Plain.LastTail s.data.toList t.data.toList)) :
    Calls Try.prog 11 #[.string s, .string t] w fun e w' => e = .returned (.bool r) ∧ Below w.heap.size w w' := by
  by_cases c1 : s.size < t.size
  · have i1 : (s.size : Int) < (t.size : Int) := by omega
    go_enter Try.func11, Try.ntmps11
    go_wp2
    go_ret
    exact ⟨ret_bool (false_of HR.out (fun h => by have h2 : t.size ≤ s.size := h.1; omega)).symm, Below.refl _ _⟩
  have i1 : (t.size : Int) ≤ (s.size : Int) := by omega
  have hM := match_any s t (s.size - t.size) w (by omega) (by omega) (by omega) h1
  have ei : ((s.size - t.size : Nat) : Int) = (s.size : Int) - (t.size : Int) := by omega
  rw [ei] at hM
  cases hm : Plain.occ s.data.toList t.data.toList (s.size - t.size) with
  | false =>
    rw [hm] at hM
    have HM := hid hM
    have HMM := hid hm
    clear hM hm ei
    go_enter Try.func11, Try.ntmps11
    go_wp2_with (go_at_call 18; refine HM.out.mono ?_; rintro e w1 ⟨rfl, hb1⟩)
    go_ret
    exact ⟨ret_bool (false_of HR.out (fun h => by have h2 : Plain.occ s.data.toList t.data.toList (s.size - t.size) = true := h.2.1; rw [HMM.out] at h2; cases h2)).symm, hb1⟩
  | true =>
    rw [hm] at hM
    obtain ⟨b, hb⟩ := bool_of (∃ j, s.size - t.size + 1 ≤ j ∧ Plain.occ s.data.toList Plain.I j = true)
    have HO : Hid (∀ w1, Calls Try.prog 9 #[.string s, .int .i64 ((s.size : Int) - (t.size : Int) + 1), .string ⟨#[47, 115, 101, 114, 118, 105, 99, 101, 65, 99, 99, 111, 117, 110, 116, 115, 47]⟩] w1 fun e w' => e = .returned (.bool b) ∧ Below w1.heap.size w1 w') := hid fun w1 => by
      have h := occurs_any s ⟨#[47, 115, 101, 114, 118, 105, 99, 101, 65, 99, 99, 111, 117, 110, 116, 115, 47]⟩ (s.size - t.size + 1) w1 hs (by rw [inf_size]; omega) (by omega) (by rw [inf_size]; omega) b (hid hb)
      rw [show ((s.size - t.size + 1 : Nat) : Int) = (s.size : Int) - (t.size : Int) + 1 by omega] at h
      exact h
    have HM := hid hM
    have HMM := hid hm
    have HB := hid hb
    clear hM hm ei hb
    go_enter Try.func11, Try.ntmps11
    go_wp2_with (first
      | (go_at_call 18; refine HM.out.mono ?_; rintro e w1 ⟨rfl, hb1⟩)
      | (go_at_call 9; refine (HO.out _).mono ?_; rintro e w2 ⟨rfl, hb2⟩))
    go_ret
    refine ⟨ret_bool ?_, hb1.trans (hb2.mono hb1.size)⟩
    cases b with
    | true =>
      refine (false_of HR.out (fun h => ?_)).symm
      obtain ⟨j, j1, j2⟩ := HB.out.1 rfl
      have h3 := h.2.2 j j1
      rw [j2] at h3
      cases h3
    | false =>
      refine (true_of HR.out ⟨by show t.size ≤ s.size; omega, HMM.out, fun j hj => ?_⟩).symm
      cases h : Plain.occ s.data.toList Plain.I j with
      | false => rfl
      | true => exact absurd (HB.out.2 ⟨j, hj, h⟩) (by decide)
end Go.Proofs.Qxb6603200a
