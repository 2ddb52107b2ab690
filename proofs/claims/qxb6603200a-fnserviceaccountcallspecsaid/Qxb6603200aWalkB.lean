/-
  Seat b6603200a: THE WALK of ServiceAccountCall, over the shelf's contracts of strings.LastIndex and strings.LastIndexByte.
-/
import Derived.Test.Qxb6603200aWalkA
import Derived.Test.Qxb6603200aShelf
namespace Go.Proofs.Qxb6603200a
open Go.RowKit

theorem lastIndex_at (s sub : ByteArray) (hs : s.size ≤ 4194304) (w : World) :
    Calls Try.prog 16 #[.string s, .string sub] w fun e w' => e = .returned (.int .i64 (Lib.lastIndex s.data.toList sub.data.toList)) ∧ w' = w :=
  Any.strings_LastIndex Try.lays148 s sub (by omega) w
theorem lastIndexByte_at (s : ByteArray) (c : Int) (hs : s.size ≤ 4194304) (w : World) :
    Calls Try.prog 17 #[.string s, .int .u8 c] w fun e w' => e = .returned (.int .i64 (Lib.lastIndexByte s c)) ∧ w' = w :=
  Any.strings_LastIndexByte Try.lays149 s c (by omega) w

theorem ext_data (s : ByteArray) (a b : Nat) : (s.extract a b).data.toList = (s.data.toList.drop a).take (b - a) := Lib.extract_data s a b
theorem ext_end (s : ByteArray) (a : Nat) : (s.extract a s.size).data.toList = s.data.toList.drop a := by
  rw [ext_data, List.take_of_length_le]
  rw [List.length_drop]
  exact Nat.le_refl _

/-- The last place of the marker, or none. -/
theorem last_or (s : ByteArray) : (Lib.lastIndex s.data.toList Plain.I = -1 ∧ ∀ j, Plain.occ s.data.toList Plain.I j = false) ∨
    ∃ i : Nat, Lib.lastIndex s.data.toList Plain.I = i ∧ i + 17 ≤ s.size ∧ Plain.occ s.data.toList Plain.I i = true ∧ ∀ j, i < j → Plain.occ s.data.toList Plain.I j = false := by
  have short : ∀ j, s.size < j + 17 → Plain.occ s.data.toList Plain.I j = false := fun j hj => occ_short s ⟨#[47, 115, 101, 114, 118, 105, 99, 101, 65, 99, 99, 111, 117, 110, 116, 115, 47]⟩ j (by rw [inf_size]; omega) (by rw [inf_size]; exact hj)
  have hl : s.data.toList.length = s.size := rfl
  by_cases h : 17 ≤ s.size
  · have e : Lib.lastIndex s.data.toList Plain.I = Lib.lastOcc s.data.toList Plain.I (s.size - 17 + 1) := by
      unfold Lib.lastIndex
      rw [if_pos (by rw [Plain.I_len, hl]; exact h), hl, Plain.I_len]
    rcases Lib.lastOcc_spec s.data.toList Plain.I (s.size - 17 + 1) with ⟨e2, hn⟩ | ⟨i, hi, e2, ho, hn⟩
    · refine .inl ⟨by rw [e, e2], fun j => ?_⟩
      by_cases hj : j < s.size - 17 + 1
      · exact hn j hj
      · exact short j (by omega)
    · refine .inr ⟨i, by rw [e, e2], by omega, ho, fun j hj => ?_⟩
      by_cases hj2 : j < s.size - 17 + 1
      · exact hn j hj hj2
      · exact short j (by omega)
  · refine .inl ⟨?_, fun j => short j (by omega)⟩
    unfold Lib.lastIndex
    rw [if_neg (by rw [Plain.I_len, hl]; exact h)]

/-- A colon cuts the call, or there is none. -/
theorem colon_or (s : ByteArray) : (Lib.lastIndexByte s 58 = -1 ∧ (58 : UInt8) ∉ s.data.toList) ∨
    ∃ c : Nat, Lib.lastIndexByte s 58 = c ∧ c < s.size ∧ s.data.toList = s.data.toList.take c ++ 58 :: s.data.toList.drop (c + 1) ∧ (58 : UInt8) ∉ s.data.toList.drop (c + 1) := by
  have byte : ∀ j, j < s.size → s.data.toList[j]? = some (s.data[j]!) := fun j hj => by
    have hj' : j < s.data.size := hj
    rw [getElem!_pos s.data j hj']
    exact getl s j hj
  rcases Lib.lastIndexByte_spec s 58 with ⟨e, hn⟩ | ⟨c, hc, e, h58, hn⟩
  · refine .inl ⟨e, fun hm => ?_⟩
    obtain ⟨j, hj, hj2⟩ := List.mem_iff_getElem.1 hm
    have hjs : j < s.size := hj
    have h1 := byte j hjs
    rw [List.getElem?_eq_getElem hj, hj2] at h1
    have h2 := hn j hjs
    rw [← Option.some.inj h1] at h2
    exact h2 rfl
  · have hcl : c < s.data.toList.length := hc
    have e1 : s.data.toList[c] = 58 := by
      have h1 := byte c hc
      rw [List.getElem?_eq_getElem hcl] at h1
      rw [Option.some.inj h1]
      exact UInt8.toNat_inj.1 (by show _ = 58; omega)
    refine .inr ⟨c, e, hc, ?_, fun hm => ?_⟩
    · rw [← e1, ← List.drop_eq_getElem_cons hcl, List.take_append_drop]
    · obtain ⟨j, hj, hj2⟩ := List.mem_iff_getElem.1 hm
      rw [List.getElem_drop] at hj2
      rw [List.length_drop] at hj
      have hjs : c + 1 + j < s.size := by have : s.data.toList.length = s.size := rfl; omega
      have h1 := byte (c + 1 + j) hjs
      rw [List.getElem?_eq_getElem hjs, hj2] at h1
      have h2 := hn (c + 1 + j) (by omega) hjs
      rw [← Option.some.inj h1] at h2
      exact h2 rfl

set_option maxHeartbeats 400000 in
theorem svc_none (s : ByteArray) (hs : s.size ≤ 2097152) (h : Lib.lastIndex s.data.toList Plain.I = -1) (w : World) :
    Calls Try.prog 8 #[.string s] w fun e w' => e = .returned (.tuple #[.string ⟨#[]⟩, .string ⟨#[]⟩, .bool false]) ∧ Below w.heap.size w w' := by
  have hI := lastIndex_at s ⟨#[47, 115, 101, 114, 118, 105, 99, 101, 65, 99, 99, 111, 117, 110, 116, 115, 47]⟩ (by omega) w
  rw [inf_list, h] at hI
  have HI := hid hI
  clear hI h
  go_enter Try.func8, Try.ntmps8
  go_wp2_with (go_at_call 16; refine HI.out.mono ?_; rintro e w' ⟨rfl, rfl⟩)
  go_ret3
  exact ⟨rfl, Below.refl _ _⟩

set_option maxHeartbeats 400000 in
theorem svc_plain (s : ByteArray) (hs : s.size ≤ 2097152) (i : Nat) (h : Lib.lastIndex s.data.toList Plain.I = i) (hi : i + 17 ≤ s.size) (C : ByteArray) (hC : s.extract (i + 17) s.size = C) (hCs : C.size ≤ s.size) (hc : Lib.lastIndexByte C 58 = -1) (w : World) :
    Calls Try.prog 8 #[.string s] w fun e w' => e = .returned (.tuple #[.string C, .string ⟨#[]⟩, .bool true]) ∧ Below w.heap.size w w' := by
  have hI := lastIndex_at s ⟨#[47, 115, 101, 114, 118, 105, 99, 101, 65, 99, 99, 111, 117, 110, 116, 115, 47]⟩ (by omega) w
  rw [inf_list, h] at hI
  have HI := hid hI
  have hB := lastIndexByte_at C 58 (by omega) w
  rw [hc] at hB
  have HB := hid hB
  have i1 : (i : Int) + 17 ≤ (s.size : Int) := by omega
  have i2 : ((i : Int) + 17).toNat = i + 17 := by omega
  clear hI h hB hc
  go_enter Try.func8, Try.ntmps8
  go_wp2_with (first
    | (go_at_call 16; refine HI.out.mono ?_; rintro e w' ⟨rfl, rfl⟩)
    | (go_at_call 17; refine HB.out.mono ?_; rintro e w' ⟨rfl, rfl⟩))
  go_ret3
  exact ⟨rfl, Below.refl _ _⟩

set_option maxHeartbeats 400000 in
theorem svc_colon (s : ByteArray) (hs : s.size ≤ 2097152) (i : Nat) (h : Lib.lastIndex s.data.toList Plain.I = i) (hi : i + 17 ≤ s.size) (C : ByteArray) (hC : s.extract (i + 17) s.size = C) (hCs : C.size ≤ s.size) (c : Nat) (hc : Lib.lastIndexByte C 58 = c) (hcs : c < C.size) (w : World) :
    Calls Try.prog 8 #[.string s] w fun e w' => e = .returned (.tuple #[.string (C.extract 0 c), .string (C.extract (c + 1) C.size), .bool true]) ∧ Below w.heap.size w w' := by
  have hI := lastIndex_at s ⟨#[47, 115, 101, 114, 118, 105, 99, 101, 65, 99, 99, 111, 117, 110, 116, 115, 47]⟩ (by omega) w
  rw [inf_list, h] at hI
  have HI := hid hI
  have hB := lastIndexByte_at C 58 (by omega) w
  rw [hc] at hB
  have HB := hid hB
  have i1 : (i : Int) + 17 ≤ (s.size : Int) := by omega
  have i2 : ((i : Int) + 17).toNat = i + 17 := by omega
  have i3 : (c : Int) + 1 ≤ (C.size : Int) := by omega
  have i4 : ((c : Int) + 1).toNat = c + 1 := by omega
  have i5 : (c : Int) ≤ (C.size : Int) := by omega
  clear hI h hB hc
  go_enter Try.func8, Try.ntmps8
  go_wp2_with (first
    | (go_at_call 16; refine HI.out.mono ?_; rintro e w' ⟨rfl, rfl⟩)
    | (go_at_call 17; refine HB.out.mono ?_; rintro e w' ⟨rfl, rfl⟩))
  go_quiet (fail)
  go_wp2
  go_ret3
  exact ⟨rfl, below_drewN (Below.refl _ _) _⟩

/-- ServiceAccountCall, at every text: one answer, whatever the world. -/
theorem svc_any (s : ByteArray) (hs : s.size ≤ 2097152) : ∃ (A M : ByteArray) (ok : Bool), Plain.Svc s.data.toList A.data.toList M.data.toList ok ∧ A.size ≤ s.size ∧ M.size ≤ s.size ∧
    ∀ w : World, Calls Try.prog 8 #[.string s] w fun e w' => e = .returned (.tuple #[.string A, .string M, .bool ok]) ∧ Below w.heap.size w w' := by
  rcases last_or s with ⟨e, hn⟩ | ⟨i, e, hi, ho, hn⟩
  · exact ⟨⟨#[]⟩, ⟨#[]⟩, false, .inl ⟨rfl, rfl, rfl, hn⟩, Nat.zero_le _, Nat.zero_le _, fun w => svc_none s hs e w⟩
  · obtain ⟨C, hC⟩ : ∃ C, s.extract (i + 17) s.size = C := ⟨_, rfl⟩
    have hCs : C.size ≤ s.size := by rw [← hC]; simp
    have hCl : C.data.toList = s.data.toList.drop (i + 17) := by rw [← hC, ext_end]
    obtain ⟨q1, q2⟩ := Plain.occ_split ho Plain.I_ne
    rw [Plain.I_len, ← hCl] at q1
    rcases colon_or C with ⟨e2, hno⟩ | ⟨c, e2, hc, hcut, hno⟩
    · exact ⟨C, ⟨#[]⟩, true, .inr ⟨rfl, _, _, q1, fun j hj => hn j (by rw [q2] at hj; exact hj), .inr ⟨rfl, rfl, hno⟩⟩, hCs, Nat.zero_le _, fun w => svc_plain s hs i e hi C hC hCs e2 w⟩
    · refine ⟨C.extract 0 c, C.extract (c + 1) C.size, true, .inr ⟨rfl, _, _, q1, fun j hj => hn j (by rw [q2] at hj; exact hj), .inl ⟨?_, ?_⟩⟩, ?_, ?_, fun w => svc_colon s hs i e hi C hC hCs c e2 hc w⟩
      · rw [ext_end, ext_data, List.drop_zero, Nat.sub_zero]
        exact hcut
      · rw [ext_end]; exact hno
      · rw [ByteArray.size_extract]; omega
      · rw [ByteArray.size_extract]; omega

/-- Two texts are one if their bytes are. -/
theorem ba_ext {a b : ByteArray} (h : a.data.toList = b.data.toList) : a = b := by
  cases a; cases b
  simp only [ByteArray.mk.injEq]
  exact Array.toList_inj.1 h
theorem app_list (a b : ByteArray) : (a ++ b).data.toList = a.data.toList ++ b.data.toList := by simp
end Go.Proofs.Qxb6603200a
