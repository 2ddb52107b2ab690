/-
  Seat b6603192aD: parseWhole and ZZparseWhole: their contracts, over the shelf's contract of strconv.ParseInt.
-/
import Derived.Test.Qxb6603192aDoorWalkB
import Derived.Test.Qxb6603192aDoorShelf
import Derived.Lib.AtoiErrMem
namespace Go.Proofs.Qxb6603192aDoor
open Go.RowKit

theorem parse_ok (s : ByteArray) (hs : s.size ≤ 281474976710656) (h1 : 1 ≤ s.size) (hd : ∀ c ∈ s.data.toList, Plain.dig c = true) (hv : Plain.val s.data.toList ≤ 9223372036854775807) (w : World) :
    Calls Tryd.prog 18 #[.string s, .int .i64 10, .int .i64 64] w fun e w' => e = .returned (.tuple #[.int .i64 (Plain.val s.data.toList), .nilIface]) ∧ Below w.heap.size w w' := by
  have h0 : s.data.toList ≠ [] := by
    intro e
    have : s.data.toList.length = 0 := by rw [e]; rfl
    have h2 : s.data.toList.length = s.size := rfl
    omega
  refine (Any.strconv_ParseInt_10_at64_ok Tryd.laysC174 s (by omega) _ (Plain.parse_ok _ h0 hd hv) w).mono ?_
  rintro e w' ⟨he, hw⟩
  refine ⟨he, ?_⟩
  rcases hw with rfl | ⟨t, rfl⟩
  · exact Below.refl _ _
  · exact Lib.bytesWorld_below _ _ _

set_option maxHeartbeats 400000 in
theorem pw_ok (s : ByteArray) (hs : s.size ≤ 281474976710656) (h1 : 1 ≤ s.size) (hd : ∀ c ∈ s.data.toList, Plain.dig c = true) (v : Nat) (hv : Plain.val s.data.toList = v) (hv2 : v ≤ 9223372036854775807) (w : World) :
    Calls Tryd.prog 13 #[.string s] w fun e w' => e = .returned (.tuple #[.int .i64 v, .bool (decide (1 ≤ (v : Int)))]) ∧ Below w.heap.size w w' := by
  have hI := isDigits_any s w (by unfold maxLen; omega)
  have ht : isDig s.data.toList = true := by rw [isDig, List.all_eq_true]; exact hd
  rw [ht] at hI
  have hP := parse_ok s hs h1 hd (by omega) w
  rw [hv] at hP
  have HI := hid hI
  have HP := hid hP
  clear hI hP ht hv hd
  go_enter Tryd.func13, Tryd.ntmps13
  go_wp2_with (first
    | (go_at_call 14; refine HI.out.mono ?_; rintro e w' ⟨rfl, rfl⟩)
    | (go_at_call 18; refine HP.out.mono ?_; rintro e w1 ⟨rfl, hb1⟩))
  go_ret2
  exact ⟨rfl, hb1⟩

set_option maxHeartbeats 400000 in
theorem pw_no (s : ByteArray) (hs : s.size ≤ 281474976710656) (hd : isDig s.data.toList = false) (w : World) :
    Calls Tryd.prog 13 #[.string s] w fun e w' => e = .returned (.tuple #[.int .i64 0, .bool false]) ∧ Below w.heap.size w w' := by
  have hI := isDigits_any s w (by unfold maxLen; omega)
  rw [hd] at hI
  have HI := hid hI
  clear hI hd
  go_enter Tryd.func13, Tryd.ntmps13
  go_wp2_with (go_at_call 14; refine HI.out.mono ?_; rintro e w' ⟨rfl, rfl⟩)
  go_ret2
  exact ⟨rfl, Below.refl _ _⟩

/-- On the two roads of the error ParseInt hands back a number and an error that is not nil. -/
theorem pw_err (s : ByteArray) (hs : s.size ≤ 281474976710656) (hd : ∀ c ∈ s.data.toList, Plain.dig c = true) (v : Int) (w : World)
    (hP : Hid (Calls Tryd.prog 18 #[.string s, .int .i64 10, .int .i64 64] w fun e w' => ∃ N, e = .returned (.tuple #[.int .i64 v, .iface 44 (.pointer (some ⟨N, 0, none⟩))]) ∧ Below w.heap.size w w')) :
    Calls Tryd.prog 13 #[.string s] w fun e w' => e = .returned (.tuple #[.int .i64 v, .bool false]) ∧ Below w.heap.size w w' := by
  have hI := isDigits_any s w (by unfold maxLen; omega)
  have ht : isDig s.data.toList = true := by rw [isDig, List.all_eq_true]; exact hd
  rw [ht] at hI
  have HI := hid hI
  clear hI ht hd
  go_enter Tryd.func13, Tryd.ntmps13
  go_wp2_with (first
    | (go_at_call 14; refine HI.out.mono ?_; rintro e w' ⟨rfl, rfl⟩)
    | (go_at_call 18; refine hP.out.mono ?_; rintro e w1 ⟨N, rfl, hb1⟩))
  go_ret2
  exact ⟨rfl, hb1⟩

theorem pw_empty (s : ByteArray) (h0 : s.size = 0) (tp : TypeId) (p : Value) (w : World) (hvar : w.var? Tryd.prog "strconv.ErrSyntax" = some #[.iface tp p]) :
    Calls Tryd.prog 13 #[.string s] w fun e w' => e = .returned (.tuple #[.int .i64 0, .bool false]) ∧ Below w.heap.size w w' := by
  have e0 : s.data.toList = [] := List.length_eq_zero_iff.1 h0
  refine pw_err s (by omega) (by rw [e0]; simp) 0 w (hid ?_)
  refine (Any.strconv_ParseInt_10_at64_syntax_var Tryd.laysC174 s (by omega) (by rw [e0]; rfl) tp p w hvar).mono ?_
  rintro e w' ⟨N, he, -, -, hb⟩
  exact ⟨N, he, hb⟩

theorem pw_range (s : ByteArray) (hs : s.size ≤ 281474976710656) (hd : ∀ c ∈ s.data.toList, Plain.dig c = true) (hv : 9223372036854775807 < Plain.val s.data.toList) (tp : TypeId) (p : Value) (w : World) (hvar : w.var? Tryd.prog "strconv.ErrRange" = some #[.iface tp p]) :
    Calls Tryd.prog 13 #[.string s] w fun e w' => e = .returned (.tuple #[.int .i64 9223372036854775807, .bool false]) ∧ Below w.heap.size w w' := by
  refine pw_err s hs hd 9223372036854775807 w (hid ?_)
  have h := Any.strconv_ParseInt_10_at64_range_var Tryd.laysC174 s hs (Plain.parse_range _ hd hv) tp p w hvar
  rw [Plain.sat_digits _ hd] at h
  refine h.mono ?_
  rintro e w' ⟨N, he, -, -, hb⟩
  exact ⟨N, he, hb⟩

/-- 'ZZparseWhole' hands on what 'parseWhole' answers. -/
theorem zzpw (s : ByteArray) (v : Int) (b : Bool) (w : World) (h : Hid (Calls Tryd.prog 13 #[.string s] w fun e w' => e = .returned (.tuple #[.int .i64 v, .bool b]) ∧ Below w.heap.size w w')) :
    Calls Tryd.prog 7 #[.string s] w fun e w' => e = .returned (.tuple #[.int .i64 v, .bool b]) ∧ Below w.heap.size w w' := by
  go_enter Tryd.func7, Tryd.ntmps7
  go_wp2_with (go_at_call 13; refine h.out.mono ?_; rintro e w1 ⟨rfl, hb1⟩)
  go_ret2
  exact ⟨rfl, hb1⟩

theorem pwOk : PwOk := fun s n w hs h1 hd hv hn hm => by
  have h := pw_ok s (by omega) h1 hd n hv hm w
  have e : decide (1 ≤ (n : Int)) = true := decide_eq_true (by omega)
  rw [e] at h
  exact zzpw s n true w (hid h)
end Go.Proofs.Qxb6603192aDoor
