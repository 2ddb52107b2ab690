/-
  Seat b6603192aD: THE WALK of modelWhole, the case table.
-/
import Derived.Test.Qxb6603192aDoorWalkD
namespace Go.Proofs.Qxb6603192aDoor
open Go.RowKit

theorem ret_pair {a c : Int} {b d : Bool} (h : a = c ∧ b = d) : Ending.returned (.tuple #[.int .i64 a, .bool b]) = .returned (.tuple #[.int .i64 c, .bool d]) := by rw [h.1, h.2]

theorem beqf {a b : Int} (h : a ≠ b) : (a == b) = false := by simpa using h
theorem beqt {a b : Int} (h : a = b) : (a == b) = true := by simpa using h
theorem bnet {a b : Int} (h : a ≠ b) : (a != b) = true := by simpa using h
theorem ext_data (s : ByteArray) (k : Nat) : (s.extract k s.size).data.toList = s.data.toList.drop k := by
  simp [ByteArray.data_extract]
  exact List.take_of_length_le (by simp)

theorem byte_mem (s : ByteArray) (k : Nat) (hk : k < s.size) : s[k] ∈ s.data.toList := by
  have : s[k] = s.data.toList[k]'(by simpa using hk) := rfl
  rw [this]; exact List.getElem_mem _

set_option maxHeartbeats 400000 in
theorem model_empty (s : ByteArray) (w : World) (h : s.size = 0) :
    Calls Tryd.prog 12 #[.string s] w fun e w' => e = .returned (.tuple #[.int .i64 0, .bool false]) ∧ Below w.heap.size w w' := by
  have h0 : ((s.size : Int) == 0) = true := beqt (by omega)
  go_enter Tryd.func12, Tryd.ntmps12
  go_wp2
  go_ret2
  exact ⟨rfl, Below.refl _ _⟩

set_option maxHeartbeats 400000 in
theorem model_bad (s : ByteArray) (w : World) (hs : s.size ≤ 1048576) (h : 1 ≤ s.size) (hc : Plain.cnt s.data.toList ≠ 0) :
    Calls Tryd.prog 12 #[.string s] w fun e w' => e = .returned (.tuple #[.int .i64 0, .bool false]) ∧ Below w.heap.size w w' := by
  have h0 : ((s.size : Int) == 0) = false := beqf (by omega)
  have hC := countNon_any s w hs
  obtain ⟨c, hcc⟩ : ∃ c, c = Plain.cnt s.data.toList := ⟨_, rfl⟩
  rw [← hcc] at hC hc
  have HC := hid hC
  have hcn : ((c : Int) != 0) = true := bnet (by omega)
  clear hC hcc
  go_enter Tryd.func12, Tryd.ntmps12
  go_wp2_with (go_at_call 15; refine HC.out.mono ?_; rintro e w' ⟨rfl, rfl⟩)
  go_ret2
  exact ⟨rfl, Below.refl _ _⟩

set_option maxHeartbeats 1000000 in
theorem model_digits (s : ByteArray) (w : World) (hs : s.size ≤ 1048576) (h : 1 ≤ s.size) (hd : ∀ c ∈ s.data.toList, Plain.dig c = true) :
    Calls Tryd.prog 12 #[.string s] w fun e w' => e = .returned (.tuple #[.int .i64 (Plain.pwN s.data.toList), .bool (Plain.pwB s.data.toList)]) ∧ Below w.heap.size w w' := by
  have h0 : ((s.size : Int) == 0) = false := beqf (by omega)
  have hC := countNon_any s w hs
  rw [(Plain.cnt_zero s.data.toList).2 (List.all_eq_true.2 hd)] at hC
  have HC := hid hC
  have HD := hid hd
  clear hC hd
  go_enter Tryd.func12, Tryd.ntmps12
  go_wp2_with (go_at_call 15; refine HC.out.mono ?_; rintro e w' ⟨rfl, rfl⟩)
  go_loop [4] (fun i => ∃ k : Nat, k ≤ s.size ∧ i = .int .i64 k ∧ Hid (s.data.toList.take k = List.replicate k 48)) (fun i => s.size - (intOf i).toNat)
  case atStart => exact ⟨0, Nat.zero_le _, rfl, hid rfl⟩
  case round =>
    obtain ⟨k, hk, rfl, HZ⟩ := hrel
    by_cases hz : ∃ h : k < s.size, (s[k].toNat : Int) = 48
    · obtain ⟨hlt, hz⟩ := hz
      have hz' : ((s[k].toNat : Int) == 48) = true := beqt hz
      have HK : Hid (s[k].toNat = 48) := hid (by omega)
      clear hz
      go_wp2
      go_round
      case rel =>
        have e : s[k] = 48 := UInt8.toNat_inj.1 (by rw [HK.out]; rfl)
        exact ⟨k + 1, by omega, by go_num, hid (by rw [take_snoc s k hlt, HZ.out, e, List.replicate_succ'])⟩
      case measure => simp [intOf]; omega
    · -- the zeros are over: r = s[k:]
      obtain ⟨R, hR⟩ : ∃ R, s.extract k s.size = R := ⟨_, rfl⟩
      have hRl : R.data.toList = s.data.toList.drop k := by rw [← hR, ext_data]
      have hRs : R.size = s.size - k := by rw [← hR]; simp
      have HL : Hid (s.data.toList = List.replicate k 48 ++ R.data.toList) := hid (by rw [hRl, ← HZ.out, List.take_append_drop])
      have HRd : Hid (∀ c ∈ R.data.toList, Plain.dig c = true) := hid (fun c hc => HD.out c (by rw [HL.out]; exact List.mem_append_right _ hc))
      have HNZ : Hid (1 ≤ R.size → Plain.nz R.data.toList) := hid (fun h1 => by
        have hlt : k < s.size := by omega
        refine ⟨s[k], s.data.toList.drop (k + 1), ?_, fun e => hz ⟨hlt, by omega⟩⟩
        rw [hRl, List.drop_eq_getElem_cons (by simpa using hlt)]; rfl)
      have hRle : R.size ≤ 1048576 := by omega
      -- the loop's test says no
      have hg : ∀ h : k < s.size, ((s[k].toNat : Int) == 48) = false := fun h => beqf (fun e => hz ⟨h, e⟩)
      clear hRl hz HZ
      by_cases hks : k < s.size
      · have hgk := hg hks
        have hR0 : ((R.size : Int) == 0) = false := beqf (by omega)
        have hnz := HNZ.out (by omega)
        have HNZ' := hid hnz
        clear hg HNZ hnz
        by_cases h19 : 19 < R.size
        · -- more than nineteen digits
          have hi : (19 : Int) < (R.size : Int) := by omega
          clear hRs
          go_wp2
          go_ret2
          exact ⟨ret_pair ((fun q => ⟨q.1.symm, q.2.symm⟩) (Plain.ways_over _ _ k HD.out HL.out (Plain.nz_over _ HRd.out HNZ'.out h19))), Below.refl _ _⟩
        · have hi : (R.size : Int) ≤ 19 := by omega
          by_cases hov : 9223372036854775807 < Plain.val R.data.toList
          · -- nineteen digits, over the greatest
            have hl : R.size = 19 := by
              apply Classical.byContradiction
              intro hc
              have := Plain.short_in R.data.toList HRd.out (by show R.size < 19; omega)
              omega
            have hG := greater_any R ⟨#[57, 50, 50, 51, 51, 55, 50, 48, 51, 54, 56, 53, 52, 55, 55, 53, 56, 48, 55]⟩ w' hRle
            have e1 : Plain.gtL R.data.toList [57, 50, 50, 51, 51, 55, 50, 48, 51, 54, 56, 53, 52, 55, 55, 53, 56, 48, 55] = true := by
              have := Plain.nineteen R.data.toList HRd.out hl
              rw [decide_eq_true hov] at this
              exact this
            rw [e1] at hG
            have HG := hid hG
            have HOV := hid hov
            have hl19 : ((R.size : Int) == 19) = true := beqt (by omega)
            clear hG e1 hov hRs hl
            go_wp2_with (go_at_call 16; refine HG.out.mono ?_; rintro e w1 ⟨rfl, hb1⟩)
            go_ret2
            exact ⟨ret_pair ((fun q => ⟨q.1.symm, q.2.symm⟩) (Plain.ways_over _ _ k HD.out HL.out HOV.out)), hb1⟩
          · have hov' : Plain.val R.data.toList ≤ 9223372036854775807 := by omega
            have HOV := hid hov'
            by_cases hl : R.size = 19
            · have hG := greater_any R ⟨#[57, 50, 50, 51, 51, 55, 50, 48, 51, 54, 56, 53, 52, 55, 55, 53, 56, 48, 55]⟩ w' hRle
              have e1 : Plain.gtL R.data.toList [57, 50, 50, 51, 51, 55, 50, 48, 51, 54, 56, 53, 52, 55, 55, 53, 56, 48, 55] = false := by
                have := Plain.nineteen R.data.toList HRd.out hl
                rw [decide_eq_false hov] at this
                exact this
              rw [e1] at hG
              have HG := hid hG
              have hl19 : ((R.size : Int) == 19) = true := beqt (by omega)
              clear hG e1 hov hov' hRs hl
              go_wp2_with (go_at_call 16; refine HG.out.mono ?_; rintro e w1 ⟨rfl, hb1⟩)
              go_loop [6, 7] (fun v i => ∃ j x : Nat, j ≤ R.size ∧ i = .int .i64 j ∧ v = .int .i64 x ∧ Hid (Plain.val (R.data.toList.take j) = x)) (fun _ i => R.size - (intOf i).toNat)
              case atStart => exact ⟨0, 0, Nat.zero_le _, rfl, rfl, hid (by rw [List.take_zero, Plain.val_eq, Plain.valFrom_nil])⟩
              case round =>
                obtain ⟨j, x, hj, rfl, rfl, HX⟩ := hrel
                by_cases hjl : j < R.size
                · have hdc := (Plain.dig_iff R[j]).1 (HRd.out R[j] (byte_mem R j hjl))
                  have hle := Plain.val_take_le R.data.toList (j + 1)
                  have hsn : Plain.val (R.data.toList.take (j + 1)) = x * 10 + (R[j].toNat - 48) := by rw [take_snoc R j hjl, Plain.val_snoc, HX.out]
                  have hbd : x * 10 + (R[j].toNat - 48) ≤ 9223372036854775807 := by have := HOV.out; omega
                  obtain ⟨y, hy⟩ : ∃ y, y = R[j].toNat - 48 := ⟨_, rfl⟩
                  rw [← hy] at hbd hsn
                  have HV := hid (fun wx => digitValue_any R[j].toNat hdc.1 hdc.2 wx)
                  rw [← hy] at HV
                  have HSN := hid hsn
                  have b1 : (x : Int) * 10 ≤ 9223372036854775807 := by omega
                  have b2 : (x : Int) * 10 + (y : Int) ≤ 9223372036854775807 := by omega
                  clear hdc hle hsn hy hbd
                  go_wp2_with (go_at_call 17; refine (HV.out _).mono ?_; rintro e w2 ⟨rfl, rfl⟩)
                  go_round
                  case rel => exact ⟨j + 1, x * 10 + y, by omega, by go_num, by go_num, hid HSN.out⟩
                  case measure => simp [intOf]; omega
                · go_wp2
                  go_ret2
                  have e : R.data.toList.take j = R.data.toList := List.take_of_length_le (by show R.size ≤ j; omega)
                  have hx := HX.out
                  rw [e] at hx
                  have q := Plain.ways_in _ _ k HD.out HL.out (Plain.nz_pos _ HRd.out HNZ'.out) HOV.out
                  rw [hx] at q
                  exact ⟨ret_pair ⟨q.1.symm, q.2.symm⟩, hb1⟩
            · have hl19 : ((R.size : Int) == 19) = false := beqf (by omega)
              have hb1 : Below w'.heap.size w' w' := Below.refl _ _
              clear hov hov' hRs
              go_wp2
              go_loop [6, 7] (fun v i => ∃ j x : Nat, j ≤ R.size ∧ i = .int .i64 j ∧ v = .int .i64 x ∧ Hid (Plain.val (R.data.toList.take j) = x)) (fun _ i => R.size - (intOf i).toNat)
              case atStart => exact ⟨0, 0, Nat.zero_le _, rfl, rfl, hid (by rw [List.take_zero, Plain.val_eq, Plain.valFrom_nil])⟩
              case round =>
                obtain ⟨j, x, hj, rfl, rfl, HX⟩ := hrel
                by_cases hjl : j < R.size
                · have hdc := (Plain.dig_iff R[j]).1 (HRd.out R[j] (byte_mem R j hjl))
                  have hle := Plain.val_take_le R.data.toList (j + 1)
                  have hsn : Plain.val (R.data.toList.take (j + 1)) = x * 10 + (R[j].toNat - 48) := by rw [take_snoc R j hjl, Plain.val_snoc, HX.out]
                  have hbd : x * 10 + (R[j].toNat - 48) ≤ 9223372036854775807 := by have := HOV.out; omega
                  obtain ⟨y, hy⟩ : ∃ y, y = R[j].toNat - 48 := ⟨_, rfl⟩
                  rw [← hy] at hbd hsn
                  have HV := hid (fun wx => digitValue_any R[j].toNat hdc.1 hdc.2 wx)
                  rw [← hy] at HV
                  have HSN := hid hsn
                  have b1 : (x : Int) * 10 ≤ 9223372036854775807 := by omega
                  have b2 : (x : Int) * 10 + (y : Int) ≤ 9223372036854775807 := by omega
                  clear hdc hle hsn hy hbd
                  go_wp2_with (go_at_call 17; refine (HV.out _).mono ?_; rintro e w2 ⟨rfl, rfl⟩)
                  go_round
                  case rel => exact ⟨j + 1, x * 10 + y, by omega, by go_num, by go_num, hid HSN.out⟩
                  case measure => simp [intOf]; omega
                · go_wp2
                  go_ret2
                  have e : R.data.toList.take j = R.data.toList := List.take_of_length_le (by show R.size ≤ j; omega)
                  have hx := HX.out
                  rw [e] at hx
                  have q := Plain.ways_in _ _ k HD.out HL.out (Plain.nz_pos _ HRd.out HNZ'.out) HOV.out
                  rw [hx] at q
                  exact ⟨ret_pair ⟨q.1.symm, q.2.symm⟩, hb1⟩
      · have hR0 : ((R.size : Int) == 0) = true := beqt (by omega)
        have HE : Hid (s.data.toList = List.replicate k 48) := hid (by
          have e : R.data.toList = [] := List.length_eq_zero_iff.1 (show R.size = 0 by omega)
          rw [HL.out, e, List.append_nil])
        clear hg hRs HNZ
        go_wp2
        go_ret2
        have q := Plain.ways_zero _ k HE.out
        exact ⟨ret_pair ⟨q.1.symm, q.2.symm⟩, Below.refl _ _⟩

theorem model_any (s : ByteArray) (w : World) (hs : s.size ≤ 1048576) :
    Calls Tryd.prog 12 #[.string s] w fun e w' => e = .returned (.tuple #[.int .i64 (Plain.pwN s.data.toList), .bool (Plain.pwB s.data.toList)]) ∧ Below w.heap.size w w' := by
  by_cases h0 : s.size = 0
  · have e : s.data.toList = [] := List.length_eq_zero_iff.1 h0
    rw [e, Plain.pw_empty.1, Plain.pw_empty.2]
    exact model_empty s w h0
  · by_cases hc : Plain.cnt s.data.toList = 0
    · exact model_digits s w hs (by omega) (List.all_eq_true.1 ((Plain.cnt_zero _).1 hc))
    · have hb : s.data.toList.all Plain.dig = false := by
        cases h : s.data.toList.all Plain.dig
        · rfl
        · exact absurd ((Plain.cnt_zero _).2 h) hc
      rw [(Plain.pw_bad _ hb).1, (Plain.pw_bad _ hb).2]
      exact model_bad s w hs (by omega) hc
end Go.Proofs.Qxb6603192aDoor
