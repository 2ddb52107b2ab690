/-
  Seat b6603296aD: THE WALK of decodeJSONStringB1.
-/
import Derived.Test.Qxb6603296aDoorWalkE
namespace Go.Proofs.Qxb6603296aDoor
open Go.RowKit
open Go.Lib (byteCells)

theorem q_split (l : List UInt8) (k : Nat) (h : k < l.length) : Plain.quoted l = (34 :: Plain.escs (l.take k)) ++ (Plain.esc l[k] ++ (Plain.escs (l.drop (k + 1)) ++ [34])) := by
  have e : l = l.take k ++ ([l[k]] ++ l.drop (k + 1)) := by
    rw [List.singleton_append, ← List.drop_eq_getElem_cons h, List.take_append_drop]
  have e2 : Plain.escs l = Plain.escs (l.take k) ++ (Plain.esc l[k] ++ Plain.escs (l.drop (k + 1))) := by
    conv => lhs; rw [e]
    rw [Plain.escs_append, Plain.escs_append, Plain.escs_one]
  rw [Plain.quoted, e2]
  simp
theorem q_at (l : List UInt8) (k j : Nat) (h : k < l.length) (hj : j < (Plain.esc l[k]).length) : (Plain.quoted l)[1 + (Plain.escs (l.take k)).length + j]? = (Plain.esc l[k])[j]? := by
  rw [q_split l k h, List.getElem?_append_right (by simp; omega)]
  rw [show 1 + (Plain.escs (l.take k)).length + j - (34 :: Plain.escs (l.take k)).length = j by simp; omega]
  rw [List.getElem?_append_left hj]
theorem q_room (l : List UInt8) (k : Nat) (h : k < l.length) : 1 + (Plain.escs (l.take k)).length + (Plain.esc l[k]).length < (Plain.quoted l).length := by
  rw [q_split l k h]
  simp
  omega
theorem q_end (l : List UInt8) : (Plain.quoted l)[1 + (Plain.escs l).length]? = some 34 := by
  unfold Plain.quoted
  rw [List.getElem?_append_right (by simp; omega)]
  rw [show 1 + (Plain.escs l).length - (34 :: Plain.escs l).length = 0 by simp; omega]
  rfl
theorem q_size (l : List UInt8) : (Plain.quoted l).length = 1 + (Plain.escs l).length + 1 := by
  simp [Plain.quoted]; omega
theorem q_next (l : List UInt8) (k : Nat) (h : k < l.length) : (Plain.escs (l.take (k + 1))).length = (Plain.escs (l.take k)).length + (Plain.esc l[k]).length := by
  rw [List.take_succ_eq_append_getElem h, Plain.escs_append, Plain.escs_one, List.length_append]
theorem of_nat {c d : UInt8} (h : c.toNat = d.toNat) : c = d := UInt8.toNat_inj.1 h

theorem ret_tri {v : Value} {k : IntKind} {p q : Nat} {b : Bool} (h : q = p) : Ending.returned (.tuple #[v, .int k (p : Int), .bool b]) = .returned (.tuple #[v, .int k (q : Int), .bool b]) := by rw [h]

set_option maxHeartbeats 8000000 in
set_option maxRecDepth 100000 in
theorem json_some (g off cap a n : Nat) (l : List UInt8) (w : World) (hn : a + (Plain.quoted l).length ≤ n) (hl : n ≤ 67108864) (hll : l.length ≤ 67108864) (hgw : g < w.heap.size) (hc : ∀ j b, (Plain.quoted l)[j]? = some b → w.cell? ⟨g, off + (a + j), none⟩ = some (.int .u8 b.toNat)) :
    Calls Tryd.prog 11 #[.slice (some ⟨g, off, none⟩) n cap, .int .i64 a] w fun e w' => ∃ v', e = .returned (.tuple #[v', .int .i64 (a + (Plain.quoted l).length : Nat), .bool true]) ∧ w'.ownsRow w.heap.size 5 1 v' l.length (byteCells l) ∧ Below w.heap.size w w' := by
  obtain ⟨i0, hi, hz0, hz1, hz2⟩ := info_parts Tryd.info5
  have c0 : w.cell? ⟨g, off + a, none⟩ = some (.int .u8 34) := hc 0 34 rfl
  have hqs := q_size l
  have e4 : (a : Int) < (n : Int) := by omega
  have hni : (n : Int) ≤ 67108864 := by omega
  have hna : ¬ n ≤ a := by omega
  have h0 : St w.heap.size 0 [] (w.alloc (.cells #[] 5)) (w.alloc (.cells #[] 5)) (.slice (some ⟨w.heap.size, 0, none⟩) 0 0) [] := St.start (World.ownsRow_made w #[] 0 (Nat.le_refl _) (Nat.zero_le _) rfl) (by simp)
  have hb0 : Below w.heap.size w (w.alloc (.cells #[] 5)) := (Below.refl _ _).alloc (Nat.le_refl _) _
  have HCW : Hid (∀ wr, Below w.heap.size (w.alloc (.cells #[] 5)) wr → ∀ j b, (Plain.quoted l)[j]? = some b → wr.cell? ⟨g, off + (a + j), none⟩ = some (.int .u8 b.toNat)) := hid (fun wr hb j b hj => ((hb0.trans hb).cell (by exact hgw)).trans (hc j b hj))
  have H0 := hid h0
  have HB0 := hid hb0
  have HN := hid hn
  have HQ := hid hqs
  clear h0 hb0 hn hqs hc
  go_enter Tryd.func11, Tryd.ntmps11
  go_wp2
  go_loopw [1, 7, 8, 9, 10, 11, 12, 13] (fun i out _ _ _ _ _ _ wr => ∃ (k p : Nat), k ≤ l.length ∧ Hid (p = a + (1 + (Plain.escs (l.take k)).length)) ∧ p < n ∧ i = .int .i64 p ∧ Hid (St w.heap.size 0 [] (w.alloc (.cells #[] 5)) wr out (l.take k))) (fun i _ _ _ _ _ _ _ _ => n - (intOf i).toNat)
  case atStart =>
    refine ⟨0, a + 1, Nat.zero_le _, hid (by simp [Plain.escs]), ?_, by go_num, hid H0.out⟩
    have := HN.out
    have := HQ.out
    omega
  case round =>
    obtain ⟨k, p, hk, HP, hpn, rfl, HS⟩ := hrel
    have x1 : (p : Int) < (n : Int) := by omega
    by_cases hlt : k < l.length
    · have hat : Hid (∀ j b, (Plain.esc l[k])[j]? = some b → wr.cell? ⟨g, off + (p + j), none⟩ = some (.int .u8 b.toNat)) := hid (fun j b hj => by
        have hjl : j < (Plain.esc l[k]).length := (List.getElem?_eq_some_iff.1 hj).1
        have := HCW.out wr HS.out.below (1 + (Plain.escs (l.take k)).length + j) b (by rw [q_at l k j hlt hjl]; exact hj)
        rw [HP.out]
        rw [show a + (1 + (Plain.escs (l.take k)).length) + j = a + (1 + (Plain.escs (l.take k)).length + j) by omega]
        exact this)
      have hroom : p + (Plain.esc l[k]).length < n := by
        have := q_room l k hlt
        have := HN.out
        have := HP.out
        omega
      have hnext : Hid (∀ m, (Plain.esc l[k]).length = m → p + m = a + (1 + (Plain.escs (l.take (k + 1))).length)) := hid (fun m hm => by
        have := q_next l k hlt
        have := HP.out
        omega)
      have tk : Hid (l.take (k + 1) = l.take k ++ [l[k]]) := hid (List.take_succ_eq_append_getElem hlt)
      have bK : 0 + (l.take k).length + 1 ≤ 100000000 := by have := List.length_take_le k l; omega
      obtain ⟨c, hcc⟩ : ∃ c, c = l[k] := ⟨_, rfl⟩
      rw [← hcc] at hat hroom hnext tk
      clear hcc
      have c255 : c.toNat ≤ 255 := by have := c.toNat_lt; omega
      by_cases hpl : Plain.plain c
      · -- a plain byte
        have hel : (Plain.esc c).length = 1 := by rw [Plain.esc_plain hpl]; rfl
        have c1 : wr.cell? ⟨g, off + p, none⟩ = some (.int .u8 c.toNat) := hat.out 0 c (by rw [Plain.esc_plain hpl]; rfl)
        have p1 : (32 : Int) ≤ (c.toNat : Int) := by have := hpl.1; omega
        have p2 : ((c.toNat : Int) == 34) = false := beqf (by have := hpl.2.1; omega)
        have p3 : ((c.toNat : Int) != 92) = true := bnet (by have := hpl.2.2; omega)
        have hp2 : p + 1 < n := by omega
        have HEL := hid hel
        clear hpl hel c255 hroom
        go_wp2_with (at_builtin; refine wpList_append_own _ rfl (.tmp 45) (.tmp 47) 22 rfl w.heap.size 5 i0 (.int .u8 0) 1 1 Tryd.underlying22 hi hz0 hz1 hz2 rfl (by decide) _ _ _ rfl (HS.out.own.alloc _) ⟨wr.heap.size, 0, none⟩ 1 1 [.int .u8 c.toNat] rfl rfl (news_block wr #[.int .u8 c.toNat] _) (by intro u hu; simp at hu; subst hu; rfl) (by unfold maxLen; omega) (by omega) (by have := HS.out.room; simp; omega) ?_; intro v3 w3 ho3 hg3 _; have h3 := HS.out.more _ [c] ho3 hg3 rfl rfl; clear ho3 hg3)
        go_roundw
        case rel => exact ⟨k + 1, p + 1, by omega, hid (hnext.out 1 HEL.out), by omega, by go_num, hid (by rw [tk.out]; exact h3)⟩
        case measure => simp [intOf]; omega
      by_cases e34 : c.toNat = 34
      · have hce : c = 34 := of_nat e34
        subst hce
        have he : Plain.esc 34 = [92, 34] := by decide
        rw [he] at hat hroom hnext
        have c1 : wr.cell? ⟨g, off + p, none⟩ = some (.int .u8 92) := hat.out 0 92 rfl
        have c2 : wr.cell? ⟨g, off + (p + 1), none⟩ = some (.int .u8 34) := hat.out 1 34 rfl
        have hp2 : p + 2 < n := hroom
        have x2 : (p : Int) + 1 < (n : Int) := by omega
        have x3 : ((p : Int) + 1).toNat = p + 1 := by omega
        clear hpl c255 hroom he e34
        go_wp2_with (at_builtin; refine wpList_append_own _ rfl (.tmp 63) (.tmp 64) 22 rfl w.heap.size 5 i0 (.int .u8 0) 1 1 Tryd.underlying22 hi hz0 hz1 hz2 rfl (by decide) _ _ _ rfl (HS.out.own.alloc _) ⟨wr.heap.size, 0, none⟩ 1 1 [.int .u8 34] rfl rfl (news_block wr #[.int .u8 34] _) (by intro u hu; simp at hu; subst hu; rfl) (by unfold maxLen; omega) (by omega) (by have := HS.out.room; simp; omega) ?_; intro v3 w3 ho3 hg3 _; have h3 := HS.out.more _ [34] ho3 hg3 rfl rfl; clear ho3 hg3)
        go_roundw
        case rel => exact ⟨k + 1, p + 2, by omega, hid (hnext.out 2 rfl), by omega, by go_num, hid (by rw [tk.out]; exact h3)⟩
        case measure => simp [intOf]; omega
      by_cases e92 : c.toNat = 92
      · have hce : c = 92 := of_nat e92
        subst hce
        have he : Plain.esc 92 = [92, 92] := by decide
        rw [he] at hat hroom hnext
        have c1 : wr.cell? ⟨g, off + p, none⟩ = some (.int .u8 92) := hat.out 0 92 rfl
        have c2 : wr.cell? ⟨g, off + (p + 1), none⟩ = some (.int .u8 92) := hat.out 1 92 rfl
        have hp2 : p + 2 < n := hroom
        have x2 : (p : Int) + 1 < (n : Int) := by omega
        have x3 : ((p : Int) + 1).toNat = p + 1 := by omega
        clear hpl c255 hroom he e92 e34
        go_wp2_with (at_builtin; refine wpList_append_own _ rfl (.tmp 70) (.tmp 71) 22 rfl w.heap.size 5 i0 (.int .u8 0) 1 1 Tryd.underlying22 hi hz0 hz1 hz2 rfl (by decide) _ _ _ rfl (HS.out.own.alloc _) ⟨wr.heap.size, 0, none⟩ 1 1 [.int .u8 92] rfl rfl (news_block wr #[.int .u8 92] _) (by intro u hu; simp at hu; subst hu; rfl) (by unfold maxLen; omega) (by omega) (by have := HS.out.room; simp; omega) ?_; intro v3 w3 ho3 hg3 _; have h3 := HS.out.more _ [92] ho3 hg3 rfl rfl; clear ho3 hg3)
        go_roundw
        case rel => exact ⟨k + 1, p + 2, by omega, hid (hnext.out 2 rfl), by omega, by go_num, hid (by rw [tk.out]; exact h3)⟩
        case measure => simp [intOf]; omega
      by_cases e8 : c.toNat = 8
      · have hce : c = 8 := of_nat e8
        subst hce
        have he : Plain.esc 8 = [92, 98] := by decide
        rw [he] at hat hroom hnext
        have c1 : wr.cell? ⟨g, off + p, none⟩ = some (.int .u8 92) := hat.out 0 92 rfl
        have c2 : wr.cell? ⟨g, off + (p + 1), none⟩ = some (.int .u8 98) := hat.out 1 98 rfl
        have hp2 : p + 2 < n := hroom
        have x2 : (p : Int) + 1 < (n : Int) := by omega
        have x3 : ((p : Int) + 1).toNat = p + 1 := by omega
        clear hpl c255 hroom he e8 e34 e92
        go_wp2_with (at_builtin; refine wpList_append_own _ rfl (.tmp 77) (.tmp 78) 22 rfl w.heap.size 5 i0 (.int .u8 0) 1 1 Tryd.underlying22 hi hz0 hz1 hz2 rfl (by decide) _ _ _ rfl (HS.out.own.alloc _) ⟨wr.heap.size, 0, none⟩ 1 1 [.int .u8 8] rfl rfl (news_block wr #[.int .u8 8] _) (by intro u hu; simp at hu; subst hu; rfl) (by unfold maxLen; omega) (by omega) (by have := HS.out.room; simp; omega) ?_; intro v3 w3 ho3 hg3 _; have h3 := HS.out.more _ [8] ho3 hg3 rfl rfl; clear ho3 hg3)
        go_roundw
        case rel => exact ⟨k + 1, p + 2, by omega, hid (hnext.out 2 rfl), by omega, by go_num, hid (by rw [tk.out]; exact h3)⟩
        case measure => simp [intOf]; omega
      by_cases e12 : c.toNat = 12
      · have hce : c = 12 := of_nat e12
        subst hce
        have he : Plain.esc 12 = [92, 102] := by decide
        rw [he] at hat hroom hnext
        have c1 : wr.cell? ⟨g, off + p, none⟩ = some (.int .u8 92) := hat.out 0 92 rfl
        have c2 : wr.cell? ⟨g, off + (p + 1), none⟩ = some (.int .u8 102) := hat.out 1 102 rfl
        have hp2 : p + 2 < n := hroom
        have x2 : (p : Int) + 1 < (n : Int) := by omega
        have x3 : ((p : Int) + 1).toNat = p + 1 := by omega
        clear hpl c255 hroom he e12 e34 e92 e8
        go_wp2_with (at_builtin; refine wpList_append_own _ rfl (.tmp 84) (.tmp 85) 22 rfl w.heap.size 5 i0 (.int .u8 0) 1 1 Tryd.underlying22 hi hz0 hz1 hz2 rfl (by decide) _ _ _ rfl (HS.out.own.alloc _) ⟨wr.heap.size, 0, none⟩ 1 1 [.int .u8 12] rfl rfl (news_block wr #[.int .u8 12] _) (by intro u hu; simp at hu; subst hu; rfl) (by unfold maxLen; omega) (by omega) (by have := HS.out.room; simp; omega) ?_; intro v3 w3 ho3 hg3 _; have h3 := HS.out.more _ [12] ho3 hg3 rfl rfl; clear ho3 hg3)
        go_roundw
        case rel => exact ⟨k + 1, p + 2, by omega, hid (hnext.out 2 rfl), by omega, by go_num, hid (by rw [tk.out]; exact h3)⟩
        case measure => simp [intOf]; omega
      by_cases e10 : c.toNat = 10
      · have hce : c = 10 := of_nat e10
        subst hce
        have he : Plain.esc 10 = [92, 110] := by decide
        rw [he] at hat hroom hnext
        have c1 : wr.cell? ⟨g, off + p, none⟩ = some (.int .u8 92) := hat.out 0 92 rfl
        have c2 : wr.cell? ⟨g, off + (p + 1), none⟩ = some (.int .u8 110) := hat.out 1 110 rfl
        have hp2 : p + 2 < n := hroom
        have x2 : (p : Int) + 1 < (n : Int) := by omega
        have x3 : ((p : Int) + 1).toNat = p + 1 := by omega
        clear hpl c255 hroom he e10 e34 e92 e8 e12
        go_wp2_with (at_builtin; refine wpList_append_own _ rfl (.tmp 91) (.tmp 92) 22 rfl w.heap.size 5 i0 (.int .u8 0) 1 1 Tryd.underlying22 hi hz0 hz1 hz2 rfl (by decide) _ _ _ rfl (HS.out.own.alloc _) ⟨wr.heap.size, 0, none⟩ 1 1 [.int .u8 10] rfl rfl (news_block wr #[.int .u8 10] _) (by intro u hu; simp at hu; subst hu; rfl) (by unfold maxLen; omega) (by omega) (by have := HS.out.room; simp; omega) ?_; intro v3 w3 ho3 hg3 _; have h3 := HS.out.more _ [10] ho3 hg3 rfl rfl; clear ho3 hg3)
        go_roundw
        case rel => exact ⟨k + 1, p + 2, by omega, hid (hnext.out 2 rfl), by omega, by go_num, hid (by rw [tk.out]; exact h3)⟩
        case measure => simp [intOf]; omega
      by_cases e13 : c.toNat = 13
      · have hce : c = 13 := of_nat e13
        subst hce
        have he : Plain.esc 13 = [92, 114] := by decide
        rw [he] at hat hroom hnext
        have c1 : wr.cell? ⟨g, off + p, none⟩ = some (.int .u8 92) := hat.out 0 92 rfl
        have c2 : wr.cell? ⟨g, off + (p + 1), none⟩ = some (.int .u8 114) := hat.out 1 114 rfl
        have hp2 : p + 2 < n := hroom
        have x2 : (p : Int) + 1 < (n : Int) := by omega
        have x3 : ((p : Int) + 1).toNat = p + 1 := by omega
        clear hpl c255 hroom he e13 e34 e92 e8 e12 e10
        go_wp2_with (at_builtin; refine wpList_append_own _ rfl (.tmp 98) (.tmp 99) 22 rfl w.heap.size 5 i0 (.int .u8 0) 1 1 Tryd.underlying22 hi hz0 hz1 hz2 rfl (by decide) _ _ _ rfl (HS.out.own.alloc _) ⟨wr.heap.size, 0, none⟩ 1 1 [.int .u8 13] rfl rfl (news_block wr #[.int .u8 13] _) (by intro u hu; simp at hu; subst hu; rfl) (by unfold maxLen; omega) (by omega) (by have := HS.out.room; simp; omega) ?_; intro v3 w3 ho3 hg3 _; have h3 := HS.out.more _ [13] ho3 hg3 rfl rfl; clear ho3 hg3)
        go_roundw
        case rel => exact ⟨k + 1, p + 2, by omega, hid (hnext.out 2 rfl), by omega, by go_num, hid (by rw [tk.out]; exact h3)⟩
        case measure => simp [intOf]; omega
      by_cases e9 : c.toNat = 9
      · have hce : c = 9 := of_nat e9
        subst hce
        have he : Plain.esc 9 = [92, 116] := by decide
        rw [he] at hat hroom hnext
        have c1 : wr.cell? ⟨g, off + p, none⟩ = some (.int .u8 92) := hat.out 0 92 rfl
        have c2 : wr.cell? ⟨g, off + (p + 1), none⟩ = some (.int .u8 116) := hat.out 1 116 rfl
        have hp2 : p + 2 < n := hroom
        have x2 : (p : Int) + 1 < (n : Int) := by omega
        have x3 : ((p : Int) + 1).toNat = p + 1 := by omega
        clear hpl c255 hroom he e9 e34 e92 e8 e12 e10 e13
        go_wp2_with (at_builtin; refine wpList_append_own _ rfl (.tmp 105) (.tmp 106) 22 rfl w.heap.size 5 i0 (.int .u8 0) 1 1 Tryd.underlying22 hi hz0 hz1 hz2 rfl (by decide) _ _ _ rfl (HS.out.own.alloc _) ⟨wr.heap.size, 0, none⟩ 1 1 [.int .u8 9] rfl rfl (news_block wr #[.int .u8 9] _) (by intro u hu; simp at hu; subst hu; rfl) (by unfold maxLen; omega) (by omega) (by have := HS.out.room; simp; omega) ?_; intro v3 w3 ho3 hg3 _; have h3 := HS.out.more _ [9] ho3 hg3 rfl rfl; clear ho3 hg3)
        go_roundw
        case rel => exact ⟨k + 1, p + 2, by omega, hid (hnext.out 2 rfl), by omega, by go_num, hid (by rw [tk.out]; exact h3)⟩
        case measure => simp [intOf]; omega
      -- the six bytes of a control byte
      have hc32 : c.toNat < 32 := by
        apply Classical.byContradiction
        intro hge
        exact hpl ⟨by omega, e34, e92⟩
      have he := Plain.esc_hex hc32 e8 e12 e10 e13 e9
      obtain ⟨H, hH⟩ : ∃ H : Nat, H = c.toNat / 16 := ⟨_, rfl⟩
      obtain ⟨L, hL⟩ : ∃ L : Nat, L = c.toNat % 16 := ⟨_, rfl⟩
      rw [← hH, ← hL] at he
      have hv : (H : Int) * 16 + (L : Int) = (c.toNat : Int) := by omega
      have g5 : H < 16 := by omega
      have g6 : L < 16 := by omega
      have g3 : (H : Int) < 16 := by omega
      have g4 : (L : Int) < 16 := by omega
      obtain ⟨C, hC⟩ : ∃ C : Nat, C = c.toNat := ⟨_, rfl⟩
      have hv2 : (H : Int) * 16 + (L : Int) = (C : Int) := by omega
      have v32 : (C : Int) < 32 := by omega
      have v8 : ((C : Int) == 8) = false := beqf (by omega)
      have v9 : ((C : Int) == 9) = false := beqf (by omega)
      have v10 : ((C : Int) == 10) = false := beqf (by omega)
      have v12 : ((C : Int) == 12) = false := beqf (by omega)
      have v13 : ((C : Int) == 13) = false := beqf (by omega)
      obtain ⟨xH, hxH⟩ : ∃ x : Nat, x = (Plain.hexd H).toNat := ⟨_, rfl⟩
      obtain ⟨xL, hxL⟩ : ∃ x : Nat, x = (Plain.hexd L).toNat := ⟨_, rfl⟩
      have kH : Hid (∀ wy, Calls Tryd.prog 28 #[.int .u8 (xH : Int)] wy fun e w' => e = .returned (.tuple #[.int .i64 H, .bool true]) ∧ w' = wy) := hid (fun wy => by rw [hxH]; exact hex_any H g5 wy)
      have kL : Hid (∀ wy, Calls Tryd.prog 28 #[.int .u8 (xL : Int)] wy fun e w' => e = .returned (.tuple #[.int .i64 L, .bool true]) ∧ w' = wy) := hid (fun wy => by rw [hxL]; exact hex_any L g6 wy)
      rw [he] at hat hroom hnext
      have c1 : wr.cell? ⟨g, off + p, none⟩ = some (.int .u8 92) := hat.out 0 92 rfl
      have c2 : wr.cell? ⟨g, off + (p + 1), none⟩ = some (.int .u8 117) := hat.out 1 117 rfl
      have c3 : wr.cell? ⟨g, off + (p + 2), none⟩ = some (.int .u8 48) := hat.out 2 48 rfl
      have c4 : wr.cell? ⟨g, off + (p + 3), none⟩ = some (.int .u8 48) := hat.out 3 48 rfl
      have c5 : wr.cell? ⟨g, off + (p + 4), none⟩ = some (.int .u8 (xH : Int)) := by rw [hxH]; exact hat.out 4 _ rfl
      have c6 : wr.cell? ⟨g, off + (p + 5), none⟩ = some (.int .u8 (xL : Int)) := by rw [hxL]; exact hat.out 5 _ rfl
      have hp2 : p + 6 < n := hroom
      have x2 : (p : Int) + 1 < (n : Int) := by omega
      have x22 : (p : Int) + 2 < (n : Int) := by omega
      have x23 : (p : Int) + 3 < (n : Int) := by omega
      have x24 : (p : Int) + 4 < (n : Int) := by omega
      have x25 : (p : Int) + 5 < (n : Int) := by omega
      have x3 : ((p : Int) + 1).toNat = p + 1 := by omega
      have x4 : ((p : Int) + 2).toNat = p + 2 := by omega
      have x5 : ((p : Int) + 3).toNat = p + 3 := by omega
      have x6 : ((p : Int) + 4).toNat = p + 4 := by omega
      have x7 : ((p : Int) + 5).toNat = p + 5 := by omega
      have HVV := hid hC
      clear hpl c255 hroom he e34 e92 e8 e12 e10 e13 e9 hc32 hH hL hv hC hxH hxL
      have bK1 : 0 + (l.take k).length + 1 ≤ maxLen := by unfold maxLen; omega
      have B1 := hid bK1
      clear bK1
      go_wp2_with (go_at_call 28; refine (kH.out _).mono ?_; rintro e wx ⟨rfl, hwx⟩; obtain rfl : wr = wx := hwx.symm; refine Hid.out ?_)
      refine hid ?_
      go_wp2_with (go_at_call 28; refine (kL.out _).mono ?_; rintro e wx ⟨rfl, hwx⟩; obtain rfl : wr = wx := hwx.symm; refine Hid.out ?_)
      refine hid ?_
      clear c1 c2 c3 c4 c5 c6 x3 x4 x5 x6 x7 x22 x23 x24 x25 x2 kH kL c0
      go_wp2_with (at_builtin; refine wpList_append_own _ rfl (.tmp 183) (.tmp 186) 22 rfl w.heap.size 5 i0 (.int .u8 0) 1 1 Tryd.underlying22 hi hz0 hz1 hz2 rfl (by decide) _ _ _ rfl (HS.out.own.alloc _) ⟨wr.heap.size, 0, none⟩ 1 1 [.int .u8 (C : Int)] rfl rfl (news_block wr #[.int .u8 (C : Int)] _) (by intro u hu; simp at hu; subst hu; rfl) B1.out (by omega) (by have := HS.out.room; simp; omega) ?_; intro v3 w3 ho3 hg3 _; have h3 := HS.out.more _ [c] ho3 hg3 rfl (by rw [HVV.out]; rfl); clear ho3 hg3)
      go_roundw
      case rel => exact ⟨k + 1, p + 6, by omega, hid (hnext.out 6 rfl), by omega, by go_num, hid (by rw [tk.out]; exact h3)⟩
      case measure => simp [intOf]; omega
    · -- the closing quotation mark
      have hkl : k = l.length := by omega
      have htk : l.take k = l := by rw [hkl]; exact List.take_of_length_le (Nat.le_refl _)
      rw [htk] at HP HS
      have c1 : wr.cell? ⟨g, off + p, none⟩ = some (.int .u8 34) := by rw [HP.out]; exact HCW.out wr HS.out.below _ _ (q_end l)
      have hend : Hid (p + 1 = a + (Plain.quoted l).length) := hid (by have := HP.out; have := HQ.out; omega)
      clear hkl htk hlt
      go_wp2
      go_ret3
      refine ⟨_, ret_tri hend.out.symm, ?_, HB0.out.trans HS.out.below⟩
      have := HS.out.own
      rwa [Nat.zero_add, List.nil_append] at this
end Go.Proofs.Qxb6603296aDoor
