/-
  Seat b6603296aD: THE WALK of FnAppendMemberJSONDecodesBack.
-/
import Derived.Test.Qxb6603296aDoorWalkD
import Derived.Test.Qxb6603296aDoorWalkT
import Derived.Test.Qxb6603296aDoorWalkF
import Derived.Test.Qxb6603296aDoorWalkG
namespace Go.Proofs.Qxb6603296aDoor
open Go.RowKit
open Go.Lib (byteCells)

/-- cloneBytesB1 once more: what comes back has no spare room. -/
theorem clone_full (v : Value) (X : List UInt8) (w : World) (hX : X.length ≤ 67108864) (h : Reads w v X) :
    Calls Tryd.prog 8 #[v] w fun e w' => ∃ a, e = .returned (.slice a X.length X.length) ∧ w'.ownsRow w.heap.size 5 1 (.slice a X.length X.length) X.length (byteCells X) ∧ Below w.heap.size w w' := by
  rcases h with ⟨a, cap, rfl, rfl⟩ | ⟨b, off, cap, rfl, hc⟩
  · cases a with
    | none =>
      refine (clone_nil cap w).mono ?_
      rintro e w' ⟨rfl, rfl⟩
      exact ⟨none, rfl, World.ownsRow_nil _ _ _ _, Below.refl _ _⟩
    | some x =>
      refine (clone_zero x cap w).mono ?_
      rintro e w' ⟨rfl, ho, hb⟩
      exact ⟨_, rfl, ho, hb⟩
  · refine (clone_some b off cap X w ?_ hX hc).mono ?_
    · by_cases e : X = []
      · exact .inr e
      · refine .inl ?_
        have h0 : 0 < X.length := by
          rcases Nat.eq_zero_or_pos X.length with h | h
          · exact absurd (List.length_eq_zero_iff.1 h) e
          · exact h
        exact World.block_lt_of_cell? w _ (hc 0 h0)
    · rintro e w' ⟨rfl, ho, hb⟩
      exact ⟨_, rfl, ho, hb⟩
/-- Where the append may begin: at a clone. -/
theorem start_of {w : World} {B : Nat} {a : Option Addr} {n : Nat} {xs : List Value} (h : w.ownsRow B 5 1 (.slice a n n) n xs) : Start w.heap.size n (.slice a n n) xs w := by
  refine ⟨Nat.le_refl _, ?_⟩
  obtain ⟨hl, ⟨hv, h0⟩ | ⟨g, cap, cur, hv, hb, hh, r⟩⟩ := id h
  · exact .inl ⟨hl, .inl ⟨hv, h0⟩⟩
  · injection hv with h1 h2 h3
    subst h1
    refine .inr ⟨by simpa using hl, g, 0, rfl, fun j u hu => ?_⟩
    have := h.cells (g := g) rfl j u hu
    rwa [WideShapes.add_plain] at this
theorem list_at (P M Q : List UInt8) (j : Nat) (b : UInt8) (h : M[j]? = some b) : (P ++ (M ++ Q))[P.length + j]? = some b := by
  rw [List.getElem?_append_right (by omega), Nat.add_sub_cancel_left, List.getElem?_append_left (List.getElem?_eq_some_iff.1 h).1]
  exact h
theorem cell_at {w : World} {B g n cap : Nat} {L : List UInt8} (h : w.ownsRow B 5 1 (.slice (some ⟨g, 0, none⟩) n cap) n (byteCells L)) (j : Nat) (b : UInt8) (hj : L[j]? = some b) : w.cell? ⟨g, j, none⟩ = some (.int .u8 b.toNat) := by
  obtain ⟨h1, h2⟩ := List.getElem?_eq_some_iff.1 hj
  rw [← h2]
  exact cells_from h j h1
theorem cells_of {w : World} {g : Nat} {X H T Q : List UInt8} (hL : ∀ j b, (X ++ (H ++ (T ++ Q)))[j]? = some b → w.cell? ⟨g, j, none⟩ = some (.int .u8 b.toNat)) (j : Nat) (b : UInt8) (hj : T[j]? = some b) : w.cell? ⟨g, X.length + (H.length + j), none⟩ = some (.int .u8 b.toNat) := by
  refine hL _ _ ?_
  rw [← List.append_assoc]
  have := list_at (X ++ H) T Q j b hj
  rwa [List.length_append, Nat.add_assoc] at this

theorem zz_posS (B n : Nat) (u : Nat) (hu : u ≤ 9223372036854775807) (name S : ByteArray) (sv : Value) (xs : List Value) (w : World) (hst : Start B n sv xs w) (hname : name.size ≤ 1048576) (hlim : n ≤ 1048576) (ht : Tb B w) :
    Calls Tryd.prog 9 #[.agg #[.string name, .int .u8 1], sv, .agg #[.int .u64 u, .string S]] w fun e w' => ∃ v', e = .returned v' ∧ St B n xs w w' v' (Plain.head name.data.toList ++ Lib.decDigits u) := by
  have h := zz_intS B n u (by omega) name S sv xs w hst hname hlim ht
  have e1 : Lib.itoa (asInt u) = Lib.decDigits u := by
    unfold asInt
    rw [if_pos hu]
    unfold Lib.itoa
    rw [if_neg (by omega)]
    simp
  rw [e1] at h
  exact h
theorem zz_negS (B n : Nat) (u : Nat) (hp : 9223372036854775808 ≤ u) (hu : u < 18446744073709551616) (M : Nat) (hM : M = 18446744073709551616 - u) (name S : ByteArray) (sv : Value) (xs : List Value) (w : World) (hst : Start B n sv xs w) (hname : name.size ≤ 1048576) (hlim : n ≤ 1048576) (ht : Tb B w) :
    Calls Tryd.prog 9 #[.agg #[.string name, .int .u8 1], sv, .agg #[.int .u64 u, .string S]] w fun e w' => ∃ v', e = .returned v' ∧ St B n xs w w' v' (Plain.head name.data.toList ++ (45 :: Lib.decDigits M)) := by
  have h := zz_intS B n u hu name S sv xs w hst hname hlim ht
  have e1 : Lib.itoa (asInt u) = 45 :: Lib.decDigits M := by
    unfold asInt
    rw [if_neg (by omega)]
    unfold Lib.itoa
    rw [if_pos (by omega), hM]
    congr 2
    omega
  rw [e1] at h
  exact h

set_option maxHeartbeats 4000000 in
set_option maxRecDepth 100000 in
theorem back_text (name S : ByteArray) (a0 : Option Addr) (cap0 : Nat) (X : List UInt8) (u : Nat) (typ : Int) (w : World) (_hu : u < 18446744073709551616) (_t0 : 0 ≤ typ) (_t255 : typ ≤ 255) (n1 : typ ≠ 1) (n2 : typ ≠ 2) (h1 : name.size ≤ 262144) (h2 : X.length ≤ 262144) (h3 : S.size ≤ 262144) (hR : Reads w (.slice a0 X.length cap0) X) (ht : Tb w.heap.size w) :
    Calls Tryd.prog 3 #[.string name, .int .u8 typ, .slice a0 X.length cap0, .int .u64 u, .string S] w fun e w' => e = .returned (.bool true) ∧ Below w.heap.size w w' := by
  have HC := hid (clone_full _ X w (by omega) hR)
  obtain ⟨n, hn⟩ : ∃ n, n = X.length := ⟨_, rfl⟩
  have HN := hid hn
  rw [← hn] at HC h2 ⊢
  have i1 : (name.size : Int) ≤ 262144 := by omega
  have i2 : (n : Int) ≤ 262144 := by omega
  have i3 : (S.size : Int) ≤ 262144 := by omega
  have HT := hid ht
  have f1 : (typ == 1) = false := beqf n1
  have f2 : (typ == 2) = false := beqf n2
  clear hR ht hn
  go_enter Tryd.func3, Tryd.ntmps3
  go_wp2_with (first
    | (go_at_call 7; go_in)
    | (go_at_call 8; refine HC.out.mono ?_; rintro e w1 ⟨v1, rfl, ho1, hb1⟩; refine Hid.out ?_))
  have HO1 := hid ho1
  have HB1 := hid hb1
  have HC2 : Hid (Calls Tryd.prog 8 #[.slice v1 n n] w1 fun e w' => ∃ a, e = .returned (.slice a n n) ∧ w'.ownsRow w1.heap.size 5 1 (.slice a n n) n (byteCells X) ∧ Below w1.heap.size w1 w') := hid (by
    have h := clone_full (.slice v1 n n) X w1 (by rw [← HN.out]; omega) (reads_own ho1)
    rw [← HN.out] at h
    exact h)
  clear ho1 hb1 HC
  refine hid ?_
  go_wp2_with (go_at_call 8; refine HC2.out.mono ?_; rintro e w2 ⟨v2, rfl, ho2, hb2⟩; refine Hid.out ?_)
  have o1 := own_kept HO1.out hb2 (.inl (Nat.le_refl _))
  have hbx := HB1.out.trans (hb2.mono HB1.out.size)
  have HZ : Hid (Calls Tryd.prog 9 #[.agg #[.string name, .int .u8 typ], .slice v1 n n, .agg #[.int .u64 u, .string S]] (w2.alloc (.cells #[.string name, .int .u8 typ] 28)) fun e w' => ∃ v', e = .returned v' ∧ St (w2.alloc (.cells #[.string name, .int .u8 typ] 28)).heap.size n (byteCells X) (w2.alloc (.cells #[.string name, .int .u8 typ] 28)) w' v' (Plain.head name.data.toList ++ Plain.quoted S.data.toList)) := hid (by
    have hbz := hbx.alloc hbx.size (.cells #[.string name, .int .u8 typ] 28)
    exact zz_textS _ n u typ n1 n2 name S _ (byteCells X) _ (start_of (o1.alloc _)) (by omega) (by omega) (by omega) (Tb.up (Tb.on HT.out hbz) hbz.size))
  have O2 := hid (ho2.alloc (.cells #[.string name, .int .u8 typ] 28))
  have BX := hid (hbx.alloc hbx.size (.cells #[.string name, .int .u8 typ] 28))
  clear o1 hbx ho2 hb2 HO1 HB1 HC2
  refine hid ?_
  go_wp2_with (go_at_call 9; refine HZ.out.mono ?_; rintro e w4 ⟨v3, rfl, h4⟩; refine Hid.out ?_)
  -- the answer's bytes
  have b4 : Below w.heap.size w w4 := BX.out.trans (h4.below.mono BX.out.size)
  have o2 := own_kept O2.out h4.below (.inl (Nat.le_refl _))
  obtain ⟨i, hi0⟩ : ∃ i, i = (Plain.quoted name.data.toList).length := ⟨_, rfl⟩
  obtain ⟨m, hm0⟩ : ∃ m, m = (Plain.head name.data.toList ++ Plain.quoted S.data.toList).length := ⟨_, rfl⟩
  have o3 := h4.own
  rw [← cells_append, ← hm0] at o3
  have hml : m = i + 1 + (Plain.quoted S.data.toList).length := by rw [hm0, hi0, List.length_append, Plain.head, List.length_append]; rfl
  have hq1 : i ≤ 6 * name.size + 2 := by rw [hi0]; exact Plain.quoted_len name.data.toList
  have hq2 : (Plain.quoted S.data.toList).length ≤ 6 * S.size + 2 := Plain.quoted_len S.data.toList
  have hq3 := q_size S.data.toList
  have hq4 : m ≤ 6000000 := by omega
  obtain ⟨g3, cap3, e3, hcap3, hmax3⟩ := own_form o3 (by omega)
  subst e3
  unfold maxLen at hmax3
  have hg3 : g3 < w4.heap.size := (o3.lt g3 rfl).2
  have hall : ∀ j b, (X ++ (Plain.head name.data.toList ++ Plain.quoted S.data.toList))[j]? = some b → w4.cell? ⟨g3, j, none⟩ = some (.int .u8 b.toNat) := fun j b hj => cell_at o3 j b hj
  have hname : ∀ j b, (Plain.quoted name.data.toList)[j]? = some b → w4.cell? ⟨g3, n + (0 + j), none⟩ = some (.int .u8 b.toNat) := fun j b hj => by
    rw [HN.out]
    exact cells_of (X := X) (H := []) (T := Plain.quoted name.data.toList) (Q := [58] ++ Plain.quoted S.data.toList) (fun j b h => hall j b (by simpa [Plain.head] using h)) j b hj
  have hcol : w4.cell? ⟨g3, n + i, none⟩ = some (.int .u8 58) := by
    have := cells_of (X := X) (H := Plain.quoted name.data.toList) (T := [58]) (Q := Plain.quoted S.data.toList) (fun j b h => hall j b (by simpa [Plain.head] using h)) 0 58 rfl
    rw [HN.out, hi0]
    exact this
  have htail : ∀ j b, (Plain.quoted S.data.toList)[j]? = some b → w4.cell? ⟨g3, n + (i + 1 + j), none⟩ = some (.int .u8 b.toNat) := fun j b hj => by
    have := cells_of (X := X) (H := Plain.head name.data.toList) (T := Plain.quoted S.data.toList) (Q := []) (fun j b h => hall j b (by simpa using h)) j b hj
    rw [HN.out, hi0]
    rw [show (Plain.head name.data.toList).length = (Plain.quoted name.data.toList).length + 1 by simp [Plain.head]] at this
    exact this
  have HQ : Hid (Calls Tryd.prog 10 #[.slice (some ⟨g3, 0, none⟩) n cap3, .slice v2 n n] w4 fun e w' => e = .returned (.bool true) ∧ ∃ q, w' = w4.drewN q) := hid (by
    have h8 := equal_any (.slice (some ⟨g3, 0, none⟩) n cap3) (.slice v2 n n) X X w4 (by rw [← HN.out]; omega) (reads_part (w := w4) o3 [] X (Plain.head name.data.toList ++ Plain.quoted S.data.toList) rfl 0 n cap3 rfl HN.out) (reads_own o2)
    rwa [decide_eq_true rfl] at h8)
  have HJ : Hid (∀ q, Calls Tryd.prog 11 #[.slice (some ⟨g3, n, none⟩) m (cap3 - n), .int .i64 0] (w4.drewN q) fun e w' => ∃ v', e = .returned (.tuple #[v', .int .i64 i, .bool true]) ∧ w'.ownsRow w4.heap.size 5 1 v' name.data.toList.length (byteCells name.data.toList) ∧ Below w4.heap.size (w4.drewN q) w') := hid (fun q => by
    have h8 := json_some g3 n (cap3 - n) 0 m name.data.toList (w4.drewN q) (by rw [← hi0]; omega) (by omega) (by show name.size ≤ _; omega) hg3 hname
    rw [← hi0, Nat.zero_add] at h8
    exact h8)
  have B4 := hid b4
  have HCOL := hid hcol
  have HTAIL := hid htail
  have HG3 := hid hg3
  have y1 : (n : Int) ≤ (cap3 : Int) := by omega
  have y2 : ¬ cap3 = n := by omega
  have y3 : (n : Int) ≤ (n : Int) + (m : Int) := by omega
  have y4 : (i : Int) < (m : Int) := by omega
  have y5 : (i : Int) + 1 < (m : Int) := by omega
  have y6 : ¬ m ≤ i := by omega
  have y7 : (i : Int) ≤ 2000000 := by omega
  have y8 : (m : Int) ≤ 6000000 := by omega
  have y9 : i + 1 < m := by omega
  have HML := hid hml
  have HI0 := hid hi0
  clear b4 o2 o3 hi0 hm0 hml hall hname hcol htail HZ O2 BX h4 hg3 hq1
  refine hid ?_
  go_wp2_with (first
    | (go_at_call 10; refine HQ.out.mono ?_; rintro e w5 ⟨rfl, q5, rfl⟩)
    | (go_at_call 11; refine (HJ.out _).mono ?_; rintro e w6 ⟨v6, rfl, ho6, hb6⟩; refine Hid.out ?_))
  have HS1 := hid (same_yes v6 name w6 (by omega) (reads_own ho6))
  have B6 : Hid (Below w.heap.size w w6) := hid ((below_drewN B4.out q5).trans (hb6.mono B4.out.size))
  have c58 : w6.cell? ⟨g3, n + i, none⟩ = some (.int .u8 58) := (hb6.cell (p := ⟨g3, n + i, none⟩) HG3.out).trans HCOL.out
  have T6 : Hid (∀ j b, (Plain.quoted S.data.toList)[j]? = some b → w6.cell? ⟨g3, n + (i + 1 + j), none⟩ = some (.int .u8 b.toNat)) := hid (fun j b hj => (hb6.cell (p := ⟨g3, n + (i + 1 + j), none⟩) HG3.out).trans (HTAIL.out j b hj))
  have G6 : Hid (g3 < w6.heap.size) := hid (Nat.lt_of_lt_of_le HG3.out hb6.size)
  clear ho6 hb6 HQ HJ HCOL HTAIL
  have HJ2 : Hid (∀ q, Calls Tryd.prog 11 #[.slice (some ⟨g3, n, none⟩) m (cap3 - n), .int .i64 ((i : Int) + 1)] (w6.drewN q) fun e w' => ∃ v', e = .returned (.tuple #[v', .int .i64 m, .bool true]) ∧ w'.ownsRow w6.heap.size 5 1 v' S.data.toList.length (byteCells S.data.toList) ∧ Below w6.heap.size (w6.drewN q) w') := hid (fun q => by
    have h8 := json_some g3 n (cap3 - n) (i + 1) m S.data.toList (w6.drewN q) (by rw [HML.out]; exact Nat.le_refl _) (by omega) (by show S.size ≤ _; omega) G6.out T6.out
    rw [← HML.out, show ((i + 1 : Nat) : Int) = (i : Int) + 1 by omega] at h8
    exact h8)
  refine hid ?_
  go_wp2_with (first
    | (go_at_call 12; refine HS1.out.mono ?_; rintro e w7 ⟨rfl, q7, rfl⟩)
    | (go_at_call 11; refine (HJ2.out _).mono ?_; rintro e w8 ⟨v8, rfl, ho8, hb8⟩; refine Hid.out ?_))
  have HS2 := hid (same_yes v8 S w8 (by omega) (reads_own ho8))
  have B8 : Hid (Below w.heap.size w w8) := hid ((below_drewN B6.out q7).trans (hb8.mono B6.out.size))
  clear ho8 hb8 HJ2 HS1 T6
  refine hid ?_
  go_wp2_with (go_at_call 12; refine HS2.out.mono ?_; rintro e w9 ⟨rfl, q9, rfl⟩)
  go_ret
  exact ⟨rfl, below_drewN B8.out _⟩

set_option maxHeartbeats 4000000 in
set_option maxRecDepth 100000 in
theorem back_uint (name S : ByteArray) (a0 : Option Addr) (cap0 : Nat) (X : List UInt8) (u : Nat) (w : World) (hu : u < 18446744073709551616) (h1 : name.size ≤ 262144) (h2 : X.length ≤ 262144) (h3 : S.size ≤ 262144) (hR : Reads w (.slice a0 X.length cap0) X) (ht : Tb w.heap.size w) :
    Calls Tryd.prog 3 #[.string name, .int .u8 2, .slice a0 X.length cap0, .int .u64 u, .string S] w fun e w' => e = .returned (.bool true) ∧ Below w.heap.size w w' := by
  have HC := hid (clone_full _ X w (by omega) hR)
  obtain ⟨n, hn⟩ : ∃ n, n = X.length := ⟨_, rfl⟩
  have HN := hid hn
  rw [← hn] at HC h2 ⊢
  have i1 : (name.size : Int) ≤ 262144 := by omega
  have i2 : (n : Int) ≤ 262144 := by omega
  have i3 : (S.size : Int) ≤ 262144 := by omega
  have HT := hid ht

  clear hR ht hn
  go_enter Tryd.func3, Tryd.ntmps3
  go_wp2_with (first
    | (go_at_call 7; go_in)
    | (go_at_call 8; refine HC.out.mono ?_; rintro e w1 ⟨v1, rfl, ho1, hb1⟩; refine Hid.out ?_))
  have HO1 := hid ho1
  have HB1 := hid hb1
  have HC2 : Hid (Calls Tryd.prog 8 #[.slice v1 n n] w1 fun e w' => ∃ a, e = .returned (.slice a n n) ∧ w'.ownsRow w1.heap.size 5 1 (.slice a n n) n (byteCells X) ∧ Below w1.heap.size w1 w') := hid (by
    have h := clone_full (.slice v1 n n) X w1 (by rw [← HN.out]; omega) (reads_own ho1)
    rw [← HN.out] at h
    exact h)
  clear ho1 hb1 HC
  refine hid ?_
  go_wp2_with (go_at_call 8; refine HC2.out.mono ?_; rintro e w2 ⟨v2, rfl, ho2, hb2⟩; refine Hid.out ?_)
  have o1 := own_kept HO1.out hb2 (.inl (Nat.le_refl _))
  have hbx := HB1.out.trans (hb2.mono HB1.out.size)
  have HZ : Hid (Calls Tryd.prog 9 #[.agg #[.string name, .int .u8 2], .slice v1 n n, .agg #[.int .u64 u, .string S]] (w2.alloc (.cells #[.string name, .int .u8 2] 28)) fun e w' => ∃ v', e = .returned v' ∧ St (w2.alloc (.cells #[.string name, .int .u8 2] 28)).heap.size n (byteCells X) (w2.alloc (.cells #[.string name, .int .u8 2] 28)) w' v' (Plain.head name.data.toList ++ Lib.decDigits u)) := hid (by
    have hbz := hbx.alloc hbx.size (.cells #[.string name, .int .u8 2] 28)
    exact zz_uintS _ n u hu name S _ (byteCells X) _ (start_of (o1.alloc _)) (by omega) (by omega) (Tb.up (Tb.on HT.out hbz) hbz.size))
  have O2 := hid (ho2.alloc (.cells #[.string name, .int .u8 2] 28))
  have BX := hid (hbx.alloc hbx.size (.cells #[.string name, .int .u8 2] 28))
  clear o1 hbx ho2 hb2 HO1 HB1 HC2
  refine hid ?_
  go_wp2_with (go_at_call 9; refine HZ.out.mono ?_; rintro e w4 ⟨v3, rfl, h4⟩; refine Hid.out ?_)
  -- the answer's bytes
  have b4 : Below w.heap.size w w4 := BX.out.trans (h4.below.mono BX.out.size)
  have o2 := own_kept O2.out h4.below (.inl (Nat.le_refl _))
  obtain ⟨i, hi0⟩ : ∃ i, i = (Plain.quoted name.data.toList).length := ⟨_, rfl⟩
  obtain ⟨m, hm0⟩ : ∃ m, m = (Plain.head name.data.toList ++ Lib.decDigits u).length := ⟨_, rfl⟩
  have o3 := h4.own
  rw [← cells_append, ← hm0] at o3
  have hml : m = i + 1 + (Lib.decDigits u).length := by rw [hm0, hi0, List.length_append, Plain.head, List.length_append]; rfl
  have hq1 : i ≤ 6 * name.size + 2 := by rw [hi0]; exact Plain.quoted_len name.data.toList
  have hq2 := dec_len20 u (by omega)
  have hq3 := Plain.dec_ne u
  have hq4 : m ≤ 6000000 := by omega
  obtain ⟨g3, cap3, e3, hcap3, hmax3⟩ := own_form o3 (by omega)
  subst e3
  unfold maxLen at hmax3
  have hg3 : g3 < w4.heap.size := (o3.lt g3 rfl).2
  have hall : ∀ j b, (X ++ (Plain.head name.data.toList ++ Lib.decDigits u))[j]? = some b → w4.cell? ⟨g3, j, none⟩ = some (.int .u8 b.toNat) := fun j b hj => cell_at o3 j b hj
  have hname : ∀ j b, (Plain.quoted name.data.toList)[j]? = some b → w4.cell? ⟨g3, n + (0 + j), none⟩ = some (.int .u8 b.toNat) := fun j b hj => by
    rw [HN.out]
    exact cells_of (X := X) (H := []) (T := Plain.quoted name.data.toList) (Q := [58] ++ Lib.decDigits u) (fun j b h => hall j b (by simpa [Plain.head] using h)) j b hj
  have hcol : w4.cell? ⟨g3, n + i, none⟩ = some (.int .u8 58) := by
    have := cells_of (X := X) (H := Plain.quoted name.data.toList) (T := [58]) (Q := Lib.decDigits u) (fun j b h => hall j b (by simpa [Plain.head] using h)) 0 58 rfl
    rw [HN.out, hi0]
    exact this
  have htail : ∀ j b, (Lib.decDigits u)[j]? = some b → w4.cell? ⟨g3, n + (i + 1 + j), none⟩ = some (.int .u8 b.toNat) := fun j b hj => by
    have := cells_of (X := X) (H := Plain.head name.data.toList) (T := Lib.decDigits u) (Q := []) (fun j b h => hall j b (by simpa using h)) j b hj
    rw [HN.out, hi0]
    rw [show (Plain.head name.data.toList).length = (Plain.quoted name.data.toList).length + 1 by simp [Plain.head]] at this
    exact this
  have HQ : Hid (Calls Tryd.prog 10 #[.slice (some ⟨g3, 0, none⟩) n cap3, .slice v2 n n] w4 fun e w' => e = .returned (.bool true) ∧ ∃ q, w' = w4.drewN q) := hid (by
    have h8 := equal_any (.slice (some ⟨g3, 0, none⟩) n cap3) (.slice v2 n n) X X w4 (by rw [← HN.out]; omega) (reads_part (w := w4) o3 [] X (Plain.head name.data.toList ++ Lib.decDigits u) rfl 0 n cap3 rfl HN.out) (reads_own o2)
    rwa [decide_eq_true rfl] at h8)
  have HJ : Hid (∀ q, Calls Tryd.prog 11 #[.slice (some ⟨g3, n, none⟩) m (cap3 - n), .int .i64 0] (w4.drewN q) fun e w' => ∃ v', e = .returned (.tuple #[v', .int .i64 i, .bool true]) ∧ w'.ownsRow w4.heap.size 5 1 v' name.data.toList.length (byteCells name.data.toList) ∧ Below w4.heap.size (w4.drewN q) w') := hid (fun q => by
    have h8 := json_some g3 n (cap3 - n) 0 m name.data.toList (w4.drewN q) (by rw [← hi0]; omega) (by omega) (by show name.size ≤ _; omega) hg3 hname
    rw [← hi0, Nat.zero_add] at h8
    exact h8)
  have B4 := hid b4
  have HCOL := hid hcol
  have HTAIL := hid htail
  have HG3 := hid hg3
  have y1 : (n : Int) ≤ (cap3 : Int) := by omega
  have y2 : ¬ cap3 = n := by omega
  have y3 : (n : Int) ≤ (n : Int) + (m : Int) := by omega
  have y4 : (i : Int) < (m : Int) := by omega
  have y5 : (i : Int) + 1 < (m : Int) := by omega
  have y6 : ¬ m ≤ i := by omega
  have y7 : (i : Int) ≤ 2000000 := by omega
  have y8 : (m : Int) ≤ 6000000 := by omega
  have y9 : i + 1 < m := by omega
  have HML := hid hml
  have HI0 := hid hi0
  clear b4 o2 o3 hi0 hm0 hml hall hname hcol htail HZ O2 BX h4 hg3 hq1
  refine hid ?_
  go_wp2_with (first
    | (go_at_call 10; refine HQ.out.mono ?_; rintro e w5 ⟨rfl, q5, rfl⟩)
    | (go_at_call 11; refine (HJ.out _).mono ?_; rintro e w6 ⟨v6, rfl, ho6, hb6⟩; refine Hid.out ?_))
  have HS1 := hid (same_yes v6 name w6 (by omega) (reads_own ho6))
  have B6 : Hid (Below w.heap.size w w6) := hid ((below_drewN B4.out q5).trans (hb6.mono B4.out.size))
  have c58 : w6.cell? ⟨g3, n + i, none⟩ = some (.int .u8 58) := (hb6.cell (p := ⟨g3, n + i, none⟩) HG3.out).trans HCOL.out
  have T6 : Hid (∀ j b, (Lib.decDigits u)[j]? = some b → w6.cell? ⟨g3, n + (i + 1 + j), none⟩ = some (.int .u8 b.toNat)) := hid (fun j b hj => (hb6.cell (p := ⟨g3, n + (i + 1 + j), none⟩) HG3.out).trans (HTAIL.out j b hj))
  have G6 : Hid (g3 < w6.heap.size) := hid (Nat.lt_of_lt_of_le HG3.out hb6.size)
  clear ho6 hb6 HQ HJ HCOL HTAIL
  have HD : Hid (∀ q, Calls Tryd.prog 13 #[.slice (some ⟨g3, n, none⟩) m (cap3 - n), .int .i64 ((i : Int) + 1)] (w6.drewN q) fun e w' => e = .returned (.tuple #[.int .u64 u, .int .i64 m, .bool true]) ∧ w' = w6.drewN q) := hid (fun q => by
    have h8 := deci_any g3 n (cap3 - n) (i + 1) m u (w6.drewN q) (by omega) (by rw [HML.out]) (by omega) (fun j hj => T6.out j _ (List.getElem?_eq_getElem hj))
    rw [show ((i + 1 : Nat) : Int) = (i : Int) + 1 by omega] at h8
    exact h8)
  clear T6
  refine hid ?_
  go_wp2_with (first
    | (go_at_call 12; refine HS1.out.mono ?_; rintro e w7 ⟨rfl, q7, rfl⟩)
    | (go_at_call 13; refine (HD.out _).mono ?_; rintro e w8 ⟨rfl, rfl⟩))
  go_ret
  exact ⟨rfl, below_drewN B6.out _⟩

set_option maxHeartbeats 4000000 in
set_option maxRecDepth 100000 in
theorem back_pos (name S : ByteArray) (a0 : Option Addr) (cap0 : Nat) (X : List UInt8) (u : Nat) (w : World) (hu : u < 18446744073709551616) (hp : u ≤ 9223372036854775807) (h1 : name.size ≤ 262144) (h2 : X.length ≤ 262144) (h3 : S.size ≤ 262144) (hR : Reads w (.slice a0 X.length cap0) X) (ht : Tb w.heap.size w) :
    Calls Tryd.prog 3 #[.string name, .int .u8 1, .slice a0 X.length cap0, .int .u64 u, .string S] w fun e w' => e = .returned (.bool true) ∧ Below w.heap.size w w' := by
  have HC := hid (clone_full _ X w (by omega) hR)
  obtain ⟨n, hn⟩ : ∃ n, n = X.length := ⟨_, rfl⟩
  have HN := hid hn
  rw [← hn] at HC h2 ⊢
  have i1 : (name.size : Int) ≤ 262144 := by omega
  have i2 : (n : Int) ≤ 262144 := by omega
  have i3 : (S.size : Int) ≤ 262144 := by omega
  have HT := hid ht

  clear hR ht hn
  go_enter Tryd.func3, Tryd.ntmps3
  go_wp2_with (first
    | (go_at_call 7; go_in)
    | (go_at_call 8; refine HC.out.mono ?_; rintro e w1 ⟨v1, rfl, ho1, hb1⟩; refine Hid.out ?_))
  have HO1 := hid ho1
  have HB1 := hid hb1
  have HC2 : Hid (Calls Tryd.prog 8 #[.slice v1 n n] w1 fun e w' => ∃ a, e = .returned (.slice a n n) ∧ w'.ownsRow w1.heap.size 5 1 (.slice a n n) n (byteCells X) ∧ Below w1.heap.size w1 w') := hid (by
    have h := clone_full (.slice v1 n n) X w1 (by rw [← HN.out]; omega) (reads_own ho1)
    rw [← HN.out] at h
    exact h)
  clear ho1 hb1 HC
  refine hid ?_
  go_wp2_with (go_at_call 8; refine HC2.out.mono ?_; rintro e w2 ⟨v2, rfl, ho2, hb2⟩; refine Hid.out ?_)
  have o1 := own_kept HO1.out hb2 (.inl (Nat.le_refl _))
  have hbx := HB1.out.trans (hb2.mono HB1.out.size)
  have HZ : Hid (Calls Tryd.prog 9 #[.agg #[.string name, .int .u8 1], .slice v1 n n, .agg #[.int .u64 u, .string S]] (w2.alloc (.cells #[.string name, .int .u8 1] 28)) fun e w' => ∃ v', e = .returned v' ∧ St (w2.alloc (.cells #[.string name, .int .u8 1] 28)).heap.size n (byteCells X) (w2.alloc (.cells #[.string name, .int .u8 1] 28)) w' v' (Plain.head name.data.toList ++ Lib.decDigits u)) := hid (by
    have hbz := hbx.alloc hbx.size (.cells #[.string name, .int .u8 1] 28)
    exact zz_posS _ n u hp name S _ (byteCells X) _ (start_of (o1.alloc _)) (by omega) (by omega) (Tb.up (Tb.on HT.out hbz) hbz.size))
  have O2 := hid (ho2.alloc (.cells #[.string name, .int .u8 1] 28))
  have BX := hid (hbx.alloc hbx.size (.cells #[.string name, .int .u8 1] 28))
  clear o1 hbx ho2 hb2 HO1 HB1 HC2
  refine hid ?_
  go_wp2_with (go_at_call 9; refine HZ.out.mono ?_; rintro e w4 ⟨v3, rfl, h4⟩; refine Hid.out ?_)
  -- the answer's bytes
  have b4 : Below w.heap.size w w4 := BX.out.trans (h4.below.mono BX.out.size)
  have o2 := own_kept O2.out h4.below (.inl (Nat.le_refl _))
  obtain ⟨i, hi0⟩ : ∃ i, i = (Plain.quoted name.data.toList).length := ⟨_, rfl⟩
  obtain ⟨m, hm0⟩ : ∃ m, m = (Plain.head name.data.toList ++ Lib.decDigits u).length := ⟨_, rfl⟩
  have o3 := h4.own
  rw [← cells_append, ← hm0] at o3
  have hml : m = i + 1 + (Lib.decDigits u).length := by rw [hm0, hi0, List.length_append, Plain.head, List.length_append]; rfl
  have hq1 : i ≤ 6 * name.size + 2 := by rw [hi0]; exact Plain.quoted_len name.data.toList
  have hq2 := dec_len20 u (by omega)
  have hq3 := Plain.dec_ne u
  have hq4 : m ≤ 6000000 := by omega
  obtain ⟨g3, cap3, e3, hcap3, hmax3⟩ := own_form o3 (by omega)
  subst e3
  unfold maxLen at hmax3
  have hg3 : g3 < w4.heap.size := (o3.lt g3 rfl).2
  have hall : ∀ j b, (X ++ (Plain.head name.data.toList ++ Lib.decDigits u))[j]? = some b → w4.cell? ⟨g3, j, none⟩ = some (.int .u8 b.toNat) := fun j b hj => cell_at o3 j b hj
  have hname : ∀ j b, (Plain.quoted name.data.toList)[j]? = some b → w4.cell? ⟨g3, n + (0 + j), none⟩ = some (.int .u8 b.toNat) := fun j b hj => by
    rw [HN.out]
    exact cells_of (X := X) (H := []) (T := Plain.quoted name.data.toList) (Q := [58] ++ Lib.decDigits u) (fun j b h => hall j b (by simpa [Plain.head] using h)) j b hj
  have hcol : w4.cell? ⟨g3, n + i, none⟩ = some (.int .u8 58) := by
    have := cells_of (X := X) (H := Plain.quoted name.data.toList) (T := [58]) (Q := Lib.decDigits u) (fun j b h => hall j b (by simpa [Plain.head] using h)) 0 58 rfl
    rw [HN.out, hi0]
    exact this
  have htail : ∀ j b, (Lib.decDigits u)[j]? = some b → w4.cell? ⟨g3, n + (i + 1 + j), none⟩ = some (.int .u8 b.toNat) := fun j b hj => by
    have := cells_of (X := X) (H := Plain.head name.data.toList) (T := Lib.decDigits u) (Q := []) (fun j b h => hall j b (by simpa using h)) j b hj
    rw [HN.out, hi0]
    rw [show (Plain.head name.data.toList).length = (Plain.quoted name.data.toList).length + 1 by simp [Plain.head]] at this
    exact this
  have HQ : Hid (Calls Tryd.prog 10 #[.slice (some ⟨g3, 0, none⟩) n cap3, .slice v2 n n] w4 fun e w' => e = .returned (.bool true) ∧ ∃ q, w' = w4.drewN q) := hid (by
    have h8 := equal_any (.slice (some ⟨g3, 0, none⟩) n cap3) (.slice v2 n n) X X w4 (by rw [← HN.out]; omega) (reads_part (w := w4) o3 [] X (Plain.head name.data.toList ++ Lib.decDigits u) rfl 0 n cap3 rfl HN.out) (reads_own o2)
    rwa [decide_eq_true rfl] at h8)
  have HJ : Hid (∀ q, Calls Tryd.prog 11 #[.slice (some ⟨g3, n, none⟩) m (cap3 - n), .int .i64 0] (w4.drewN q) fun e w' => ∃ v', e = .returned (.tuple #[v', .int .i64 i, .bool true]) ∧ w'.ownsRow w4.heap.size 5 1 v' name.data.toList.length (byteCells name.data.toList) ∧ Below w4.heap.size (w4.drewN q) w') := hid (fun q => by
    have h8 := json_some g3 n (cap3 - n) 0 m name.data.toList (w4.drewN q) (by rw [← hi0]; omega) (by omega) (by show name.size ≤ _; omega) hg3 hname
    rw [← hi0, Nat.zero_add] at h8
    exact h8)
  have B4 := hid b4
  have HCOL := hid hcol
  have HTAIL := hid htail
  have HG3 := hid hg3
  have y1 : (n : Int) ≤ (cap3 : Int) := by omega
  have y2 : ¬ cap3 = n := by omega
  have y3 : (n : Int) ≤ (n : Int) + (m : Int) := by omega
  have y4 : (i : Int) < (m : Int) := by omega
  have y5 : (i : Int) + 1 < (m : Int) := by omega
  have y6 : ¬ m ≤ i := by omega
  have y7 : (i : Int) ≤ 2000000 := by omega
  have y8 : (m : Int) ≤ 6000000 := by omega
  have y9 : i + 1 < m := by omega
  have HML := hid hml
  have HI0 := hid hi0
  clear b4 o2 o3 hi0 hm0 hml hall hname hcol htail HZ O2 BX h4 hg3 hq1
  refine hid ?_
  go_wp2_with (first
    | (go_at_call 10; refine HQ.out.mono ?_; rintro e w5 ⟨rfl, q5, rfl⟩)
    | (go_at_call 11; refine (HJ.out _).mono ?_; rintro e w6 ⟨v6, rfl, ho6, hb6⟩; refine Hid.out ?_))
  have HS1 := hid (same_yes v6 name w6 (by omega) (reads_own ho6))
  have B6 : Hid (Below w.heap.size w w6) := hid ((below_drewN B4.out q5).trans (hb6.mono B4.out.size))
  have c58 : w6.cell? ⟨g3, n + i, none⟩ = some (.int .u8 58) := (hb6.cell (p := ⟨g3, n + i, none⟩) HG3.out).trans HCOL.out
  have T6 : Hid (∀ j b, (Lib.decDigits u)[j]? = some b → w6.cell? ⟨g3, n + (i + 1 + j), none⟩ = some (.int .u8 b.toNat)) := hid (fun j b hj => (hb6.cell (p := ⟨g3, n + (i + 1 + j), none⟩) HG3.out).trans (HTAIL.out j b hj))
  have G6 : Hid (g3 < w6.heap.size) := hid (Nat.lt_of_lt_of_le HG3.out hb6.size)
  clear ho6 hb6 HQ HJ HCOL HTAIL
  have HD : Hid (∀ q, Calls Tryd.prog 13 #[.slice (some ⟨g3, n, none⟩) m (cap3 - n), .int .i64 ((i : Int) + 1)] (w6.drewN q) fun e w' => e = .returned (.tuple #[.int .u64 u, .int .i64 m, .bool true]) ∧ w' = w6.drewN q) := hid (fun q => by
    have h8 := deci_any g3 n (cap3 - n) (i + 1) m u (w6.drewN q) (by omega) (by rw [HML.out]) (by omega) (fun j hj => T6.out j _ (List.getElem?_eq_getElem hj))
    rw [show ((i + 1 : Nat) : Int) = (i : Int) + 1 by omega] at h8
    exact h8)
  obtain ⟨x0, hx0⟩ : ∃ x : Nat, x = ((Lib.decDigits u)[0]'(Plain.dec_ne u)).toNat := ⟨_, rfl⟩
  have dx := (Plain.dig_iff _).1 (Plain.dec_dig u _ (List.getElem_mem (Plain.dec_ne u)))
  rw [← hx0] at dx
  have c45 : w6.cell? ⟨g3, n + (i + 1), none⟩ = some (.int .u8 (x0 : Int)) := by rw [hx0]; exact T6.out 0 _ (List.getElem?_eq_getElem (Plain.dec_ne u))
  have t45 : ((x0 : Int) == 45) = false := beqf (by omega)
  have z1 : ((i : Int) + 1).toNat = i + 1 := by omega
  have z2 : (u : Int) < 9223372036854775808 := by omega
  clear hx0 dx
  clear T6
  refine hid ?_
  go_wp2_with (first
    | (go_at_call 12; refine HS1.out.mono ?_; rintro e w7 ⟨rfl, q7, rfl⟩)
    | (go_at_call 13; refine (HD.out _).mono ?_; rintro e w8 ⟨rfl, rfl⟩))
  go_ret
  exact ⟨rfl, below_drewN B6.out _⟩

set_option maxHeartbeats 4000000 in
set_option maxRecDepth 100000 in
theorem back_neg (name S : ByteArray) (a0 : Option Addr) (cap0 : Nat) (X : List UInt8) (u : Nat) (M : Nat) (w : World) (hu : u < 18446744073709551616) (hp : 9223372036854775808 ≤ u) (hM : M = 18446744073709551616 - u) (h1 : name.size ≤ 262144) (h2 : X.length ≤ 262144) (h3 : S.size ≤ 262144) (hR : Reads w (.slice a0 X.length cap0) X) (ht : Tb w.heap.size w) :
    Calls Tryd.prog 3 #[.string name, .int .u8 1, .slice a0 X.length cap0, .int .u64 u, .string S] w fun e w' => e = .returned (.bool true) ∧ Below w.heap.size w w' := by
  have HC := hid (clone_full _ X w (by omega) hR)
  obtain ⟨n, hn⟩ : ∃ n, n = X.length := ⟨_, rfl⟩
  have HN := hid hn
  rw [← hn] at HC h2 ⊢
  have i1 : (name.size : Int) ≤ 262144 := by omega
  have i2 : (n : Int) ≤ 262144 := by omega
  have i3 : (S.size : Int) ≤ 262144 := by omega
  have HT := hid ht
  have hM1 : 1 ≤ M := by omega
  have hM2 : M ≤ 9223372036854775808 := by omega
  have HMM := hid hM
  clear hM
  clear hR ht hn
  go_enter Tryd.func3, Tryd.ntmps3
  go_wp2_with (first
    | (go_at_call 7; go_in)
    | (go_at_call 8; refine HC.out.mono ?_; rintro e w1 ⟨v1, rfl, ho1, hb1⟩; refine Hid.out ?_))
  have HO1 := hid ho1
  have HB1 := hid hb1
  have HC2 : Hid (Calls Tryd.prog 8 #[.slice v1 n n] w1 fun e w' => ∃ a, e = .returned (.slice a n n) ∧ w'.ownsRow w1.heap.size 5 1 (.slice a n n) n (byteCells X) ∧ Below w1.heap.size w1 w') := hid (by
    have h := clone_full (.slice v1 n n) X w1 (by rw [← HN.out]; omega) (reads_own ho1)
    rw [← HN.out] at h
    exact h)
  clear ho1 hb1 HC
  refine hid ?_
  go_wp2_with (go_at_call 8; refine HC2.out.mono ?_; rintro e w2 ⟨v2, rfl, ho2, hb2⟩; refine Hid.out ?_)
  have o1 := own_kept HO1.out hb2 (.inl (Nat.le_refl _))
  have hbx := HB1.out.trans (hb2.mono HB1.out.size)
  have HZ : Hid (Calls Tryd.prog 9 #[.agg #[.string name, .int .u8 1], .slice v1 n n, .agg #[.int .u64 u, .string S]] (w2.alloc (.cells #[.string name, .int .u8 1] 28)) fun e w' => ∃ v', e = .returned v' ∧ St (w2.alloc (.cells #[.string name, .int .u8 1] 28)).heap.size n (byteCells X) (w2.alloc (.cells #[.string name, .int .u8 1] 28)) w' v' (Plain.head name.data.toList ++ (45 :: Lib.decDigits M))) := hid (by
    have hbz := hbx.alloc hbx.size (.cells #[.string name, .int .u8 1] 28)
    exact zz_negS _ n u hp hu M HMM.out name S _ (byteCells X) _ (start_of (o1.alloc _)) (by omega) (by omega) (Tb.up (Tb.on HT.out hbz) hbz.size))
  have O2 := hid (ho2.alloc (.cells #[.string name, .int .u8 1] 28))
  have BX := hid (hbx.alloc hbx.size (.cells #[.string name, .int .u8 1] 28))
  clear o1 hbx ho2 hb2 HO1 HB1 HC2
  refine hid ?_
  go_wp2_with (go_at_call 9; refine HZ.out.mono ?_; rintro e w4 ⟨v3, rfl, h4⟩; refine Hid.out ?_)
  -- the answer's bytes
  have b4 : Below w.heap.size w w4 := BX.out.trans (h4.below.mono BX.out.size)
  have o2 := own_kept O2.out h4.below (.inl (Nat.le_refl _))
  obtain ⟨i, hi0⟩ : ∃ i, i = (Plain.quoted name.data.toList).length := ⟨_, rfl⟩
  obtain ⟨m, hm0⟩ : ∃ m, m = (Plain.head name.data.toList ++ (45 :: Lib.decDigits M)).length := ⟨_, rfl⟩
  have o3 := h4.own
  rw [← cells_append, ← hm0] at o3
  have hml : m = i + 1 + ((45 :: Lib.decDigits M)).length := by rw [hm0, hi0, List.length_append, Plain.head, List.length_append]; rfl
  have hq1 : i ≤ 6 * name.size + 2 := by rw [hi0]; exact Plain.quoted_len name.data.toList
  have hq2 := dec_len20 M (by omega)
  have hq3 := Plain.dec_ne M
  have hq5 : (45 :: Lib.decDigits M).length = (Lib.decDigits M).length + 1 := rfl
  have hq4 : m ≤ 6000000 := by omega
  obtain ⟨g3, cap3, e3, hcap3, hmax3⟩ := own_form o3 (by omega)
  subst e3
  unfold maxLen at hmax3
  have hg3 : g3 < w4.heap.size := (o3.lt g3 rfl).2
  have hall : ∀ j b, (X ++ (Plain.head name.data.toList ++ (45 :: Lib.decDigits M)))[j]? = some b → w4.cell? ⟨g3, j, none⟩ = some (.int .u8 b.toNat) := fun j b hj => cell_at o3 j b hj
  have hname : ∀ j b, (Plain.quoted name.data.toList)[j]? = some b → w4.cell? ⟨g3, n + (0 + j), none⟩ = some (.int .u8 b.toNat) := fun j b hj => by
    rw [HN.out]
    exact cells_of (X := X) (H := []) (T := Plain.quoted name.data.toList) (Q := [58] ++ (45 :: Lib.decDigits M)) (fun j b h => hall j b (by simpa [Plain.head] using h)) j b hj
  have hcol : w4.cell? ⟨g3, n + i, none⟩ = some (.int .u8 58) := by
    have := cells_of (X := X) (H := Plain.quoted name.data.toList) (T := [58]) (Q := (45 :: Lib.decDigits M)) (fun j b h => hall j b (by simpa [Plain.head] using h)) 0 58 rfl
    rw [HN.out, hi0]
    exact this
  have htail : ∀ j b, ((45 :: Lib.decDigits M))[j]? = some b → w4.cell? ⟨g3, n + (i + 1 + j), none⟩ = some (.int .u8 b.toNat) := fun j b hj => by
    have := cells_of (X := X) (H := Plain.head name.data.toList) (T := (45 :: Lib.decDigits M)) (Q := []) (fun j b h => hall j b (by simpa using h)) j b hj
    rw [HN.out, hi0]
    rw [show (Plain.head name.data.toList).length = (Plain.quoted name.data.toList).length + 1 by simp [Plain.head]] at this
    exact this
  have HQ : Hid (Calls Tryd.prog 10 #[.slice (some ⟨g3, 0, none⟩) n cap3, .slice v2 n n] w4 fun e w' => e = .returned (.bool true) ∧ ∃ q, w' = w4.drewN q) := hid (by
    have h8 := equal_any (.slice (some ⟨g3, 0, none⟩) n cap3) (.slice v2 n n) X X w4 (by rw [← HN.out]; omega) (reads_part (w := w4) o3 [] X (Plain.head name.data.toList ++ (45 :: Lib.decDigits M)) rfl 0 n cap3 rfl HN.out) (reads_own o2)
    rwa [decide_eq_true rfl] at h8)
  have HJ : Hid (∀ q, Calls Tryd.prog 11 #[.slice (some ⟨g3, n, none⟩) m (cap3 - n), .int .i64 0] (w4.drewN q) fun e w' => ∃ v', e = .returned (.tuple #[v', .int .i64 i, .bool true]) ∧ w'.ownsRow w4.heap.size 5 1 v' name.data.toList.length (byteCells name.data.toList) ∧ Below w4.heap.size (w4.drewN q) w') := hid (fun q => by
    have h8 := json_some g3 n (cap3 - n) 0 m name.data.toList (w4.drewN q) (by rw [← hi0]; omega) (by omega) (by show name.size ≤ _; omega) hg3 hname
    rw [← hi0, Nat.zero_add] at h8
    exact h8)
  have B4 := hid b4
  have HCOL := hid hcol
  have HTAIL := hid htail
  have HG3 := hid hg3
  have y1 : (n : Int) ≤ (cap3 : Int) := by omega
  have y2 : ¬ cap3 = n := by omega
  have y3 : (n : Int) ≤ (n : Int) + (m : Int) := by omega
  have y4 : (i : Int) < (m : Int) := by omega
  have y5 : (i : Int) + 1 < (m : Int) := by omega
  have y6 : ¬ m ≤ i := by omega
  have y7 : (i : Int) ≤ 2000000 := by omega
  have y8 : (m : Int) ≤ 6000000 := by omega
  have y9 : i + 1 < m := by omega
  have HML := hid hml
  have HI0 := hid hi0
  clear b4 o2 o3 hi0 hm0 hml hall hname hcol htail HZ O2 BX h4 hg3 hq1
  refine hid ?_
  go_wp2_with (first
    | (go_at_call 10; refine HQ.out.mono ?_; rintro e w5 ⟨rfl, q5, rfl⟩)
    | (go_at_call 11; refine (HJ.out _).mono ?_; rintro e w6 ⟨v6, rfl, ho6, hb6⟩; refine Hid.out ?_))
  have HS1 := hid (same_yes v6 name w6 (by omega) (reads_own ho6))
  have B6 : Hid (Below w.heap.size w w6) := hid ((below_drewN B4.out q5).trans (hb6.mono B4.out.size))
  have c58 : w6.cell? ⟨g3, n + i, none⟩ = some (.int .u8 58) := (hb6.cell (p := ⟨g3, n + i, none⟩) HG3.out).trans HCOL.out
  have T6 : Hid (∀ j b, ((45 :: Lib.decDigits M))[j]? = some b → w6.cell? ⟨g3, n + (i + 1 + j), none⟩ = some (.int .u8 b.toNat)) := hid (fun j b hj => (hb6.cell (p := ⟨g3, n + (i + 1 + j), none⟩) HG3.out).trans (HTAIL.out j b hj))
  have G6 : Hid (g3 < w6.heap.size) := hid (Nat.lt_of_lt_of_le HG3.out hb6.size)
  clear ho6 hb6 HQ HJ HCOL HTAIL
  have HD : Hid (∀ q, Calls Tryd.prog 13 #[.slice (some ⟨g3, n, none⟩) m (cap3 - n), .int .i64 ((i : Int) + 1 + 1)] (w6.drewN q) fun e w' => e = .returned (.tuple #[.int .u64 M, .int .i64 m, .bool true]) ∧ w' = w6.drewN q) := hid (fun q => by
    have h8 := deci_any g3 n (cap3 - n) (i + 1 + 1) m M (w6.drewN q) (by omega) (by rw [HML.out]; simp; omega) (by omega) (fun j hj => by
      have h9 := T6.out (j + 1) _ (show (45 :: Lib.decDigits M)[j + 1]? = some _ from List.getElem?_eq_getElem hj)
      rw [show i + 1 + (j + 1) = i + 1 + 1 + j by omega] at h9
      exact h9)
    rw [show ((i + 1 + 1 : Nat) : Int) = (i : Int) + 1 + 1 by omega] at h8
    exact h8)
  have c45 : w6.cell? ⟨g3, n + (i + 1), none⟩ = some (.int .u8 45) := T6.out 0 45 rfl
  have z1 : ((i : Int) + 1).toNat = i + 1 := by omega
  have z2 : (M : Int) ≤ 9223372036854775808 := by omega
  have z3 : ((M : Int) == 0) = false := beqf (by omega)
  have z4 : IntKind.u64.wrap (-(M : Int)) = (u : Int) := by rw [wrap_neg M (by omega) (by omega)]; have := HMM.out; omega
  have z5 : IntKind.u64.wrap (0 - (M : Int)) = (u : Int) := by rw [Int.zero_sub]; exact z4
  clear T6
  refine hid ?_
  go_wp2_with (first
    | (go_at_call 12; refine HS1.out.mono ?_; rintro e w7 ⟨rfl, q7, rfl⟩)
    | (go_at_call 13; refine (HD.out _).mono ?_; rintro e w8 ⟨rfl, rfl⟩))
  go_ret
  exact ⟨rfl, below_drewN B6.out _⟩

set_option maxHeartbeats 1000000 in
set_option maxRecDepth 100000 in
theorem back_out (name S : ByteArray) (a0 : Option Addr) (n cap0 : Nat) (typ u : Int) (w : World) (h : 262144 < name.size ∨ 262144 < n ∨ 262144 < S.size) (h1 : name.size ≤ 9223372036854775807) (h2 : n ≤ 9223372036854775807) (h3 : S.size ≤ 9223372036854775807) :
    Calls Tryd.prog 3 #[.string name, .int .u8 typ, .slice a0 n cap0, .int .u64 u, .string S] w fun e w' => e = .returned (.bool true) ∧ Below w.heap.size w w' := by
  by_cases c1 : (1048576 : Int) < (name.size : Int)
  · go_enter Tryd.func3, Tryd.ntmps3
    go_wp2_with (go_at_call 7; go_in)
    go_ret
    exact ⟨rfl, Below.refl _ _⟩
  by_cases c2 : (1048576 : Int) < (n : Int)
  · go_enter Tryd.func3, Tryd.ntmps3
    go_wp2_with (go_at_call 7; go_in)
    go_ret
    exact ⟨rfl, Below.refl _ _⟩
  by_cases c3 : (1048576 : Int) < (name.size : Int) + (n : Int)
  · go_enter Tryd.func3, Tryd.ntmps3
    go_wp2_with (go_at_call 7; go_in)
    go_ret
    exact ⟨rfl, Below.refl _ _⟩
  by_cases c4 : (1048576 : Int) < (S.size : Int)
  · go_enter Tryd.func3, Tryd.ntmps3
    go_wp2_with (go_at_call 7; go_in)
    go_ret
    exact ⟨rfl, Below.refl _ _⟩
  by_cases c5 : (1048576 : Int) < (name.size : Int) + (n : Int) + (S.size : Int)
  · go_enter Tryd.func3, Tryd.ntmps3
    go_wp2_with (go_at_call 7; go_in)
    go_ret
    exact ⟨rfl, Below.refl _ _⟩
  by_cases c6 : (262144 : Int) < (name.size : Int)
  · go_enter Tryd.func3, Tryd.ntmps3
    go_wp2_with (go_at_call 7; go_in)
    go_ret
    exact ⟨rfl, Below.refl _ _⟩
  by_cases c7 : (262144 : Int) < (n : Int)
  · go_enter Tryd.func3, Tryd.ntmps3
    go_wp2_with (go_at_call 7; go_in)
    go_ret
    exact ⟨rfl, Below.refl _ _⟩
  have c8 : (262144 : Int) < (S.size : Int) := by omega
  go_enter Tryd.func3, Tryd.ntmps3
  go_wp2_with (go_at_call 7; go_in)
  go_ret
  exact ⟨rfl, Below.refl _ _⟩

theorem back_any (name S : ByteArray) (a0 : Option Addr) (cap0 : Nat) (X : List UInt8) (u : Nat) (typ : Int) (w : World) (hu : u < 18446744073709551616) (t0 : 0 ≤ typ) (t255 : typ ≤ 255) (h1 : name.size ≤ maxLen) (h2 : X.length ≤ maxLen) (h3 : S.size ≤ maxLen) (hR : Reads w (.slice a0 X.length cap0) X) (ht : Tb w.heap.size w) :
    Calls Tryd.prog 3 #[.string name, .int .u8 typ, .slice a0 X.length cap0, .int .u64 u, .string S] w fun e w' => e = .returned (.bool true) ∧ Below w.heap.size w w' := by
  unfold maxLen at h1 h2 h3
  by_cases h : 262144 < name.size ∨ 262144 < X.length ∨ 262144 < S.size
  · exact back_out name S a0 X.length cap0 typ u w h h1 h2 h3
  · by_cases n1 : typ = 1
    · subst n1
      by_cases hl : u ≤ 9223372036854775807
      · exact back_pos name S a0 cap0 X u w hu hl (by omega) (by omega) (by omega) hR ht
      · exact back_neg name S a0 cap0 X u _ w hu (by omega) rfl (by omega) (by omega) (by omega) hR ht
    · by_cases n2 : typ = 2
      · subst n2
        exact back_uint name S a0 cap0 X u w hu (by omega) (by omega) (by omega) hR ht
      · exact back_text name S a0 cap0 X u typ w hu t0 t255 n1 n2 (by omega) (by omega) (by omega) hR ht
end Go.Proofs.Qxb6603296aDoor
