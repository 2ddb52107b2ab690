/-
  Seat b6603296aD: THE WALK of FnAppendMemberJSONIntAgreesWithUint.
-/
import Derived.Test.Qxb6603296aDoorWalkC
namespace Go.Proofs.Qxb6603296aDoor
open Go.RowKit
open Go.Lib (byteCells)

theorem reads_own {w : World} {B : Nat} {v : Value} {n : Nat} {X : List UInt8} (h : w.ownsRow B 5 1 v n (byteCells X)) : Reads w v X := by
  have hl : X.length = n := by have := h.1; simpa [byteCells] using this
  subst hl
  rcases h.2 with ⟨rfl, h0⟩ | ⟨g, cap, cur, rfl, -, -, -, -, -, -⟩
  · exact .inl ⟨none, 0, rfl, List.length_eq_zero_iff.1 h0⟩
  · refine .inr ⟨g, 0, cap, rfl, fun j hj => ?_⟩
    have := h.cells (g := g) rfl j (.int .u8 X[j].toNat) (by simp [byteCells, List.getElem?_eq_getElem hj])
    rwa [WideShapes.add_plain] at this
theorem dec_len20 (u : Nat) (h : u < 18446744073709551616) : (Lib.decDigits u).length ≤ 22 := by
  by_cases h1 : u < 10
  · rw [Lib.decDigits_one h1]; simp
  · have h2 := Lib.itoa_length_le ((u / 10 : Nat) : Int) (by omega) (by omega)
    have h3 : Lib.itoa ((u / 10 : Nat) : Int) = Lib.decDigits (u / 10) := by
      unfold Lib.itoa
      rw [if_neg (by omega), Int.toNat_natCast]
    rw [h3] at h2
    rw [Lib.decDigits, dif_neg h1, List.length_append]
    simp
    omega
theorem dec_pos (u : Nat) : 1 ≤ (Lib.decDigits u).length := by
  rw [Lib.decDigits_length]; exact Lib.nDigits_pos u
/-- An owned value that holds something, written out. -/
theorem own_form {w : World} {B : Nat} {v : Value} {n : Nat} {xs : List Value} (h : w.ownsRow B 5 1 v n xs) (h0 : 0 < n) : ∃ g cap, v = .slice (some ⟨g, 0, none⟩) n cap ∧ n ≤ cap ∧ cap ≤ maxLen := by
  rcases h.2 with ⟨-, h1⟩ | ⟨g, cap, cur, rfl, -, -, h2, h3, -, -⟩
  · omega
  · exact ⟨g, cap, rfl, h2, h3⟩
/-- The cells of an owned row, read from off on. -/
theorem cells_from {w : World} {B g n cap : Nat} {L : List UInt8} (h : w.ownsRow B 5 1 (.slice (some ⟨g, 0, none⟩) n cap) n (byteCells L)) (j : Nat) (hj : j < L.length) : w.cell? ⟨g, j, none⟩ = some (.int .u8 L[j].toNat) := by
  have := h.cells (g := g) rfl j (.int .u8 L[j].toNat) (by simp [byteCells, List.getElem?_eq_getElem hj])
  rwa [WideShapes.add_plain, Nat.zero_add] at this
/-- A part of it reads as that part of the bytes. -/
theorem reads_part {w : World} {B g n cap : Nat} {L : List UInt8} (h : w.ownsRow B 5 1 (.slice (some ⟨g, 0, none⟩) n cap) n (byteCells L)) (a M b : List UInt8) (hL : L = a ++ M ++ b) (off len c : Nat) (ho : off = a.length) (hl : len = M.length) : Reads w (.slice (some ⟨g, off, none⟩) len c) M := by
  subst ho; subst hl
  refine .inr ⟨g, a.length, c, rfl, fun j hj => ?_⟩
  have hj2 : a.length + j < L.length := by rw [hL]; simp; omega
  rw [cells_from h (a.length + j) hj2]
  have e : L[a.length + j] = M[j] := by
    have : L[a.length + j]? = M[j]? := by
      rw [hL, List.append_assoc, List.getElem?_append_right (by omega), Nat.add_sub_cancel_left, List.getElem?_append_left hj]
    rw [List.getElem?_eq_getElem hj2, List.getElem?_eq_getElem hj] at this
    exact Option.some.inj this
  rw [e]
theorem Tb.up {B B' : Nat} {w : World} (h : Tb B w) (hB : B ≤ B') : Tb B' w := fun w' hb => h w' (hb.mono hB)
theorem Tb.on {B : Nat} {w w1 : World} (h : Tb B w) (hb : Below B w w1) : Tb B w1 := fun w' h' => h w' (hb.trans h')

/-- An owned row outlives whatever is done from a block behind it on. -/
theorem own_kept {w w' : World} {B B' : Nat} {v : Value} {n : Nat} {xs : List Value} (h : w.ownsRow B 5 1 v n xs) (hb : Below B' w w') (hlt : w.heap.size ≤ B' ∨ ∃ w0 : World, w0.ownsRow B 5 1 v n xs ∧ w0.heap.size ≤ B') : w'.ownsRow B 5 1 v n xs := by
  obtain ⟨hl, h0 | ⟨g, cap, cur, rfl, h1, hh, r⟩⟩ := h
  · exact ⟨hl, .inl h0⟩
  · have hg : g < B' := by
      rcases hlt with hlt | ⟨w0, h0, hlt⟩
      · have : g < w.heap.size := by
          rcases Nat.lt_or_ge g w.heap.size with h2 | h2
          · exact h2
          · rw [Array.getElem?_eq_none h2] at hh; cases hh
        omega
      · have := (h0.lt g rfl).2
        omega
    exact ⟨hl, .inr ⟨g, cap, cur, rfl, h1, by rw [hb.block g hg]; exact hh, r⟩⟩
theorem own_list {w : World} {B : Nat} {v : Value} {X l : List UInt8} {w0 : World} (h : St B X.length (byteCells X) w0 w v l) : w.ownsRow B 5 1 v (X ++ l).length (byteCells (X ++ l)) := by
  rw [List.length_append, cells_append]; exact h.own

/-- What a step 'out := ZZAppendMemberJSONB1(c, cloneBytesB1(d), v)' leaves: d owns what it owned; out owns the new bytes; the rest is as it was. -/
theorem step_left {w w1 w2 w3 : World} {Bd : Nat} {d o : Value} {n : Nat} {X l : List UInt8} (hd : w1.ownsRow Bd 5 1 d n (byteCells X)) (hbw : Below w.heap.size w w1) (hb2 : Below w1.heap.size w1 w2) (h3 : St w1.heap.size X.length (byteCells X) w2 w3 o l) :
    w3.ownsRow Bd 5 1 d n (byteCells X) ∧ w3.ownsRow w1.heap.size 5 1 o (X ++ l).length (byteCells (X ++ l)) ∧ Below w.heap.size w w3 ∧ Below w1.heap.size w1 w3 :=
  ⟨own_kept hd (hb2.trans h3.below) (.inl (Nat.le_refl _)), own_list h3, hbw.trans ((hb2.trans h3.below).mono hbw.size), hb2.trans h3.below⟩

theorem keep2 {B : Nat} {wa wb : World} {g : Nat} {p q : Value} (hb : Below B wa wb) (hg : g < B) (h : wa.cell? ⟨g, 0, none⟩ = some p ∧ wa.cell? ⟨g, 1, none⟩ = some q) : wb.cell? ⟨g, 0, none⟩ = some p ∧ wb.cell? ⟨g, 1, none⟩ = some q :=
  ⟨(hb.cell (p := ⟨g, 0, none⟩) hg).trans h.1, (hb.cell (p := ⟨g, 1, none⟩) hg).trans h.2⟩

theorem quiet_plus {f : FuncId} {args : Array Value} {w : World} {a x : Nat} {v : Value} (h : Calls Tryd.prog f args (w.drewN (a + x)) fun e w' => e = .returned v ∧ ∃ q, w' = (w.drewN (a + x)).drewN q) :
    Calls Tryd.prog f args (w.drewN (a + x)) fun e w' => e = .returned v ∧ ∃ n, w' = w.drewN (a + n) :=
  h.mono fun _ _ ⟨he, q, hw⟩ => ⟨he, x + q, by rw [hw, drewN_drewN, Nat.add_assoc]⟩
theorem wrap_neg (u : Nat) (h1 : 1 ≤ u) (h2 : u < 18446744073709551616) : IntKind.u64.wrap (-(u : Int)) = ((18446744073709551616 - u : Nat) : Int) := by
  rw [IntKind.wrap_u64]
  omega
theorem zz_zero (B n : Nat) (name S : ByteArray) (sv : Value) (xs : List Value) (w : World) (hown : w.ownsRow B 5 1 sv n xs) (hBw : B ≤ w.heap.size) (hname : name.size ≤ 1048576) (hlim : n ≤ 1048576) (ht : Tb B w) :
    Calls Tryd.prog 9 #[.agg #[.string name, .int .u8 2], sv, .agg #[.int .u64 0, .string S]] w fun e w' => ∃ v', e = .returned v' ∧ St B n xs w w' v' (Plain.head name.data.toList ++ [48]) := by
  have h := zz_uint B n 0 (by decide) name S sv xs w hown hBw hname hlim ht
  rw [show Lib.decDigits 0 = [48] by rw [Lib.decDigits_one (by decide)]; rfl] at h
  exact h

set_option maxHeartbeats 1000000 in
set_option maxRecDepth 100000 in
theorem agree_low (name S : ByteArray) (a0 : Option Addr) (cap0 : Nat) (X : List UInt8) (u : Nat) (w : World) (hu : u ≤ 9223372036854775807) (h1 : name.size ≤ 262144) (h2 : X.length ≤ 262144) (h3 : S.size ≤ 262144) (hR : Reads w (.slice a0 X.length cap0) X) (ht : Tb w.heap.size w) :
    Calls Tryd.prog 4 #[.string name, .slice a0 X.length cap0, .int .u64 u, .string S] w fun e w' => e = .returned (.bool true) ∧ Below w.heap.size w w' := by
  have HC := hid (clone_any _ X w (by omega) hR)
  obtain ⟨n, hn⟩ : ∃ n, n = X.length := ⟨_, rfl⟩
  have HN := hid hn
  rw [← hn] at HC h2 ⊢
  have i1 : (name.size : Int) ≤ 262144 := by omega
  have i2 : (n : Int) ≤ 262144 := by omega
  have i3 : (S.size : Int) ≤ 262144 := by omega
  have HT := hid ht
  clear hR ht hn
  go_enter Tryd.func4, Tryd.ntmps4
  go_wp2_with (first
    | (go_at_call 8; refine HC.out.mono ?_; rintro e w1 ⟨v1, rfl, ho1, hb1⟩)
    | (go_at_call 14; go_in))
  have hs1 := hb1.size
  have T1 : Hid (Tb w.heap.size w1) := hid (Tb.on HT.out hb1)
  have T2 : Hid (Tb ((w1.alloc (.cells #[.int .u64 u, .string S] 31)).drew).heap.size ((w1.alloc (.cells #[.int .u64 u, .string S] 31)).drew)) := hid (Tb.up (Tb.on T1.out ((Below.refl _ _).alloc hs1 _).drew) (by simp; omega))
  go_region_held3 (fun w' => w'.cell? ⟨w1.heap.size, 0, none⟩ = some (.int .u64 u) ∧ w'.cell? ⟨w1.heap.size, 1, none⟩ = some (.string S)) (first | go_keep | exact keep2 h3.below (by simp) (by assumption) | exact keep2 hb2 (by simp) (by assumption)) ((first | (go_at_call 8; refine (clone_any v1 X _ (by rw [← HN.out]; omega) (reads_own ((ho1.alloc _).drew))).mono ?_; rintro e w2 ⟨v2, rfl, ho2, hb2⟩) | (go_at_call 9; refine (zz_int _ X.length u (by omega) name S v2 (byteCells X) w2 ho2 hb2.size (by omega) (by rw [← HN.out]; omega) (Tb.on T2.out hb2)).mono ?_; rintro e w3 ⟨v3, rfl, h3⟩)))
  have hc : w3.cell? ⟨w1.heap.size, 0, none⟩ = some (.int .u64 u) ∧ w3.cell? ⟨w1.heap.size, 1, none⟩ = some (.string S) := by assumption
  have hbw : Below w.heap.size w ((w1.alloc (.cells #[.int .u64 u, .string S] 31)).drew) := (hb1.alloc hs1 _).drew
  obtain ⟨o1, o3, hb3, hb3'⟩ := step_left ((ho1.alloc _).drew) hbw hb2 h3
  have hs3 : w1.heap.size + 1 ≤ w3.heap.size := by have := hb3'.size; simpa using this
  have T3 : Hid (Tb w3.drew.heap.size w3.drew) := hid (Tb.up (Tb.on HT.out hb3.drew) hb3.drew.size)
  have O1 := hid o1
  have O3 := hid o3
  have B3 := hid hb3
  obtain ⟨hc0, hc1⟩ := hc
  clear h3 hb2 ho2 ho1 hbw T2 T1 o1 o3 hb3 hb3' hb1 HC
  go_wp2
  go_region_held3 (fun w' => w'.cell? ⟨w1.heap.size, 0, none⟩ = some (.int .u64 u) ∧ w'.cell? ⟨w1.heap.size, 1, none⟩ = some (.string S)) (first | go_keep | exact keep2 h5.below (by simp; omega) (by assumption) | exact keep2 hb4 (by simp; omega) (by assumption)) ((first | (go_at_call 8; refine (clone_any v1 X _ (by rw [← HN.out]; omega) (reads_own O1.out.drew)).mono ?_; rintro e w4 ⟨v4, rfl, ho4, hb4⟩) | (go_at_call 9; refine (zz_uint _ X.length u (by omega) name S v4 (byteCells X) w4 ho4 hb4.size (by omega) (by rw [← HN.out]; omega) (Tb.on T3.out hb4)).mono ?_; rintro e w5 ⟨v5, rfl, h5⟩)))
  obtain ⟨o1, o5, hb5, hb5'⟩ := step_left O1.out.drew B3.out.drew hb4 h5
  have e1 : Lib.itoa (asInt u) = Lib.decDigits u := by
    unfold asInt
    rw [if_pos hu]
    unfold Lib.itoa
    rw [if_neg (by omega)]
    simp
  have o3' := own_kept O3.out.drew hb5' (.inl (Nat.le_refl _))
  have hq := equal_any v3 v5 _ _ w5 (by
    have h6 := Plain.head_len name.data.toList
    have h7 : name.data.toList.length = name.size := rfl
    have h8 := dec_len20 u (by omega)
    rw [e1, List.length_append, List.length_append, ← HN.out]
    omega) (reads_own o3') (reads_own o5)
  rw [e1, decide_eq_true rfl] at hq
  have HQ := hid hq
  have B5 := hid hb5
  clear h5 hb4 ho4 o1 o5 hb5 hb5' o3' hq e1 T3 hc0 hc1 O1 O3
  go_wp2_with (go_at_call 10; refine HQ.out.mono ?_; rintro e w6 ⟨rfl, q6, rfl⟩)
  go_ret
  exact ⟨rfl, below_drewN B5.out _⟩

set_option maxHeartbeats 1000000 in
set_option maxRecDepth 100000 in
theorem agree_high (name S : ByteArray) (a0 : Option Addr) (cap0 : Nat) (X : List UInt8) (u : Nat) (w : World) (hu : 9223372036854775808 ≤ u) (hu2 : u < 18446744073709551616) (h1 : name.size ≤ 262144) (h2 : X.length ≤ 262144) (h3 : S.size ≤ 262144) (hR : Reads w (.slice a0 X.length cap0) X) (ht : Tb w.heap.size w) :
    Calls Tryd.prog 4 #[.string name, .slice a0 X.length cap0, .int .u64 u, .string S] w fun e w' => e = .returned (.bool true) ∧ Below w.heap.size w w' := by
  have HC := hid (clone_any _ X w (by omega) hR)
  obtain ⟨n, hn⟩ : ∃ n, n = X.length := ⟨_, rfl⟩
  have HN := hid hn
  rw [← hn] at HC h2 ⊢
  have i1 : (name.size : Int) ≤ 262144 := by omega
  have i2 : (n : Int) ≤ 262144 := by omega
  have i3 : (S.size : Int) ≤ 262144 := by omega
  have HT := hid ht
  clear hR ht hn
  go_enter Tryd.func4, Tryd.ntmps4
  go_wp2_with (first
    | (go_at_call 8; refine HC.out.mono ?_; rintro e w1 ⟨v1, rfl, ho1, hb1⟩)
    | (go_at_call 14; go_in))
  have hs1 := hb1.size
  have T1 : Hid (Tb w.heap.size w1) := hid (Tb.on HT.out hb1)
  have T2 : Hid (Tb ((w1.alloc (.cells #[.int .u64 u, .string S] 31)).drew).heap.size ((w1.alloc (.cells #[.int .u64 u, .string S] 31)).drew)) := hid (Tb.up (Tb.on T1.out ((Below.refl _ _).alloc hs1 _).drew) (by simp; omega))
  go_region_held3 (fun w' => w'.cell? ⟨w1.heap.size, 0, none⟩ = some (.int .u64 u) ∧ w'.cell? ⟨w1.heap.size, 1, none⟩ = some (.string S)) (first | go_keep | exact keep2 h3.below (by simp) (by assumption) | exact keep2 hb2 (by simp) (by assumption)) ((first | (go_at_call 8; refine (clone_any v1 X _ (by rw [← HN.out]; omega) (reads_own ((ho1.alloc _).drew))).mono ?_; rintro e w2 ⟨v2, rfl, ho2, hb2⟩) | (go_at_call 9; refine (zz_int _ X.length u (by omega) name S v2 (byteCells X) w2 ho2 hb2.size (by omega) (by rw [← HN.out]; omega) (Tb.on T2.out hb2)).mono ?_; rintro e w3 ⟨v3, rfl, h3⟩)))
  have hc : w3.cell? ⟨w1.heap.size, 0, none⟩ = some (.int .u64 u) ∧ w3.cell? ⟨w1.heap.size, 1, none⟩ = some (.string S) := by assumption
  have hbw : Below w.heap.size w ((w1.alloc (.cells #[.int .u64 u, .string S] 31)).drew) := (hb1.alloc hs1 _).drew
  obtain ⟨o1, o3, hb3, hb3'⟩ := step_left ((ho1.alloc _).drew) hbw hb2 h3
  have hs3 : w1.heap.size + 1 ≤ w3.heap.size := by have := hb3'.size; simpa using this
  have T3 : Hid (Tb w3.drew.heap.size w3.drew) := hid (Tb.up (Tb.on HT.out hb3.drew) hb3.drew.size)
  have O1 := hid o1
  have O3 := hid o3
  have B3 := hid hb3
  obtain ⟨Pf, hPf⟩ : ∃ Pf, Pf = X ++ Plain.head name.data.toList := ⟨_, rfl⟩
  obtain ⟨D, hD⟩ : ∃ D, D = Lib.decDigits (18446744073709551616 - u) := ⟨_, rfl⟩
  have ei : Lib.itoa (asInt u) = 45 :: D := by
    unfold asInt
    rw [if_neg (by omega)]
    unfold Lib.itoa
    rw [if_pos (by omega), hD]
    congr 2
    omega
  have hd1 : 1 ≤ D.length := by rw [hD]; exact dec_pos _
  have hd2 : D.length ≤ 22 := by rw [hD]; exact dec_len20 _ (by omega)
  have hp1 : Pf.length ≤ 2000000 := by
    have h6 := Plain.head_len name.data.toList
    have h7 : name.data.toList.length = name.size := rfl
    rw [hPf, List.length_append, ← HN.out]
    omega
  obtain ⟨p, hp⟩ : ∃ p, p = Pf.length := ⟨_, rfl⟩
  obtain ⟨d, hd⟩ : ∃ d, d = D.length := ⟨_, rfl⟩
  rw [ei, ← List.append_assoc, ← hPf, show (Pf ++ 45 :: D).length = p + 1 + d by rw [hp, hd]; simp; omega] at o3
  rw [← hp] at hp1
  rw [← hd] at hd1 hd2
  obtain ⟨g3, cap3, e3, hcap3, hmax3⟩ := own_form o3 (by omega)
  subst e3
  have O3 := hid o3
  have HPf := hid hPf
  have HD := hid hD
  have HP := hid hp
  have Hd := hid hd
  clear h3 hb2 ho2 ho1 hbw T2 T1 o1 o3 hb3 hb3' hb1 HC hc ei hPf hD hp hd
  go_wp2_with (first
    | (go_at_call 8; refine (clone_any v1 X _ (by rw [← HN.out]; omega) (reads_own O1.out)).mono ?_; rintro e w4 ⟨v4, rfl, ho4, hb4⟩; refine Hid.out ?_))
  refine hid ?_
  go_wp2_with fail
  have hX2 : X.length ≤ 1048576 := by rw [← HN.out]; omega
  refine (zz_zero _ X.length name S v4 (byteCells X) w4 ho4 hb4.size (by omega) hX2 (Tb.on (Tb.up (Tb.on HT.out B3.out) B3.out.size) hb4)).mono ?_
  rintro e w5 ⟨v5, rfl, h5⟩
  obtain ⟨o1, o5, hb5, hb5'⟩ := step_left O1.out B3.out hb4 h5
  rw [← List.append_assoc, ← HPf.out, show (Pf ++ [(48 : UInt8)]).length = p + 1 by rw [HP.out]; simp] at o5
  obtain ⟨g5, cap5, e5, hcap5, hmax5⟩ := own_form o5 (by omega)
  subst e5
  have O3b := hid (own_kept O3.out hb5' (.inl (Nat.le_refl _)))
  have O1b := hid o1
  have B5 := hid hb5
  clear h5 hb4 ho4 o1 o5 hb5 hb5' O1 O3 B3 hX2 T3
  go_wp2_with fail
  refine (clone_any v1 X _ (by rw [← HN.out]; omega) (reads_own O1b.out)).mono ?_
  rintro e w6 ⟨v6, rfl, ho6, hb6⟩
  go_wp2_with fail
  have hz := zz_uint _ X.length (18446744073709551616 - u) (by omega) name S v6 (byteCells X) w6 ho6 hb6.size (by omega) (by rw [← HN.out]; omega) (Tb.on (Tb.up (Tb.on HT.out B5.out) B5.out.size) hb6)
  rw [← wrap_neg u (by omega) (by omega), ← HD.out] at hz
  refine hz.mono ?_
  clear hz
  rintro e w7 ⟨v7, rfl, h7⟩
  obtain ⟨-, o7, hb7, hb7'⟩ := step_left O1b.out B5.out hb6 h7
  rw [← List.append_assoc, ← HPf.out, show (Pf ++ D).length = p + d by rw [HP.out, Hd.out]; simp] at o7
  obtain ⟨g7, cap7, e7, hcap7, hmax7⟩ := own_form o7 (by omega)
  subst e7
  have O3c := hid (own_kept O3b.out hb7' (.inl (Nat.le_refl _)))
  have O7 := hid o7
  have B7 := hid hb7
  unfold maxLen at hmax3 hmax5 hmax7
  clear h7 hb6 ho6 o7 hb7 hb7' O1b O3b B5 HT
  have y1 : (p : Int) ≤ (cap3 : Int) := by omega
  have y2 : (p : Int) ≤ (cap7 : Int) := by omega
  have y3 : (p : Int) + 1 ≤ (p : Int) + 1 + (d : Int) := by omega
  have y4 : ((p + 1 + d : Nat) : Int) = (p : Int) + 1 + (d : Int) := by omega
  have y5 : ((p : Int) + 1 + (d : Int) != (p : Int) + (d : Int) + 1) = false := bnef (by omega)
  have y6 : (p : Int) ≤ (p : Int) + (d : Int) := by omega
  have y7 : (p : Int) < (p : Int) + 1 + (d : Int) := by omega
  have c45 : w7.cell? ⟨g3, p, none⟩ = some (.int .u8 45) := by
    have hj : p < (Pf ++ 45 :: D).length := by rw [HP.out]; simp
    rw [cells_from O3c.out p hj]
    have e : (Pf ++ 45 :: D)[p] = 45 := by
      have h8 : (Pf ++ 45 :: D)[p]? = some 45 := by rw [List.getElem?_append_right (by rw [HP.out]; exact Nat.le_refl _), HP.out, Nat.sub_self]; rfl
      rw [List.getElem?_eq_getElem hj] at h8
      exact Option.some.inj h8
    rw [e]; rfl
  have HQ1 : Hid (∀ nq, Calls Tryd.prog 10 #[.slice (some ⟨g3, 0, none⟩) p cap3, .slice (some ⟨g7, 0, none⟩) p cap7] (w7.drewN nq) fun e w' => e = .returned (.bool true) ∧ ∃ q, w' = (w7.drewN nq).drewN q) := hid fun nq => by
    have h8 := equal_any (.slice (some ⟨g3, 0, none⟩) p cap3) (.slice (some ⟨g7, 0, none⟩) p cap7) Pf Pf (w7.drewN nq) (by rw [← HP.out]; omega) (reads_part (w := w7) O3c.out [] Pf (45 :: D) rfl 0 p cap3 rfl HP.out) (reads_part (w := w7) O7.out [] Pf D rfl 0 p cap7 rfl HP.out)
    rwa [decide_eq_true rfl] at h8
  have HQ2 : Hid (∀ nq, Calls Tryd.prog 10 #[.slice (some ⟨g3, p + 1, none⟩) d (cap3 - (p + 1)), .slice (some ⟨g7, p, none⟩) d (cap7 - p)] (w7.drewN nq) fun e w' => e = .returned (.bool true) ∧ ∃ q, w' = (w7.drewN nq).drewN q) := hid fun nq => by
    have h8 := equal_any (.slice (some ⟨g3, p + 1, none⟩) d (cap3 - (p + 1))) (.slice (some ⟨g7, p, none⟩) d (cap7 - p)) D D (w7.drewN nq) (by rw [← Hd.out]; omega) (reads_part (w := w7) O3c.out (Pf ++ [45]) D [] (by simp) (p + 1) d _ (by rw [HP.out]; simp) Hd.out) (reads_part (w := w7) O7.out Pf D [] (by simp) p d _ HP.out Hd.out)
    rwa [decide_eq_true rfl] at h8
  have q1 : ¬ cap3 = p + 1 := by omega
  have q2 : ¬ cap7 = p := by omega
  have q3 : (p : Int) + 1 ≤ (cap3 : Int) := by omega
  have q4 : ((p : Int) + 1).toNat = p + 1 := by omega
  go_wp2
  go_quiet ((go_at_call 10; exact Calls.quiet_of (HQ1.out _)))
  go_wp2
  go_quiet ((go_at_call 10; exact quiet_plus (HQ2.out _)))
  go_wp2
  go_ret
  exact ⟨rfl, below_drewN (below_drewN B7.out _) _⟩

set_option maxHeartbeats 400000 in
theorem agree_out (name S : ByteArray) (a0 : Option Addr) (n cap0 : Nat) (u : Int) (w : World) (h : 262144 < name.size ∨ 262144 < n ∨ 262144 < S.size) (h1 : name.size ≤ 9223372036854775807) (h2 : n ≤ 9223372036854775807) (h3 : S.size ≤ 9223372036854775807) :
    Calls Tryd.prog 4 #[.string name, .slice a0 n cap0, .int .u64 u, .string S] w fun e w' => e = .returned (.bool true) ∧ Below w.heap.size w w' := by
  by_cases c1 : (1048576 : Int) < (name.size : Int)
  · go_enter Tryd.func4, Tryd.ntmps4
    go_wp2
    go_ret
    exact ⟨rfl, Below.refl _ _⟩
  by_cases c2 : (1048576 : Int) < (n : Int)
  · go_enter Tryd.func4, Tryd.ntmps4
    go_wp2
    go_ret
    exact ⟨rfl, Below.refl _ _⟩
  by_cases c3 : (1048576 : Int) < (name.size : Int) + (n : Int)
  · go_enter Tryd.func4, Tryd.ntmps4
    go_wp2
    go_ret
    exact ⟨rfl, Below.refl _ _⟩
  by_cases c4 : (1048576 : Int) < (S.size : Int)
  · go_enter Tryd.func4, Tryd.ntmps4
    go_wp2
    go_ret
    exact ⟨rfl, Below.refl _ _⟩
  by_cases c5 : (1048576 : Int) < (name.size : Int) + (n : Int) + (S.size : Int)
  · go_enter Tryd.func4, Tryd.ntmps4
    go_wp2
    go_ret
    exact ⟨rfl, Below.refl _ _⟩
  by_cases c6 : (262144 : Int) < (name.size : Int)
  · go_enter Tryd.func4, Tryd.ntmps4
    go_wp2
    go_ret
    exact ⟨rfl, Below.refl _ _⟩
  by_cases c7 : (262144 : Int) < (n : Int)
  · go_enter Tryd.func4, Tryd.ntmps4
    go_wp2
    go_ret
    exact ⟨rfl, Below.refl _ _⟩
  have c8 : (262144 : Int) < (S.size : Int) := by omega
  go_enter Tryd.func4, Tryd.ntmps4
  go_wp2
  go_ret
  exact ⟨rfl, Below.refl _ _⟩

theorem agree_any (name S : ByteArray) (a0 : Option Addr) (cap0 : Nat) (X : List UInt8) (u : Nat) (w : World) (hu : u < 18446744073709551616) (h1 : name.size ≤ maxLen) (h2 : X.length ≤ maxLen) (h3 : S.size ≤ maxLen) (hR : Reads w (.slice a0 X.length cap0) X) (ht : Tb w.heap.size w) :
    Calls Tryd.prog 4 #[.string name, .slice a0 X.length cap0, .int .u64 u, .string S] w fun e w' => e = .returned (.bool true) ∧ Below w.heap.size w w' := by
  unfold maxLen at h1 h2 h3
  by_cases h : 262144 < name.size ∨ 262144 < X.length ∨ 262144 < S.size
  · exact agree_out name S a0 X.length cap0 u w h h1 h2 h3
  · by_cases hl : u ≤ 9223372036854775807
    · exact agree_low name S a0 cap0 X u w hl (by omega) (by omega) (by omega) hR ht
    · exact agree_high name S a0 cap0 X u w (by omega) hu (by omega) (by omega) (by omega) hR ht
end Go.Proofs.Qxb6603296aDoor
