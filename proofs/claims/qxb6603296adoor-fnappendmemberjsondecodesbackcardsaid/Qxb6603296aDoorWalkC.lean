/-
  Seat b6603296aD: THE WALKS of cloneBytesB1 and equalBytesB1.
-/
import Derived.Test.Qxb6603296aDoorWalkB
import Derived.Lib.SliceRun
namespace Go.Proofs.Qxb6603296aDoor
open Go.RowKit
open Go.Lib (byteCells)

/-- The slice value v reads as the bytes X in the world w. -/
def Reads (w : World) (v : Value) (X : List UInt8) : Prop :=
  (∃ a cap, v = .slice a 0 cap ∧ X = []) ∨ ∃ b off cap, v = .slice (some ⟨b, off, none⟩) X.length cap ∧ ∀ j (h : j < X.length), w.cell? ⟨b, off + j, none⟩ = some (.int .u8 X[j].toNat)

theorem set_heap {w : World} {g : Nat} {cur : Array Value} {t : TypeId} {fz : Nat × Nat} (h : w.heap[g]? = some (.cells cur t fz)) (k : Nat) (u : Value) : (w.setCell ⟨g, k, none⟩ u).heap[g]? = some (.cells (cur.setIfInBounds k u) t fz) := by
  simp only [World.setCell, Array.getElem?_modify, if_pos, h, Option.map_some]
  rfl
theorem cell_heap {w : World} {g : Nat} {cur : Array Value} {t : TypeId} {fz : Nat × Nat} (h : w.heap[g]? = some (.cells cur t fz)) (k : Nat) : w.cell? ⟨g, k, none⟩ = cur[k]? := by
  unfold World.cell?
  rw [h]
  simp
theorem frozen_heap {w : World} {g : Nat} {cur : Array Value} {t : TypeId} (h : w.heap[g]? = some (.cells cur t (0, 0))) (k : Nat) : w.frozen? ⟨g, k, none⟩ = false := by
  unfold World.frozen?
  rw [h]
  simp

set_option maxHeartbeats 400000 in
theorem clone_nil (cap : Nat) (w : World) :
    Calls Tryd.prog 8 #[.slice none 0 cap] w fun e w' => e = .returned (.slice none 0 0) ∧ w' = w := by
  have hq := fun wx => Lib.run_eql_slice_nil (P := Tryd.prog) wx 22 5 none 0 cap 0 0 Tryd.underlying22
  go_enter Tryd.func8, Tryd.ntmps8
  go_wp2
  go_ret
  exact ⟨rfl, rfl⟩

set_option maxHeartbeats 400000 in
theorem clone_zero (x : Addr) (cap : Nat) (w : World) :
    Calls Tryd.prog 8 #[.slice (some x) 0 cap] w fun e w' => e = .returned (.slice (some ⟨w.heap.size, 0, none⟩) 0 0) ∧ w'.ownsRow w.heap.size 5 1 (.slice (some ⟨w.heap.size, 0, none⟩) 0 0) 0 (byteCells []) ∧ Below w.heap.size w w' := by
  obtain ⟨i0, hi, hz0, hz1, hz2⟩ := info_parts Tryd.info5
  have hq := fun wx => Lib.run_eql_slice_nil (P := Tryd.prog) wx 22 5 (some x) 0 cap 0 0 Tryd.underlying22
  go_enter Tryd.func8, Tryd.ntmps8
  go_wp2_with (at_make; refine wpList_make_full _ rfl _ _ 22 rfl w.heap.size 5 i0 (.int .u8 0) 1 Tryd.underlying22 hi hz0 hz1 _ _ _ _ 0 rfl rfl rfl rfl (by omega) (Nat.zero_le _) (Nat.le_refl _) ?_)
  intro w1 hown1 hgrow1
  have hb1 : Below w.heap.size w w1 := (Below.refl _ _).grown hgrow1 (Nat.le_refl _) (fun k h => by cases h)
  have hown : w1.ownsRow w.heap.size 5 1 (.slice (some ⟨w.heap.size, 0, none⟩) 0 0) 0 (byteCells []) := by
    obtain ⟨ys, hys⟩ : ∃ ys, w1.ownsRow w.heap.size 5 1 (.slice (some ⟨w.heap.size, 0, none⟩) 0 0) 0 ys := ⟨_, hown1⟩
    obtain rfl : ys = [] := List.length_eq_zero_iff.1 (by rw [hys.1])
    exact hys
  have HO := hid hown
  clear hown1 hgrow1 hown
  go_wp2
  go_loop [4] (fun i => i = .int .i64 0) (fun _ => 0)
  case atStart => rfl
  case round =>
    subst hrel
    go_wp2
    go_ret
    exact ⟨rfl, HO.out, hb1⟩

set_option maxHeartbeats 400000 in
theorem clone_some (b off cap : Nat) (X : List UInt8) (w : World) (hb : b < w.heap.size ∨ X = []) (hX : X.length ≤ 67108864) (hc : ∀ j (h : j < X.length), w.cell? ⟨b, off + j, none⟩ = some (.int .u8 X[j].toNat)) :
    Calls Tryd.prog 8 #[.slice (some ⟨b, off, none⟩) X.length cap] w fun e w' => e = .returned (.slice (some ⟨w.heap.size, 0, none⟩) X.length X.length) ∧ w'.ownsRow w.heap.size 5 1 (.slice (some ⟨w.heap.size, 0, none⟩) X.length X.length) X.length (byteCells X) ∧ Below w.heap.size w w' := by
  obtain ⟨i0, hi, hz0, hz1, hz2⟩ := info_parts Tryd.info5
  have hq := fun wx => Lib.run_eql_slice_nil (P := Tryd.prog) wx 22 5 (some ⟨b, off, none⟩) X.length cap 0 0 Tryd.underlying22
  have HC := hid hc
  clear hc
  obtain ⟨n, hn⟩ : ∃ n, n = X.length := ⟨_, rfl⟩
  rw [← hn] at hq hX ⊢
  have HN := hid hn
  clear hn
  have hni : (n : Int) ≤ 67108864 := by omega
  go_enter Tryd.func8, Tryd.ntmps8
  go_wp2_with (at_make; refine wpList_make_full _ rfl _ _ 22 rfl w.heap.size 5 i0 (.int .u8 0) 1 Tryd.underlying22 hi hz0 hz1 _ _ _ _ n rfl rfl rfl rfl (by rw [hz2]; omega) (by unfold maxLen; omega) (Nat.le_refl _) ?_)
  intro w1 hown1 hgrow1
  have hb1 : Below w.heap.size w w1 := (Below.refl _ _).grown hgrow1 (Nat.le_refl _) (fun k h => by cases h)
  obtain ⟨cur, hcur, hsz⟩ : ∃ cur, w1.heap[w.heap.size]? = some (.cells cur 5 (0, 0)) ∧ cur.size = n := by
    rcases hown1.2 with ⟨h, -⟩ | ⟨g, cp, cu, h, -, hh, -, -, hs, -⟩
    · cases h
    · injection h with h1 h2 h3
      injection h1 with h1
      injection h1 with h1
      subst h1; subst h3
      exact ⟨cu, hh, by omega⟩
  have HS : Hid (∃ cur, w1.heap[w.heap.size]? = some (.cells cur 5 (0, 0)) ∧ cur.size = n ∧ ∀ j (h : j < X.length), j < 0 → cur[j]? = some (.int .u8 X[j].toNat)) := hid ⟨cur, hcur, hsz, fun j _ h => absurd h (Nat.not_lt_zero _)⟩
  clear hown1 hgrow1 hcur hsz
  go_wp2
  go_loopw [4] (fun i wr => ∃ k : Nat, k ≤ n ∧ i = .int .i64 k ∧ Hid (∃ cur, wr.heap[w.heap.size]? = some (.cells cur 5 (0, 0)) ∧ cur.size = n ∧ ∀ j (h : j < X.length), j < k → cur[j]? = some (.int .u8 X[j].toNat)) ∧ Below w.heap.size w wr) (fun i _ => n - (intOf i).toNat)
  case atStart => exact ⟨0, Nat.zero_le _, rfl, HS, hb1⟩
  case round =>
    obtain ⟨k, hk, rfl, HR, hbr⟩ := hrel
    by_cases hlt : k < n
    · obtain ⟨cur, r1, r2, r3⟩ := HR.out
      have hkX : k < X.length := by rw [← HN.out]; exact hlt
      have hbw : b < w.heap.size := by
        rcases hb with h | h
        · exact h
        · rw [h] at hkX; exact absurd hkX (Nat.not_lt_zero _)
      have g1 : wr.cell? ⟨b, off + k, none⟩ = some (.int .u8 X[k].toNat) := (hbr.cell (by exact hbw)).trans (HC.out k hkX)
      have g2 : ∃ v0, wr.cell? ⟨w.heap.size, k, none⟩ = some v0 := ⟨cur[k]'(by omega), by rw [cell_heap r1, Array.getElem?_eq_getElem (by omega)]⟩
      obtain ⟨v0, g2⟩ := g2
      have g3 : wr.frozen? ⟨w.heap.size, k, none⟩ = false := frozen_heap r1 k
      have x1 : (k : Int) < (n : Int) := by omega
      have HR1 := hid r1
      have HR2 := hid r2
      have HR3 := hid r3
      clear r1 r2 r3
      go_wp2
      go_roundw
      case rel =>
        refine ⟨k + 1, by omega, by go_num, hid ⟨_, set_heap HR1.out k _, by rw [Array.size_setIfInBounds]; exact HR2.out, fun j h hj => ?_⟩, hbr.setCell (Nat.le_refl _) _⟩
        by_cases e : j = k
        · subst e
          rw [Array.getElem?_setIfInBounds_self_of_lt (by have := HR2.out; omega)]
        · rw [Array.getElem?_setIfInBounds_ne (fun h => e h.symm)]
          exact HR3.out j h (by omega)
      case measure => simp [intOf]; omega
    · obtain ⟨cur, r1, r2, r3⟩ := HR.out
      have hkn : k = n := by omega
      subst hkn
      have hown : wr.ownsRow w.heap.size 5 1 (.slice (some ⟨w.heap.size, 0, none⟩) k k) k (byteCells X) := by
        have hl : X.length = k := HN.out.symm
        refine ⟨by simp [byteCells, hl], .inr ⟨w.heap.size, k, cur, rfl, Nat.le_refl _, r1, Nat.le_refl _, by unfold maxLen; omega, by omega, ?_⟩⟩
        apply List.ext_getElem?
        intro j
        by_cases hj : j < X.length
        · rw [List.getElem?_take_of_lt (by omega), Array.getElem?_toList, r3 j hj (by omega)]
          simp [byteCells, List.getElem?_eq_getElem hj]
        · rw [List.getElem?_eq_none (by simp; omega), List.getElem?_eq_none (by simp [byteCells]; omega)]
      have HOW := hid hown
      clear r1 r2 r3 hown
      go_wp2
      go_ret
      exact ⟨rfl, HOW.out, hbr⟩

set_option maxHeartbeats 400000 in
theorem equal_len (a a' : Option Addr) (n m cap cap' : Nat) (w : World) (hne : n ≠ m) :
    Calls Tryd.prog 10 #[.slice a n cap, .slice a' m cap'] w fun e w' => e = .returned (.bool false) ∧ ∃ q, w' = w.drewN q := by
  have h1 : ((n : Int) != (m : Int)) = true := bnet (by omega)
  go_enter Tryd.func10, Tryd.ntmps10
  go_wp2
  go_ret
  exact ⟨rfl, 0, rfl⟩

set_option maxHeartbeats 400000 in
theorem equal_zero (a a' : Option Addr) (cap cap' : Nat) (w : World) :
    Calls Tryd.prog 10 #[.slice a 0 cap, .slice a' 0 cap'] w fun e w' => e = .returned (.bool true) ∧ ∃ q, w' = w.drewN q := by
  go_enter Tryd.func10, Tryd.ntmps10
  go_wp2
  go_loop [5] (fun i => i = .int .i64 0) (fun _ => 0)
  case atStart => rfl
  case round =>
    subst hrel
    go_wp2
    go_ret
    exact ⟨rfl, 0, rfl⟩

theorem drewN_drewN (w : World) (a b : Nat) : (w.drewN a).drewN b = w.drewN (a + b) := by
  simp [World.drewN, Nat.add_assoc]

set_option maxHeartbeats 400000 in
theorem equal_same (b off cap b' off' cap' : Nat) (X Y : List UInt8) (n : Nat) (hX0 : X.length = n) (hY0 : Y.length = n) (w : World) (hl : n ≤ 67108864) (hX : ∀ j (h : j < X.length), w.cell? ⟨b, off + j, none⟩ = some (.int .u8 X[j].toNat)) (hY : ∀ j (h : j < Y.length), w.cell? ⟨b', off' + j, none⟩ = some (.int .u8 Y[j].toNat)) :
    Calls Tryd.prog 10 #[.slice (some ⟨b, off, none⟩) n cap, .slice (some ⟨b', off', none⟩) n cap'] w fun e w' => e = .returned (.bool (decide (X = Y))) ∧ ∃ q, w' = w.drewN q := by
  obtain ⟨r, hr⟩ : ∃ r, r = decide (X = Y) := ⟨_, rfl⟩
  rw [← hr]
  have HR := hid hr
  have HX := hid hX
  have HY := hid hY
  have HX0 := hid hX0
  have HY0 := hid hY0
  have hni : (n : Int) ≤ 67108864 := by omega
  clear hr hX hY hX0 hY0
  go_enter Tryd.func10, Tryd.ntmps10
  go_wp2
  go_loopw [5] (fun i wr => ∃ k : Nat, k ≤ n ∧ i = .int .i64 k ∧ Hid (∀ j, j < k → X[j]? = Y[j]?) ∧ Hid (∃ q, wr = w.drewN q)) (fun i _ => n - (intOf i).toNat)
  case atStart => exact ⟨0, Nat.zero_le _, rfl, hid (fun j h => absurd h (Nat.not_lt_zero _)), hid ⟨0, rfl⟩⟩
  case round =>
    obtain ⟨k, hk, rfl, HE, HQ⟩ := hrel
    obtain ⟨q, hq⟩ := HQ.out
    subst hq
    by_cases hlt : k < n
    · have kX : k < X.length := by rw [HX0.out]; exact hlt
      have kY : k < Y.length := by rw [HY0.out]; exact hlt
      have c1 : w.cell? ⟨b, off + k, none⟩ = some (.int .u8 X[k].toNat) := HX.out k kX
      have c2 : w.cell? ⟨b', off' + k, none⟩ = some (.int .u8 Y[k].toNat) := HY.out k kY
      have x1 : (k : Int) < (n : Int) := by omega
      go_wp2
      go_quiet (fail)
      go_wp2
      · have hne : ((X[k].toNat : Int) != (Y[k].toNat : Int)) = true := by assumption
        go_ret
        refine ⟨ret_bool ?_, ⟨_, drewN_drewN _ _ _⟩⟩
        rw [HR.out, eq_comm, decide_eq_false_iff_not]
        intro e
        subst e
        simp at hne
      · have hne : ((X[k].toNat : Int) != (Y[k].toNat : Int)) = false := by assumption
        go_roundw
        case rel =>
          refine ⟨k + 1, by omega, by go_num, hid (fun j hj => ?_), hid ⟨_, rfl⟩⟩
          by_cases e : j = k
          · subst e
            rw [List.getElem?_eq_getElem kX, List.getElem?_eq_getElem kY, UInt8.toNat_inj.1 (show X[j].toNat = Y[j].toNat by simp at hne; omega)]
          · exact HE.out j (by omega)
        case measure => simp [intOf]; omega
    · go_wp2
      go_ret
      refine ⟨ret_bool ?_, ⟨q, rfl⟩⟩
      rw [HR.out, eq_comm, decide_eq_true_iff]
      apply List.ext_getElem?
      intro j
      by_cases hj : j < k
      · exact HE.out j hj
      · rw [List.getElem?_eq_none (by have := HX0.out; omega), List.getElem?_eq_none (by have := HY0.out; omega)]

/-- equalBytesB1, at every two slices that can be read. -/
theorem equal_any (va vb : Value) (X Y : List UInt8) (w : World) (hl : X.length ≤ 67108864) (hX : Reads w va X) (hY : Reads w vb Y) :
    Calls Tryd.prog 10 #[va, vb] w fun e w' => e = .returned (.bool (decide (X = Y))) ∧ ∃ q, w' = w.drewN q := by
  by_cases hne : X.length = Y.length
  · rcases hX with ⟨a, cap, rfl, rfl⟩ | ⟨b, off, cap, rfl, h1⟩
    · have e : Y = [] := List.length_eq_zero_iff.1 hne.symm
      subst e
      rcases hY with ⟨a', cap', rfl, -⟩ | ⟨b', off', cap', rfl, -⟩
      · exact equal_zero a a' cap cap' w
      · exact equal_zero a _ cap cap' w
    · rcases hY with ⟨a', cap', rfl, rfl⟩ | ⟨b', off', cap', rfl, h2⟩
      · have e : X = [] := List.length_eq_zero_iff.1 hne
        subst e
        exact equal_zero _ a' cap cap' w
      · rw [← hne]
        exact equal_same b off cap b' off' cap' X Y X.length rfl hne.symm w hl h1 h2
  · have e : decide (X = Y) = false := decide_eq_false (fun e => hne (by rw [e]))
    rw [e]
    rcases hX with ⟨a, cap, rfl, rfl⟩ | ⟨b, off, cap, rfl, h1⟩ <;> rcases hY with ⟨a', cap', rfl, rfl⟩ | ⟨b', off', cap', rfl, h2⟩
    · exact absurd rfl hne
    · exact equal_len a _ 0 _ cap cap' w hne
    · exact equal_len _ a' _ 0 cap cap' w hne
    · exact equal_len _ _ _ _ cap cap' w hne

/-- cloneBytesB1: what comes back owns the same bytes in new memory (or is nil, as what came in). -/
theorem clone_any (v : Value) (X : List UInt8) (w : World) (hX : X.length ≤ 67108864) (h : Reads w v X) :
    Calls Tryd.prog 8 #[v] w fun e w' => ∃ v', e = .returned v' ∧ w'.ownsRow w.heap.size 5 1 v' X.length (byteCells X) ∧ Below w.heap.size w w' := by
  rcases h with ⟨a, cap, rfl, rfl⟩ | ⟨b, off, cap, rfl, hc⟩
  · cases a with
    | none =>
      refine (clone_nil cap w).mono ?_
      rintro e w' ⟨rfl, rfl⟩
      exact ⟨_, rfl, World.ownsRow_nil _ _ _ _, Below.refl _ _⟩
    | some x =>
      refine (clone_zero x cap w).mono ?_
      rintro e w' ⟨rfl, ho, hb⟩
      exact ⟨_, rfl, ho, hb⟩
  · refine (clone_some b off cap X w ?_ hX hc).mono ?_
    · by_cases e : X = []
      · exact .inr e
      · refine .inl ?_
        have h0 : 0 < X.length := by
          rcases Nat.eq_zero_or_pos X.length with h | h
          · exact absurd (List.length_eq_zero_iff.1 h) e
          · exact h
        exact World.block_lt_of_cell? w _ (hc 0 h0)
    · rintro e w' ⟨rfl, ho, hb⟩
      exact ⟨_, rfl, ho, hb⟩
end Go.Proofs.Qxb6603296aDoor
