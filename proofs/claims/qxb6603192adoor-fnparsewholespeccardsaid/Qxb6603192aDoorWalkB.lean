/-
  Seat b6603192aD: THE WALK of FnParseWholeRoundTrip over its callees' contracts.
-/
import Derived.Test.Qxb6603192aDoorWalkA
namespace Go.Proofs.Qxb6603192aDoor
open Go.RowKit

theorem Tryd.info5 : (Tryd.prog.info? 5).map (fun i => (i.zero, i.size, i.bytes)) = some (some (.int .u8 0), 1, 1) := by kernel_rfl

def bc (l : List UInt8) : List Value := l.map fun c => .int .u8 c.toNat
theorem bc_snoc (l : List UInt8) (c : UInt8) : bc (l ++ [c]) = bc l ++ [.int .u8 c.toNat] := by simp [bc]
theorem bc_get (l : List UInt8) (j : Nat) (hj : j < l.length) : (bc l)[j]? = some (.int .u8 (l[j].toNat : Int)) := by simp [bc, List.getElem?_eq_getElem hj]
theorem bc_length (l : List UInt8) : (bc l).length = l.length := by simp [bc]
theorem one_new (w : World) (v : Value) (t : TypeId) : ∀ j u, [v][j]? = some u → (w.alloc (.cells #[v] t)).cell? ((⟨w.heap.size, 0, none⟩ : Addr).add j) = some u := by
  intro j u hj
  match j, hj with
  | 0, hj => simp at hj; subst hj; rw [WideShapes.add_plain, World.cell?_alloc_mark]; rfl

theorem decimal_str (n : Nat) (h0 : 1 ≤ n) (h1 : n ≤ 9223372036854775807) (w : World) :
    Calls Tryd.prog 6 #[.int .i64 n] w fun e w' => ∃ T : ByteArray, e = .returned (.string T) ∧ 1 ≤ T.size ∧ T.size ≤ 24 ∧ Hid ((∀ c ∈ T.data.toList, Plain.dig c = true) ∧ Plain.val T.data.toList = n) ∧ Below w.heap.size w w' :=
  (decimal_any n h0 h1 w).mono fun e w' ⟨D, he, d0, d1, d2, d3, hb⟩ => by
    have hs : (⟨D.toArray⟩ : ByteArray).size = D.length := by simp [ByteArray.size]
    have hl : D.length ≠ 0 := fun e => d0 (List.length_eq_zero_iff.1 e)
    exact ⟨⟨D.toArray⟩, he, by omega, by omega, hid ⟨by simpa using d2, by simpa using d3⟩, hb⟩

/-- What the law asks of 'ZZparseWhole' at a numeral. -/
def PwOk : Prop := ∀ (s : ByteArray) (n : Nat) (w : World), s.size ≤ 100000 → 1 ≤ s.size → (∀ c ∈ s.data.toList, Plain.dig c = true) → Plain.val s.data.toList = n → 1 ≤ n → n ≤ 9223372036854775807 →
  Calls Tryd.prog 7 #[.string s] w fun e w' => e = .returned (.tuple #[.int .i64 n, .bool true]) ∧ Below w.heap.size w w'

set_option maxHeartbeats 1000000 in
theorem roundtrip_main (n z : Nat) (h0 : 1 ≤ n) (h1 : n ≤ 9223372036854775807) (hz : z ≤ 65536) (w : World) (PW : Hid PwOk) :
    Calls Tryd.prog 3 #[.int .i64 n, .int .i64 z] w fun e w' => e = .returned (.bool true) ∧ Below w.heap.size w w' := by
  obtain ⟨i0, hi, hz0, hz1, hz2⟩ := info_parts Tryd.info5
  have hzi : (z : Int) ≤ 65536 := by omega
  have hni : (1 : Int) ≤ n := by omega
  go_enter Tryd.func3, Tryd.ntmps3
  go_wp2_with (first
    | (go_at_call 6; refine (decimal_str n h0 h1 _).mono ?_; rintro e w1 ⟨T, rfl, t1, t2, HT, hb1⟩; refine Hid.out ?_))
  refine hid ?_
  have hb1s := hb1.size
  go_wp2_with (at_make; refine wpList_make_own _ rfl _ _ 23 rfl w.heap.size 5 i0 (.int .u8 0) 1 Tryd.underlying23 hi hz0 hz1 _ _ _ (z + T.size) rfl rfl (by omega) ?b2 ?b3 (by omega) ?_)
  case b2 => rw [hz2]; omega
  case b3 => unfold maxLen; omega
  intro w2 hown2 hgrow2
  have hb2 : Below w.heap.size w w2 := hb1.grown hgrow2 hb1s (fun k h => by cases h)
  obtain ⟨g, hg⟩ : ∃ g, g = w1.heap.size := ⟨_, rfl⟩
  have hgw : w.heap.size ≤ g := by omega
  rw [← hg] at hown2 ⊢
  clear hg hgrow2 hb1 hb1s
  go_wp2
  go_loopw [6, 7] (fun b i wr => ∃ k : Nat, k ≤ z ∧ i = .int .i64 k ∧ b = .slice (some ⟨g, 0, none⟩) k (z + T.size) ∧ wr.ownsRow w.heap.size 5 1 (.slice (some ⟨g, 0, none⟩) k (z + T.size)) k (bc (List.replicate k 48)) ∧ Below w.heap.size w wr)
    (fun _ i _ => z - (intOf i).toNat)
  case atStart => exact ⟨0, Nat.zero_le _, rfl, rfl, hown2, hb2⟩
  case round =>
    obtain ⟨k, hk, rfl, rfl, hown, hb⟩ := hrel
    by_cases hlt : k < z
    · have hsz := hb.size
      go_wp2_with (at_builtin; refine wpList_append_fits _ rfl (.tmp 34) (.tmp 35) 23 rfl w.heap.size 5 i0 1 Tryd.underlying23 hi hz1 g k (z + T.size) _ rfl (hown.alloc _) ⟨wr.heap.size, 0, none⟩ 1 1 [.int .u8 48] rfl rfl (one_new _ _ _) (by intro u hu; simp at hu; subst hu; rfl) (by omega) ?_; intro w3 hown3 hgrow3)
      go_roundw
      case rel =>
        have e : bc (List.replicate (k + 1) 48) = bc (List.replicate k 48) ++ [.int .u8 48] := by rw [List.replicate_succ', bc_snoc]; rfl
        exact ⟨k + 1, by omega, by go_num, rfl, by rw [e]; exact hown3, (hb.alloc hsz _).grown hgrow3 (by simp; omega) (fun j hj => by cases hj; exact hgw)⟩
      case measure => simp [intOf]; omega
    · have hkz : k = z := by omega
      subst hkz
      clear hlt
      go_wp2
      go_loopw [6, 8] (fun b i wr => ∃ j : Nat, j ≤ T.size ∧ i = .int .i64 j ∧ b = .slice (some ⟨g, 0, none⟩) (k + j) (k + T.size) ∧ wr.ownsRow w.heap.size 5 1 (.slice (some ⟨g, 0, none⟩) (k + j) (k + T.size)) (k + j) (bc (List.replicate k 48 ++ T.data.toList.take j)) ∧ Below w.heap.size w wr)
        (fun _ i _ => T.size - (intOf i).toNat)
      case atStart => exact ⟨0, Nat.zero_le _, rfl, rfl, by simpa using hown, hb⟩
      case round =>
        obtain ⟨j, hj, rfl, rfl, hown, hb⟩ := hrel
        by_cases hlt : j < T.size
        · have hsz := hb.size
          go_wp2_with (at_builtin; refine wpList_append_fits _ rfl (.tmp 43) (.tmp 47) 23 rfl w.heap.size 5 i0 1 Tryd.underlying23 hi hz1 g (k + j) (k + T.size) _ rfl (hown.alloc _) ⟨_, 0, none⟩ 1 1 [.int .u8 (T[j].toNat : Int)] rfl rfl (one_new _ _ _) (by intro u hu; simp at hu; subst hu; rfl) (by omega) ?_; intro w3 hown3 hgrow3)
          go_roundw
          case rel =>
            have e : bc (List.replicate k 48 ++ T.data.toList.take (j + 1)) = bc (List.replicate k 48 ++ T.data.toList.take j) ++ [.int .u8 T[j].toNat] := by
              rw [List.take_succ_eq_append_getElem (by simpa using hlt), ← List.append_assoc, bc_snoc]; rfl
            exact ⟨j + 1, by omega, by go_num, rfl, by rw [e]; exact hown3, (hb.alloc hsz _).grown hgrow3 (by simp; omega) (fun j hj => by cases hj; exact hgw)⟩
          case measure => simp [intOf]; omega
        · have hjz : j = T.size := by omega
          subst hjz
          clear hlt
          have el : T.data.toList.take T.size = T.data.toList := List.take_of_length_le (by simp)
          rw [el] at hown
          clear el
          obtain ⟨U, hU⟩ : ∃ U : ByteArray, U = ⟨(List.replicate k 48 ++ T.data.toList).toArray⟩ := ⟨_, rfl⟩
          have hUl : U.data.toList = List.replicate k 48 ++ T.data.toList := by rw [hU]
          have hUs : U.size = k + T.size := by
            show U.data.size = _
            rw [← Array.length_toList, hUl, List.length_append, List.length_replicate]; rfl
          have hcv : (convert 23 9 (.slice (some ⟨g, 0, none⟩) (k + T.size) (k + T.size))).run Tryd.prog wr = .ok (.string U) wr := by
            have := run_convert_bytes_back (P := Tryd.prog) wr 23 9 5 ⟨g, 0, none⟩ (k + T.size) (List.replicate k 48 ++ T.data.toList) Tryd.underlying23 Tryd.underlying5 Tryd.underlying9 (fun j hj => hown.cells (g := g) rfl j _ (bc_get _ j hj))
            have hle : (List.replicate k 48 ++ T.data.toList).length = k + T.size := by rw [List.length_append, List.length_replicate]; rfl
            rw [hle, ← hU] at this
            exact this
          have hUle : U.size ≤ 65560 := by omega
          have hU1 : 1 ≤ U.size := by omega
          have HU : Hid ((∀ c ∈ U.data.toList, Plain.dig c = true) ∧ Plain.val U.data.toList = n) := hid (by
            rw [hUl]
            refine ⟨fun c hc => ?_, by rw [Plain.val_zeros]; exact HT.out.2⟩
            rcases List.mem_append.1 hc with hc | hc
            · rw [(List.mem_replicate.1 hc).2]; decide
            · exact HT.out.1 c hc)
          clear hU hUl hUs hown
          go_wp2_with fail
          refine (PW.out T n _ (by omega) t1 HT.out.1 HT.out.2 h0 h1).mono ?_
          rintro e w5 ⟨rfl, hb5⟩
          go_wp2_with fail
          refine (PW.out U n _ (by omega) hU1 HU.out.1 HU.out.2 h0 h1).mono ?_
          rintro e w6 ⟨rfl, hb6⟩
          go_wp2
          go_ret
          have s1 := hb.size
          have s5 := hb5.size
          exact ⟨rfl, (hb.trans (hb5.mono s1)).trans (hb6.mono (by omega))⟩
end Go.Proofs.Qxb6603192aDoor
