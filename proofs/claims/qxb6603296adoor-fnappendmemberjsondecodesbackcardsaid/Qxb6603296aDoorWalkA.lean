/-
  Seat b6603296aD: THE WALK of jsonout.AppendString onto a slice that the call owns.
-/
import Derived.Test.Qxb6603296aDoorProg
import Derived.Test.Qxb6603296aDoorPlain
import Derived.WalkKit
import Derived.WalkSpells
import Derived.WalkLawsBesides
import Derived.WideShapes
import Derived.Laws.IdiomStrings
import Derived.Lib.AppendStr
import Derived.Lib.OthersKept
import Derived.Lib.AppendIntMem
import Derived.Deep.QuietTactic
import Derived.BigQuiet
import Derived.Deep.RegionHeld3
import Derived.Deep.AppendLies
import Derived.Laws.BitsAllLaws
import Derived.Outline
namespace Go.Proofs.Qxb6603296aDoor
open Go.RowKit
open Go.Lib (byteCells)

theorem hid {p : Prop} (h : p) : Hid p := h
theorem ret_bool {a b : Bool} (h : a = b) : Ending.returned (.bool a) = .returned (.bool b) := by rw [h]
theorem beqf {a b : Int} (h : a ≠ b) : (a == b) = false := by simpa using h
theorem beqt {a b : Int} (h : a = b) : (a == b) = true := by simpa using h
theorem bnet {a b : Int} (h : a ≠ b) : (a != b) = true := by simpa using h
theorem bnef {a b : Int} (h : a = b) : (a != b) = false := by simpa using h
theorem getl (s : ByteArray) (k : Nat) (h : k < s.size) : s.data.toList[k]? = some s[k] := by
  rw [List.getElem?_eq_getElem (by simpa using h)]; rfl
theorem take_snoc (s : ByteArray) (k : Nat) (h : k < s.size) : s.data.toList.take (k + 1) = s.data.toList.take k ++ [s[k]] := by
  rw [List.take_succ_eq_append_getElem (by simpa using h)]; rfl
theorem ext_data (s : ByteArray) (a b : Nat) : (s.extract a b).data.toList = (s.data.toList.drop a).take (b - a) := by
  obtain ⟨⟨l⟩⟩ := s
  rw [ByteArray.extract_mk]

theorem Tryd.info5 : (Tryd.prog.info? 5).map (fun i => (i.zero, i.size, i.bytes)) = some (some (.int .u8 0), 1, 1) := by kernel_rfl

/-- The cells of a new block, as an append meets them. -/
theorem news_block (w : World) (xs : Array Value) (t : TypeId) : ∀ j u, xs.toList[j]? = some u → (w.alloc (.cells xs t)).cell? ((⟨w.heap.size, 0, none⟩ : Addr).add j) = some u := by
  intro j u hj
  rw [WideShapes.add_plain, Nat.zero_add, World.cell?_alloc_mark]
  simpa using hj

theorem news_drew (w : World) (xs : Array Value) (t : TypeId) : ∀ j u, xs.toList[j]? = some u → (w.alloc (.cells xs t)).drew.cell? ((⟨w.heap.size, 0, none⟩ : Addr).add j) = some u := news_block w xs t
theorem ints_u8 {a b c d e f : Int} : ∀ u ∈ [Value.int .u8 a, .int .u8 b, .int .u8 c, .int .u8 d, .int .u8 e, .int .u8 f], u.oneCell' = true := by
  intro u hu
  simp at hu
  rcases hu with rfl | rfl | rfl | rfl | rfl | rfl <;> rfl

/-- What an owned value's block holds. -/
theorem own_kind {w : World} {B : Nat} {e : TypeId} {v : Value} {n : Nat} {xs : List Value} (h : w.ownsRow B e 1 v n xs) : ∀ g, v.ownBlock = some g → ∃ c fz, w.heap[g]? = some (.cells c e fz) := by
  intro g hg
  rcases h.2 with ⟨rfl, _⟩ | ⟨g', cap, cur, rfl, _, hgg, _⟩
  · simp [Value.ownBlock] at hg
  · simp [Value.ownBlock] at hg
    subst hg
    exact ⟨cur, _, hgg⟩

/-- THE STATE: v owns xs and, behind them, the bytes l; what lay below B, and what is no row of bytes, is as it was. -/
structure St (B n : Nat) (xs : List Value) (w0 : World) (wr : World) (v : Value) (l : List UInt8) : Prop where
  own : wr.ownsRow B 5 1 v (n + l.length) (xs ++ byteCells l)
  below : Below B w0 wr
  others : Lib.OthersKept 5 none w0 wr
  room : B ≤ wr.heap.size

theorem cells_append (a b : List UInt8) : byteCells (a ++ b) = byteCells a ++ byteCells b := by simp [byteCells]
theorem St.start {B n : Nat} {xs : List Value} {w : World} {v : Value} (h : w.ownsRow B 5 1 v n xs) (hB : B ≤ w.heap.size) : St B n xs w w v [] :=
  ⟨by simpa [byteCells] using h, Below.refl _ _, Lib.OthersKept.refl _ _ _, hB⟩
/-- An append of a new block's cells. -/
theorem St.more {B n : Nat} {xs : List Value} {w0 wr w1 : World} {v v' : Value} {l : List UInt8} (h : St B n xs w0 wr v l) (o : Obj) (l' : List UInt8) {m : Nat} {news : List Value}
    (hown : w1.ownsRow B 5 1 v' (n + l.length + m) (xs ++ byteCells l ++ news)) (hg : (wr.alloc o).grownBy w1 v.ownBlock) (hm : m = l'.length) (hn : news = byteCells l') : St B n xs w0 w1 v' (l ++ l') := by
  subst hm; subst hn
  have hs : (wr.alloc o).heap.size = wr.heap.size + 1 := by simp
  refine ⟨?_, ?_, ?_, ?_⟩
  · rw [List.length_append, cells_append, ← List.append_assoc, ← Nat.add_assoc]; exact hown
  · exact (h.below.alloc h.room o).grown hg (by have := h.room; omega) (fun k hk => (h.own.lt k hk).1)
  · exact (h.others.alloc o).grown hg (own_kind (h.own.alloc o))
  · have := hg.size; have := h.room; omega
/-- The same behind draws, or with nothing new beside it. -/
theorem St.more' {B n : Nat} {xs : List Value} {w0 wr w1 : World} {v v' : Value} {l : List UInt8} (h : St B n xs w0 wr v l) (l' : List UInt8) {m : Nat} {news : List Value}
    (hown : w1.ownsRow B 5 1 v' (n + l.length + m) (xs ++ byteCells l ++ news)) (hg : wr.grownBy w1 v.ownBlock) (hm : m = l'.length) (hn : news = byteCells l') : St B n xs w0 w1 v' (l ++ l') := by
  subst hm; subst hn
  refine ⟨?_, ?_, ?_, ?_⟩
  · rw [List.length_append, cells_append, ← List.append_assoc, ← Nat.add_assoc]; exact hown
  · exact h.below.grown hg h.room (fun k hk => (h.own.lt k hk).1)
  · exact h.others.grown hg (own_kind h.own)
  · have := hg.size; have := h.room; omega

theorem one_cell {v : Value} {l : List UInt8} (h : v ∈ byteCells l) : v.oneCell' = true := by
  obtain ⟨b, -, rfl⟩ := List.mem_map.1 h
  rfl


/-- The bytes from st to k, all plain, join what is written. -/
theorem q_upto (s : ByteArray) (st k : Nat) (h1 : st ≤ k) (h2 : k ≤ s.size) (hp : ∀ j (h : j < s.size), st ≤ j → j < k → Plain.plain s[j]) : Plain.escs (s.data.toList.take k) = Plain.escs (s.data.toList.take st) ++ (s.extract st k).data.toList := by
  have e : s.data.toList.take k = s.data.toList.take st ++ (s.extract st k).data.toList := by
    rw [ext_data, ← List.take_add, show st + (k - st) = k by omega]
  rw [e, Plain.escs_append, Plain.escs_plain (s.extract st k).data.toList]
  intro c hc
  rw [ext_data] at hc
  obtain ⟨j, hj, rfl⟩ := List.mem_iff_getElem.1 hc
  simp at hj
  rw [List.getElem_take, List.getElem_drop]
  exact hp (st + j) (by omega) (by omega) (by omega)
theorem q_step (s : ByteArray) (k : Nat) (h : k < s.size) : Plain.escs (s.data.toList.take (k + 1)) = Plain.escs (s.data.toList.take k) ++ Plain.esc s[k] := by
  rw [take_snoc s k h, Plain.escs_append, Plain.escs_one]
theorem q_len (s : ByteArray) (k : Nat) (h : k ≤ s.size) : (Plain.escs (s.data.toList.take k)).length ≤ 6 * s.size := by
  have h1 := Plain.escs_len (s.data.toList.take k)
  have h2 : (s.data.toList.take k).length ≤ k := List.length_take_le _ _
  omega

theorem and15 (c : Nat) (h : c < 256) : bits .and .u8 (c : Int) 15 = ((c % 16 : Nat) : Int) := by
  have := u8_and_nat c 15 h (by decide)
  rw [show ((15 : Nat) : Int) = 15 from rfl] at this
  rw [this, show (15 : Nat) = 2 ^ 4 - 1 from rfl, Nat.and_two_pow_sub_one_eq_mod]
theorem hex_at (H : Nat) (h : H < 16) : ((⟨#[48, 49, 50, 51, 52, 53, 54, 55, 56, 57, 97, 98, 99, 100, 101, 102]⟩ : ByteArray)[H]'h) = Plain.hexd H := by
  have : ∀ x : Fin 16, ((⟨#[48, 49, 50, 51, 52, 53, 54, 55, 56, 57, 97, 98, 99, 100, 101, 102]⟩ : ByteArray)[x.val]'x.isLt) = Plain.hexd x.val := by decide
  exact this ⟨H, h⟩

set_option maxHeartbeats 1000000 in
set_option maxRecDepth 100000 in
theorem appStr_any (B n : Nat) (sv : Value) (xs : List Value) (s : ByteArray) (w : World) (hown : w.ownsRow B 5 1 sv n xs) (hBw : B ≤ w.heap.size) (hs : s.size ≤ 1048576) (hn : n ≤ 67108864) :
    Calls Tryd.prog 30 #[sv, .string s] w fun e w' => ∃ v', e = .returned v' ∧ St B n xs w w' v' (Plain.quoted s.data.toList) := by
  obtain ⟨i0, hi, hz0, hz1, hz2⟩ := info_parts Tryd.info5
  have h0 := St.start hown hBw
  clear hown
  go_enter Tryd.func30, Tryd.ntmps30
  go_wp2_with (at_builtin; refine wpList_append_own _ rfl (.tmp 8) (.tmp 9) 22 rfl B 5 i0 (.int .u8 0) 1 1 Tryd.underlying22 hi hz0 hz1 hz2 rfl (by decide) _ _ _ rfl (h0.own.alloc _) ⟨w.heap.size, 0, none⟩ 1 1 [.int .u8 34] rfl rfl (news_block w #[.int .u8 34] _) (by intro u hu; simp at hu; subst hu; rfl) (by unfold maxLen; simp; omega) (by simp; omega) (by simp; omega) ?_; intro v1 w1 hown1 hgrow1 _)
  have h1 : St B n xs w w1 v1 [34] := h0.more _ [34] hown1 hgrow1 rfl rfl
  clear h0 hown1 hgrow1
  go_loopw [0, 5, 6, 7] (fun d st i _ wr => ∃ (a k : Nat), a ≤ k ∧ k ≤ s.size ∧ st = .int .i64 a ∧ i = .int .i64 k ∧ Hid (St B n xs w wr d (34 :: Plain.escs (s.data.toList.take a))) ∧ Hid (∀ j (h : j < s.size), a ≤ j → j < k → Plain.plain s[j])) (fun _ _ i _ _ => s.size - (intOf i).toNat)
  case atStart => exact ⟨0, 0, Nat.le_refl _, Nat.zero_le _, rfl, rfl, hid (by simpa [Plain.escs] using h1), hid (fun j _ _ h => absurd h (Nat.not_lt_zero _))⟩
  case round =>
    obtain ⟨a, k, hak, hks, rfl, rfl, HS, HP⟩ := hrel
    have hql := q_len s a (by omega)
    by_cases hlt : k < s.size
    · have c255 : (s[k].toNat : Int) ≤ 255 := by have := s[k].toNat_lt; omega
      by_cases hpl : Plain.plain s[k]
      · -- a plain byte
        have p1 : (32 : Int) ≤ (s[k].toNat : Int) := by have := hpl.1; omega
        have p2 : ((s[k].toNat : Int) != 34) = true := bnet (by have := hpl.2.1; omega)
        have p3 : ((s[k].toNat : Int) != 92) = true := bnet (by have := hpl.2.2; omega)
        have HPL := hid hpl
        clear hpl
        go_wp2
        go_roundw
        case rel =>
          refine ⟨a, k + 1, by omega, by omega, rfl, by go_num, hid HS.out, hid (fun j h j1 j2 => ?_)⟩
          by_cases e : j = k
          · subst e; exact HPL.out
          · exact HP.out j h j1 (by omega)
        case measure => simp [intOf]; omega
      · -- an escape: first what stands from a to k
        have ea := q_upto s a k hak hks HP.out
        have hqk := q_len s k hks
        obtain ⟨X, hX⟩ : ∃ X, s.extract a k = X := ⟨_, rfl⟩
        have hXs : X.size = k - a := by rw [← hX, ByteArray.size_extract]; omega
        rw [hX] at ea
        have hel := congrArg List.length ea
        rw [List.length_append] at hel
        have hXl : X.data.toList.length = X.size := rfl
        have ix1 : (a : Int) ≤ (k : Int) := by omega
        have ix2 : (k : Int) ≤ (s.size : Int) := by omega
        have HEA := hid ea
        have HXS := hid hXs
        have HXL := hid hXl
        have bX : n + (34 :: Plain.escs (s.data.toList.take a)).length + X.size ≤ 100000000 := by rw [List.length_cons]; omega
        clear ea hXs hXl hel
        -- from here on the state is at k
        have step : Hid (∀ v2 w2, w2.ownsRow B 5 1 v2 (n + (34 :: Plain.escs (s.data.toList.take a)).length + X.size) (xs ++ byteCells (34 :: Plain.escs (s.data.toList.take a)) ++ Lib.strCells X) → ∀ d, St B n xs w wr d (34 :: Plain.escs (s.data.toList.take a)) → wr.grownBy w2 d.ownBlock → St B n xs w w2 v2 (34 :: Plain.escs (s.data.toList.take k))) := hid (fun v2 w2 ho d hd hg => by
          have := hd.more' X.data.toList ho hg rfl rfl
          rw [HEA.out]
          exact this)
        have bK : n + (34 :: Plain.escs (s.data.toList.take k)).length + 6 ≤ 100000000 := by rw [List.length_cons]; omega
        have fin : Hid (∀ v3 w3, St B n xs w w3 v3 (34 :: Plain.escs (s.data.toList.take k) ++ Plain.esc s[k]) → St B n xs w w3 v3 (34 :: Plain.escs (s.data.toList.take (k + 1)))) := hid (fun v3 w3 h => by rw [q_step s k hlt]; exact h)
        have vac : Hid (∀ j (h : j < s.size), k + 1 ≤ j → j < k + 1 → Plain.plain s[j]) := hid (fun j _ h1 h2 => absurd h2 (by omega))
        by_cases e34 : s[k].toNat = 34
        · have HE : Hid (Plain.esc s[k] = [92, 34]) := hid (by unfold Plain.esc; simp [e34])
          have t1 : (32 : Int) ≤ (s[k].toNat : Int) := by omega
          have t2 : ((s[k].toNat : Int) != 34) = false := bnef (by omega)
          have u34 : ((s[k].toNat : Int) == 34) = true := beqt (by omega)
          clear e34 hpl c255
          go_wp2_with (first
            | (at_builtin; refine Lib.wpList_append_own_string _ rfl (.tmp 30) (.tmp 34) 22 9 rfl B 5 i0 Tryd.underlying22 Tryd.underlying9 hi hz0 hz1 hz2 _ _ _ rfl HS.out.own X rfl (by unfold maxLen; omega) (by omega) HS.out.room ?_; intro v2 w2 ho2 hg2 _; have h2 := step.out v2 w2 ho2 _ HS.out hg2; clear ho2 hg2)
            | (at_builtin; refine wpList_append_own _ rfl (.tmp 48) (.tmp 49) 22 rfl B 5 i0 (.int .u8 0) 1 1 Tryd.underlying22 hi hz0 hz1 hz2 rfl (by decide) _ _ _ rfl (h2.own.alloc _) ⟨w2.heap.size, 0, none⟩ 2 2 [.int .u8 92, .int .u8 34] rfl rfl (news_block w2 #[.int .u8 92, .int .u8 34] _) (by intro u hu; simp at hu; rcases hu with rfl | rfl <;> rfl) (by unfold maxLen; omega) (by omega) (by have := h2.room; simp; omega) ?_; intro v3 w3 ho3 hg3 _; have h3 := h2.more _ [92, 34] ho3 hg3 rfl rfl; clear ho3 hg3))
          go_roundw
          case rel => exact ⟨k + 1, k + 1, Nat.le_refl _, by omega, by go_num, by go_num, hid (fin.out _ _ (by rw [HE.out]; exact h3)), hid vac.out⟩
          case measure => simp [intOf]; omega
        by_cases e92 : s[k].toNat = 92
        · have HE : Hid (Plain.esc s[k] = [92, 92]) := hid (by unfold Plain.esc; simp [e92])
          have t1 : (32 : Int) ≤ (s[k].toNat : Int) := by omega
          have t2 : ((s[k].toNat : Int) != 34) = true := bnet (by omega)
          have t3 : ((s[k].toNat : Int) != 92) = false := bnef (by omega)
          have u34 : ((s[k].toNat : Int) == 34) = false := beqf (by omega)
          have u92 : ((s[k].toNat : Int) == 92) = true := beqt (by omega)
          clear e34 e92 hpl c255
          go_wp2_with (first
            | (at_builtin; refine Lib.wpList_append_own_string _ rfl (.tmp 30) (.tmp 34) 22 9 rfl B 5 i0 Tryd.underlying22 Tryd.underlying9 hi hz0 hz1 hz2 _ _ _ rfl HS.out.own X rfl (by unfold maxLen; omega) (by omega) HS.out.room ?_; intro v2 w2 ho2 hg2 _; have h2 := step.out v2 w2 ho2 _ HS.out hg2; clear ho2 hg2)
            | (at_builtin; refine wpList_append_own _ rfl (.tmp 53) (.tmp 54) 22 rfl B 5 i0 (.int .u8 0) 1 1 Tryd.underlying22 hi hz0 hz1 hz2 rfl (by decide) _ _ _ rfl (h2.own.alloc _) ⟨w2.heap.size, 0, none⟩ 2 2 [.int .u8 92, .int .u8 92] rfl rfl (news_block w2 #[.int .u8 92, .int .u8 92] _) (by intro u hu; simp at hu; rcases hu with rfl | rfl <;> rfl) (by unfold maxLen; omega) (by omega) (by have := h2.room; simp; omega) ?_; intro v3 w3 ho3 hg3 _; have h3 := h2.more _ [92, 92] ho3 hg3 rfl rfl; clear ho3 hg3))
          go_roundw
          case rel => exact ⟨k + 1, k + 1, Nat.le_refl _, by omega, by go_num, by go_num, hid (fin.out _ _ (by rw [HE.out]; exact h3)), hid vac.out⟩
          case measure => simp [intOf]; omega
        by_cases e8 : s[k].toNat = 8
        · have HE : Hid (Plain.esc s[k] = [92, 98]) := hid (by unfold Plain.esc; simp [e8])
          have t1 : ¬ (32 : Int) ≤ (s[k].toNat : Int) := by omega
          have u34 : ((s[k].toNat : Int) == 34) = false := beqf (by omega)
          have u92 : ((s[k].toNat : Int) == 92) = false := beqf (by omega)
          have u8 : ((s[k].toNat : Int) == 8) = true := beqt (by omega)
          clear e34 e92 e8 hpl c255
          go_wp2_with (first
            | (at_builtin; refine Lib.wpList_append_own_string _ rfl (.tmp 30) (.tmp 34) 22 9 rfl B 5 i0 Tryd.underlying22 Tryd.underlying9 hi hz0 hz1 hz2 _ _ _ rfl HS.out.own X rfl (by unfold maxLen; omega) (by omega) HS.out.room ?_; intro v2 w2 ho2 hg2 _; have h2 := step.out v2 w2 ho2 _ HS.out hg2; clear ho2 hg2)
            | (at_builtin; refine wpList_append_own _ rfl (.tmp 58) (.tmp 59) 22 rfl B 5 i0 (.int .u8 0) 1 1 Tryd.underlying22 hi hz0 hz1 hz2 rfl (by decide) _ _ _ rfl (h2.own.alloc _) ⟨w2.heap.size, 0, none⟩ 2 2 [.int .u8 92, .int .u8 98] rfl rfl (news_block w2 #[.int .u8 92, .int .u8 98] _) (by intro u hu; simp at hu; rcases hu with rfl | rfl <;> rfl) (by unfold maxLen; omega) (by omega) (by have := h2.room; simp; omega) ?_; intro v3 w3 ho3 hg3 _; have h3 := h2.more _ [92, 98] ho3 hg3 rfl rfl; clear ho3 hg3))
          go_roundw
          case rel => exact ⟨k + 1, k + 1, Nat.le_refl _, by omega, by go_num, by go_num, hid (fin.out _ _ (by rw [HE.out]; exact h3)), hid vac.out⟩
          case measure => simp [intOf]; omega
        by_cases e12 : s[k].toNat = 12
        · have HE : Hid (Plain.esc s[k] = [92, 102]) := hid (by unfold Plain.esc; simp [e12])
          have t1 : ¬ (32 : Int) ≤ (s[k].toNat : Int) := by omega
          have u34 : ((s[k].toNat : Int) == 34) = false := beqf (by omega)
          have u92 : ((s[k].toNat : Int) == 92) = false := beqf (by omega)
          have u8 : ((s[k].toNat : Int) == 8) = false := beqf (by omega)
          have u12 : ((s[k].toNat : Int) == 12) = true := beqt (by omega)
          clear e34 e92 e8 e12 hpl c255
          go_wp2_with (first
            | (at_builtin; refine Lib.wpList_append_own_string _ rfl (.tmp 30) (.tmp 34) 22 9 rfl B 5 i0 Tryd.underlying22 Tryd.underlying9 hi hz0 hz1 hz2 _ _ _ rfl HS.out.own X rfl (by unfold maxLen; omega) (by omega) HS.out.room ?_; intro v2 w2 ho2 hg2 _; have h2 := step.out v2 w2 ho2 _ HS.out hg2; clear ho2 hg2)
            | (at_builtin; refine wpList_append_own _ rfl (.tmp 63) (.tmp 64) 22 rfl B 5 i0 (.int .u8 0) 1 1 Tryd.underlying22 hi hz0 hz1 hz2 rfl (by decide) _ _ _ rfl (h2.own.alloc _) ⟨w2.heap.size, 0, none⟩ 2 2 [.int .u8 92, .int .u8 102] rfl rfl (news_block w2 #[.int .u8 92, .int .u8 102] _) (by intro u hu; simp at hu; rcases hu with rfl | rfl <;> rfl) (by unfold maxLen; omega) (by omega) (by have := h2.room; simp; omega) ?_; intro v3 w3 ho3 hg3 _; have h3 := h2.more _ [92, 102] ho3 hg3 rfl rfl; clear ho3 hg3))
          go_roundw
          case rel => exact ⟨k + 1, k + 1, Nat.le_refl _, by omega, by go_num, by go_num, hid (fin.out _ _ (by rw [HE.out]; exact h3)), hid vac.out⟩
          case measure => simp [intOf]; omega
        by_cases e10 : s[k].toNat = 10
        · have HE : Hid (Plain.esc s[k] = [92, 110]) := hid (by unfold Plain.esc; simp [e10])
          have t1 : ¬ (32 : Int) ≤ (s[k].toNat : Int) := by omega
          have u34 : ((s[k].toNat : Int) == 34) = false := beqf (by omega)
          have u92 : ((s[k].toNat : Int) == 92) = false := beqf (by omega)
          have u8 : ((s[k].toNat : Int) == 8) = false := beqf (by omega)
          have u12 : ((s[k].toNat : Int) == 12) = false := beqf (by omega)
          have u10 : ((s[k].toNat : Int) == 10) = true := beqt (by omega)
          clear e34 e92 e8 e12 e10 hpl c255
          go_wp2_with (first
            | (at_builtin; refine Lib.wpList_append_own_string _ rfl (.tmp 30) (.tmp 34) 22 9 rfl B 5 i0 Tryd.underlying22 Tryd.underlying9 hi hz0 hz1 hz2 _ _ _ rfl HS.out.own X rfl (by unfold maxLen; omega) (by omega) HS.out.room ?_; intro v2 w2 ho2 hg2 _; have h2 := step.out v2 w2 ho2 _ HS.out hg2; clear ho2 hg2)
            | (at_builtin; refine wpList_append_own _ rfl (.tmp 68) (.tmp 69) 22 rfl B 5 i0 (.int .u8 0) 1 1 Tryd.underlying22 hi hz0 hz1 hz2 rfl (by decide) _ _ _ rfl (h2.own.alloc _) ⟨w2.heap.size, 0, none⟩ 2 2 [.int .u8 92, .int .u8 110] rfl rfl (news_block w2 #[.int .u8 92, .int .u8 110] _) (by intro u hu; simp at hu; rcases hu with rfl | rfl <;> rfl) (by unfold maxLen; omega) (by omega) (by have := h2.room; simp; omega) ?_; intro v3 w3 ho3 hg3 _; have h3 := h2.more _ [92, 110] ho3 hg3 rfl rfl; clear ho3 hg3))
          go_roundw
          case rel => exact ⟨k + 1, k + 1, Nat.le_refl _, by omega, by go_num, by go_num, hid (fin.out _ _ (by rw [HE.out]; exact h3)), hid vac.out⟩
          case measure => simp [intOf]; omega
        by_cases e13 : s[k].toNat = 13
        · have HE : Hid (Plain.esc s[k] = [92, 114]) := hid (by unfold Plain.esc; simp [e13])
          have t1 : ¬ (32 : Int) ≤ (s[k].toNat : Int) := by omega
          have u34 : ((s[k].toNat : Int) == 34) = false := beqf (by omega)
          have u92 : ((s[k].toNat : Int) == 92) = false := beqf (by omega)
          have u8 : ((s[k].toNat : Int) == 8) = false := beqf (by omega)
          have u12 : ((s[k].toNat : Int) == 12) = false := beqf (by omega)
          have u10 : ((s[k].toNat : Int) == 10) = false := beqf (by omega)
          have u13 : ((s[k].toNat : Int) == 13) = true := beqt (by omega)
          clear e34 e92 e8 e12 e10 e13 hpl c255
          go_wp2_with (first
            | (at_builtin; refine Lib.wpList_append_own_string _ rfl (.tmp 30) (.tmp 34) 22 9 rfl B 5 i0 Tryd.underlying22 Tryd.underlying9 hi hz0 hz1 hz2 _ _ _ rfl HS.out.own X rfl (by unfold maxLen; omega) (by omega) HS.out.room ?_; intro v2 w2 ho2 hg2 _; have h2 := step.out v2 w2 ho2 _ HS.out hg2; clear ho2 hg2)
            | (at_builtin; refine wpList_append_own _ rfl (.tmp 73) (.tmp 74) 22 rfl B 5 i0 (.int .u8 0) 1 1 Tryd.underlying22 hi hz0 hz1 hz2 rfl (by decide) _ _ _ rfl (h2.own.alloc _) ⟨w2.heap.size, 0, none⟩ 2 2 [.int .u8 92, .int .u8 114] rfl rfl (news_block w2 #[.int .u8 92, .int .u8 114] _) (by intro u hu; simp at hu; rcases hu with rfl | rfl <;> rfl) (by unfold maxLen; omega) (by omega) (by have := h2.room; simp; omega) ?_; intro v3 w3 ho3 hg3 _; have h3 := h2.more _ [92, 114] ho3 hg3 rfl rfl; clear ho3 hg3))
          go_roundw
          case rel => exact ⟨k + 1, k + 1, Nat.le_refl _, by omega, by go_num, by go_num, hid (fin.out _ _ (by rw [HE.out]; exact h3)), hid vac.out⟩
          case measure => simp [intOf]; omega
        by_cases e9 : s[k].toNat = 9
        · have HE : Hid (Plain.esc s[k] = [92, 116]) := hid (by unfold Plain.esc; simp [e9])
          have t1 : ¬ (32 : Int) ≤ (s[k].toNat : Int) := by omega
          have u34 : ((s[k].toNat : Int) == 34) = false := beqf (by omega)
          have u92 : ((s[k].toNat : Int) == 92) = false := beqf (by omega)
          have u8 : ((s[k].toNat : Int) == 8) = false := beqf (by omega)
          have u12 : ((s[k].toNat : Int) == 12) = false := beqf (by omega)
          have u10 : ((s[k].toNat : Int) == 10) = false := beqf (by omega)
          have u13 : ((s[k].toNat : Int) == 13) = false := beqf (by omega)
          have u9 : ((s[k].toNat : Int) == 9) = true := beqt (by omega)
          clear e34 e92 e8 e12 e10 e13 e9 hpl c255
          go_wp2_with (first
            | (at_builtin; refine Lib.wpList_append_own_string _ rfl (.tmp 30) (.tmp 34) 22 9 rfl B 5 i0 Tryd.underlying22 Tryd.underlying9 hi hz0 hz1 hz2 _ _ _ rfl HS.out.own X rfl (by unfold maxLen; omega) (by omega) HS.out.room ?_; intro v2 w2 ho2 hg2 _; have h2 := step.out v2 w2 ho2 _ HS.out hg2; clear ho2 hg2)
            | (at_builtin; refine wpList_append_own _ rfl (.tmp 78) (.tmp 79) 22 rfl B 5 i0 (.int .u8 0) 1 1 Tryd.underlying22 hi hz0 hz1 hz2 rfl (by decide) _ _ _ rfl (h2.own.alloc _) ⟨w2.heap.size, 0, none⟩ 2 2 [.int .u8 92, .int .u8 116] rfl rfl (news_block w2 #[.int .u8 92, .int .u8 116] _) (by intro u hu; simp at hu; rcases hu with rfl | rfl <;> rfl) (by unfold maxLen; omega) (by omega) (by have := h2.room; simp; omega) ?_; intro v3 w3 ho3 hg3 _; have h3 := h2.more _ [92, 116] ho3 hg3 rfl rfl; clear ho3 hg3))
          go_roundw
          case rel => exact ⟨k + 1, k + 1, Nat.le_refl _, by omega, by go_num, by go_num, hid (fin.out _ _ (by rw [HE.out]; exact h3)), hid vac.out⟩
          case measure => simp [intOf]; omega
        -- the six bytes of a control byte
        have hc32 : s[k].toNat < 32 := by
          apply Classical.byContradiction
          intro hge
          exact hpl ⟨by omega, e34, e92⟩
        have HE : Hid (Plain.esc s[k] = [92, 117, 48, 48, Plain.hexd (s[k].toNat / 16), Plain.hexd (s[k].toNat % 16)]) := hid (Plain.esc_hex hc32 e8 e12 e10 e13 e9)
        have t1 : ¬ (32 : Int) ≤ (s[k].toNat : Int) := by omega
        have u34 : ((s[k].toNat : Int) == 34) = false := beqf (by omega)
        have u92 : ((s[k].toNat : Int) == 92) = false := beqf (by omega)
        have u8 : ((s[k].toNat : Int) == 8) = false := beqf (by omega)
        have u12 : ((s[k].toNat : Int) == 12) = false := beqf (by omega)
        have u10 : ((s[k].toNat : Int) == 10) = false := beqf (by omega)
        have u13 : ((s[k].toNat : Int) == 13) = false := beqf (by omega)
        have u9 : ((s[k].toNat : Int) == 9) = false := beqf (by omega)
        clear e34 e92 e8 e12 e10 e13 e9 hpl c255
        go_wp2_with (first
          | (at_builtin; refine Lib.wpList_append_own_string _ rfl (.tmp 30) (.tmp 34) 22 9 rfl B 5 i0 Tryd.underlying22 Tryd.underlying9 hi hz0 hz1 hz2 _ _ _ rfl HS.out.own X rfl (by unfold maxLen; omega) (by omega) HS.out.room ?_; intro v2 w2 ho2 hg2 _; have h2 := step.out v2 w2 ho2 _ HS.out hg2; clear ho2 hg2))
        obtain ⟨H, hH⟩ : ∃ H : Nat, H = s[k].toNat / 16 := ⟨_, rfl⟩
        obtain ⟨L, hL⟩ : ∃ L : Nat, L = s[k].toNat % 16 := ⟨_, rfl⟩
        have g1 : (s[k].toNat : Int) / 16 = (H : Int) := by omega
        have g2 : bits .and .u8 (s[k].toNat : Int) 15 = (L : Int) := by rw [and15 _ (by omega), hL]
        have g3 : (H : Int) < 16 := by omega
        have g4 : (L : Int) < 16 := by omega
        have g5 : H < 16 := by omega
        have g6 : L < 16 := by omega
        have HE2 : Hid (Plain.esc s[k] = [92, 117, 48, 48, Plain.hexd H, Plain.hexd L]) := hid (by rw [HE.out, hH, hL])
        have hrm := h2.room
        clear hH hL HE hc32
        go_region_held3 (fun _ => True) (trivial) ((refine step_append_lies _ (by rfl) (.tmp 37) (.tmp 44) 22 (by rfl) B 5 i0 (.int .u8 0) 1 1 Tryd.underlying22 hi hz0 hz1 hz2 rfl (by decide) _ _ _ (by rfl) ((h2.own.alloc _).drew) ⟨w2.heap.size, 0, none⟩ 6 6 [.int .u8 92, .int .u8 117, .int .u8 48, .int .u8 48, .int .u8 (((⟨#[48, 49, 50, 51, 52, 53, 54, 55, 56, 57, 97, 98, 99, 100, 101, 102]⟩ : ByteArray)[H]'g5).toNat : Int), .int .u8 (((⟨#[48, 49, 50, 51, 52, 53, 54, 55, 56, 57, 97, 98, 99, 100, 101, 102]⟩ : ByteArray)[L]'g6).toNat : Int)] (by rfl) rfl (news_drew w2 #[.int .u8 92, .int .u8 117, .int .u8 48, .int .u8 48, .int .u8 (((⟨#[48, 49, 50, 51, 52, 53, 54, 55, 56, 57, 97, 98, 99, 100, 101, 102]⟩ : ByteArray)[H]'g5).toNat : Int), .int .u8 (((⟨#[48, 49, 50, 51, 52, 53, 54, 55, 56, 57, 97, 98, 99, 100, 101, 102]⟩ : ByteArray)[L]'g6).toNat : Int)] 5) ints_u8 (by decide) (by unfold maxLen; omega) (by omega) (by simp; omega) (w2.heap.size + 1) (by simp) ?_; intro g cap w3 ho3 hg3 hat hlt3))
        all_goals
          have h3 : St B n xs w w3 _ (34 :: Plain.escs (s.data.toList.take k) ++ [92, 117, 48, 48, Plain.hexd H, Plain.hexd L]) := h2.more _ [92, 117, 48, 48, Plain.hexd H, Plain.hexd L] ho3 ⟨hg3.os, hg3.tape, hg3.output, hg3.size, hg3.block⟩ rfl (by rw [hex_at H g5, hex_at L g6]; rfl)
          clear ho3 hg3 hat hlt3
          go_wp2
          go_roundw
          case rel => exact ⟨k + 1, k + 1, Nat.le_refl _, by omega, by go_num, by go_num, hid (fin.out _ _ (by rw [HE2.out]; exact h3)), hid vac.out⟩
          case measure => simp [intOf]; omega
    · -- the end: what is left, and the closing quotation mark
      have hkz : k = s.size := by omega
      subst hkz
      have ea := q_upto s a s.size hak (Nat.le_refl _) HP.out
      have hqk := q_len s s.size (Nat.le_refl _)
      have e0 : s.data.toList.take s.size = s.data.toList := List.take_of_length_le (Nat.le_refl _)
      obtain ⟨X, hX⟩ : ∃ X, s.extract a s.size = X := ⟨_, rfl⟩
      have hXs : X.size = s.size - a := by rw [← hX, ByteArray.size_extract]; omega
      rw [hX] at ea
      rw [e0] at ea hqk
      have ix1 : (a : Int) ≤ (s.size : Int) := by omega
      have bX : n + (34 :: Plain.escs (s.data.toList.take a)).length + X.size ≤ 100000000 := by rw [List.length_cons]; omega
      have bK : n + (34 :: Plain.escs s.data.toList).length + 1 ≤ 100000000 := by rw [List.length_cons]; omega
      have HEA := hid ea
      have step : Hid (∀ v2 w2, w2.ownsRow B 5 1 v2 (n + (34 :: Plain.escs (s.data.toList.take a)).length + X.size) (xs ++ byteCells (34 :: Plain.escs (s.data.toList.take a)) ++ Lib.strCells X) → ∀ d, St B n xs w wr d (34 :: Plain.escs (s.data.toList.take a)) → wr.grownBy w2 d.ownBlock → St B n xs w w2 v2 (34 :: Plain.escs s.data.toList)) := hid (fun v2 w2 ho d hd hg => by
        have := hd.more' X.data.toList ho hg rfl rfl
        rw [HEA.out]
        exact this)
      clear ea hXs e0
      go_wp2_with (first
        | (at_builtin; refine Lib.wpList_append_own_string _ rfl (.tmp 83) (.tmp 86) 22 9 rfl B 5 i0 Tryd.underlying22 Tryd.underlying9 hi hz0 hz1 hz2 _ _ _ rfl HS.out.own X rfl (by unfold maxLen; omega) (by omega) HS.out.room ?_; intro v2 w2 ho2 hg2 _; have h2 := step.out v2 w2 ho2 _ HS.out hg2; clear ho2 hg2)
        | (at_builtin; refine wpList_append_own _ rfl (.tmp 88) (.tmp 89) 22 rfl B 5 i0 (.int .u8 0) 1 1 Tryd.underlying22 hi hz0 hz1 hz2 rfl (by decide) _ _ _ rfl (h2.own.alloc _) ⟨w2.heap.size, 0, none⟩ 1 1 [.int .u8 34] rfl rfl (news_block w2 #[.int .u8 34] _) (by intro u hu; simp at hu; subst hu; rfl) (by unfold maxLen; omega) (by omega) (by have := h2.room; simp; omega) ?_; intro v3 w3 ho3 hg3 _; have h3 := h2.more _ [34] ho3 hg3 rfl rfl; clear ho3 hg3))
      go_ret
      exact ⟨_, rfl, h3⟩
end Go.Proofs.Qxb6603296aDoor
