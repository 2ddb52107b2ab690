/-
  Seat b6603200a: THE PLAIN LAW: no Go in sight. What ServiceAccountCall answers, said of lists of bytes, and why that answer is the only one.
-/
import Derived.Lib.LastIndexLaws
import Derived.Lib.LastIndexByte
namespace Go.Proofs.Qxb6603200a.Plain
open Go

/-- The marker: serviceAccounts between two slashes. -/
def I : List UInt8 := [47, 115, 101, 114, 118, 105, 99, 101, 65, 99, 99, 111, 117, 110, 116, 115, 47]
theorem I_len : I.length = 17 := by decide
theorem I_ne : I ≠ [] := by decide

/-- Does pat stand at place j of l? -/
abbrev occ (l pat : List UInt8) (j : Nat) : Bool := Lib.occAt l pat j

theorem occ_at (p pat r : List UInt8) : occ (p ++ pat ++ r) pat p.length = true := by
  unfold occ Lib.occAt
  rw [List.append_assoc, List.drop_left]
  exact List.isPrefixOf_iff_prefix.2 ⟨r, rfl⟩
theorem occ_split {l pat : List UInt8} {j : Nat} (h : occ l pat j = true) (hne : pat ≠ []) : l = l.take j ++ pat ++ l.drop (j + pat.length) ∧ (l.take j).length = j := by
  have hr := (Lib.occAt_room h).resolve_right hne
  obtain ⟨r, hr2⟩ := List.isPrefixOf_iff_prefix.1 h
  have e : l.drop (j + pat.length) = r := by
    rw [← List.drop_drop, ← hr2, List.drop_left]
  refine ⟨?_, by rw [List.length_take]; omega⟩
  rw [e, List.append_assoc, hr2, List.take_append_drop]
theorem occ_shift (q l pat : List UInt8) (j : Nat) (h : q.length ≤ j) : occ (q ++ l) pat j = occ l pat (j - q.length) := by
  unfold occ Lib.occAt
  rw [List.drop_append, List.drop_of_length_le h, List.nil_append]

/-- What ServiceAccountCall answers on l: account a, method m, ok. -/
def Svc (l a m : List UInt8) (ok : Bool) : Prop :=
  (ok = false ∧ a = [] ∧ m = [] ∧ ∀ j, occ l I j = false) ∨
  (ok = true ∧ ∃ p r, l = p ++ I ++ r ∧ (∀ j, p.length < j → occ l I j = false) ∧ ((r = a ++ 58 :: m ∧ 58 ∉ m) ∨ (r = a ∧ m = [] ∧ 58 ∉ a)))

/-- A list is cut at its last 58 in one way only. -/
theorem cut_uniq : ∀ (a m a' m' : List UInt8), a ++ 58 :: m = a' ++ 58 :: m' → (58 : UInt8) ∉ m → (58 : UInt8) ∉ m' → a = a' ∧ m = m'
  | [], m, [], m', h, _, _ => by simp at h; exact ⟨rfl, h⟩
  | [], m, x :: a', m', h, hm, _ => by
    simp at h
    exact absurd (by rw [h.2]; simp) hm
  | x :: a, m, [], m', h, _, hm' => by
    simp at h
    exact absurd (by rw [← h.2]; simp) hm'
  | x :: a, m, y :: a', m', h, hm, hm' => by
    simp at h
    obtain ⟨e1, e2⟩ := cut_uniq a m a' m' h.2 hm hm'
    exact ⟨by rw [h.1, e1], e2⟩

theorem svc_uniq {l a m a' m' : List UInt8} {ok ok' : Bool} (h : Svc l a m ok) (h' : Svc l a' m' ok') : ok = ok' ∧ a = a' ∧ m = m' := by
  rcases h with ⟨rfl, rfl, rfl, hn⟩ | ⟨rfl, p, r, hl, hlast, hc⟩
  · rcases h' with ⟨rfl, rfl, rfl, -⟩ | ⟨rfl, p, r, hl, -, -⟩
    · exact ⟨rfl, rfl, rfl⟩
    · have := hn p.length
      rw [hl, occ_at] at this
      cases this
  · have o1 : occ l I p.length = true := by rw [hl, occ_at]
    rcases h' with ⟨rfl, rfl, rfl, hn⟩ | ⟨rfl, p', r', hl', hlast', hc'⟩
    · rw [hn p.length] at o1
      cases o1
    · have o2 : occ l I p'.length = true := by rw [hl', occ_at]
      have e : p.length = p'.length := by
        apply Classical.byContradiction
        intro hne
        by_cases hlt : p.length < p'.length
        · rw [hlast _ hlt] at o2; cases o2
        · rw [hlast' _ (by omega)] at o1; cases o1
      have er : r = r' := by
        have e2 : p ++ I ++ r = p' ++ I ++ r' := by rw [← hl, ← hl']
        have := congrArg (List.drop (p ++ I).length) e2
        rw [List.drop_left] at this
        rw [this, show (p ++ I).length = (p' ++ I).length by simp [e], List.drop_left]
      subst er
      refine ⟨rfl, ?_⟩
      rcases hc with ⟨c1, c2⟩ | ⟨c1, c2, c3⟩ <;> rcases hc' with ⟨d1, d2⟩ | ⟨d1, d2, d3⟩
      · exact cut_uniq a m a' m' (by rw [← c1, ← d1]) c2 d2
      · exact absurd (by rw [← d1, c1]; simp) d3
      · exact absurd (by rw [← c1, d1]; simp) c3
      · exact ⟨by rw [← c1, ← d1], by rw [c2, d2]⟩

/-- Any text put in front changes nothing, where l holds the marker. -/
theorem svc_front {l a m : List UInt8} (q : List UInt8) (h : Svc l a m true) : Svc (q ++ l) a m true := by
  rcases h with ⟨h, -⟩ | ⟨-, p, r, hl, hlast, hc⟩
  · cases h
  · refine .inr ⟨rfl, q ++ p, r, by rw [hl]; simp, fun j hj => ?_, hc⟩
    simp at hj
    rw [occ_shift q l I j (by omega)]
    exact hlast _ (by omega)
theorem svc_ok {l a m : List UInt8} {ok : Bool} (h : Svc l a m ok) (j : Nat) (hj : occ l I j = true) : ok = true := by
  rcases h with ⟨rfl, -, -, hn⟩ | ⟨rfl, -⟩
  · rw [hn j] at hj; cases hj
  · rfl

/-- The path that is built: front, marker, and what follows. -/
theorem svc_built (q r a m : List UInt8) (h1 : ∀ j, 1 ≤ j → occ (I ++ r) I j = false) (hc : (r = a ++ 58 :: m ∧ 58 ∉ m) ∨ (r = a ∧ m = [] ∧ 58 ∉ a)) : Svc (q ++ (I ++ r)) a m true := by
  refine .inr ⟨rfl, q, r, by simp, fun j hj => ?_, hc⟩
  rw [occ_shift q (I ++ r) I j (by omega)]
  exact h1 _ (by omega)

/-- 'path ends with tail, and no marker begins behind tail's beginning'. -/
def LastTail (l t : List UInt8) : Prop := t.length ≤ l.length ∧ occ l t (l.length - t.length) = true ∧ ∀ j, l.length - t.length + 1 ≤ j → occ l I j = false
theorem lastTail_of (p t : List UInt8) (h : ∀ j, p.length < j → occ (p ++ t) I j = false) : LastTail (p ++ t) t := by
  have e : (p ++ t).length - t.length = p.length := by simp
  refine ⟨by simp, ?_, fun j hj => h j (by rw [e] at hj; omega)⟩
  rw [e]
  have := occ_at p t []
  rwa [List.append_nil] at this

end Go.Proofs.Qxb6603200a.Plain
