/-
  Seat b6603296aD: THE PLAIN LAW: JSON strings and decimal numerals as lists of bytes. No Go in sight.
-/
import Derived.Lib.ItoaNum
namespace Go.Proofs.Qxb6603296aDoor.Plain
open Go

/-- A hex digit, small letters. -/
def hexd (n : Nat) : UInt8 := UInt8.ofNat (if n < 10 then 48 + n else 87 + n)
/-- What AppendString writes for one byte. -/
def esc (c : UInt8) : List UInt8 :=
  if c.toNat = 34 then [92, 34] else if c.toNat = 92 then [92, 92] else if c.toNat = 8 then [92, 98] else if c.toNat = 12 then [92, 102] else if c.toNat = 10 then [92, 110]
  else if c.toNat = 13 then [92, 114] else if c.toNat = 9 then [92, 116] else if c.toNat < 32 then [92, 117, 48, 48, hexd (c.toNat / 16), hexd (c.toNat % 16)] else [c]
/-- No escape is wanted. -/
def plain (c : UInt8) : Prop := 32 ≤ c.toNat ∧ c.toNat ≠ 34 ∧ c.toNat ≠ 92
theorem esc_plain {c : UInt8} (h : plain c) : esc c = [c] := by
  obtain ⟨h1, h2, h3⟩ := h
  unfold esc
  rw [if_neg h2, if_neg h3, if_neg (by omega), if_neg (by omega), if_neg (by omega), if_neg (by omega), if_neg (by omega), if_neg (by omega)]
theorem esc_len (c : UInt8) : (esc c).length ≤ 6 := by
  unfold esc
  repeat' split
  all_goals simp
theorem esc_hex {c : UInt8} (h : c.toNat < 32) (h1 : c.toNat ≠ 8) (h2 : c.toNat ≠ 12) (h3 : c.toNat ≠ 10) (h4 : c.toNat ≠ 13) (h5 : c.toNat ≠ 9) : esc c = [92, 117, 48, 48, hexd (c.toNat / 16), hexd (c.toNat % 16)] := by
  unfold esc
  rw [if_neg (by omega), if_neg (by omega), if_neg h1, if_neg h2, if_neg h3, if_neg h4, if_neg h5, if_pos h]

def escs (l : List UInt8) : List UInt8 := l.flatMap esc
theorem escs_append (a b : List UInt8) : escs (a ++ b) = escs a ++ escs b := by simp [escs]
theorem escs_one (c : UInt8) : escs [c] = esc c := by simp [escs]
theorem escs_len (l : List UInt8) : (escs l).length ≤ 6 * l.length := by
  induction l with
  | nil => simp [escs]
  | cons c r ih =>
    have e : escs (c :: r) = esc c ++ escs r := by simp [escs]
    have := esc_len c
    rw [e, List.length_append, List.length_cons]
    omega
theorem escs_plain (l : List UInt8) (h : ∀ c ∈ l, plain c) : escs l = l := by
  induction l with
  | nil => simp [escs]
  | cons c r ih =>
    have e : escs (c :: r) = esc c ++ escs r := by simp [escs]
    rw [e, esc_plain (h c (List.mem_cons_self ..)), ih (fun x hx => h x (List.mem_cons_of_mem _ hx))]; rfl
/-- A JSON string. -/
def quoted (l : List UInt8) : List UInt8 := 34 :: escs l ++ [34]
/-- The head of a JSON member: the name, a colon. -/
def head (name : List UInt8) : List UInt8 := quoted name ++ [58]
theorem quoted_len (l : List UInt8) : (quoted l).length ≤ 6 * l.length + 2 := by
  have := escs_len l
  simp [quoted]
  omega
theorem head_len (l : List UInt8) : (head l).length ≤ 6 * l.length + 3 := by
  have := quoted_len l
  simp [head]
  omega
end Go.Proofs.Qxb6603296aDoor.Plain
