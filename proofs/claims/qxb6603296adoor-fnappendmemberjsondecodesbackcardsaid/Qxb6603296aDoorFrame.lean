/-
  Seat b6603296aD: what both rows' proofs share: the table out of the row's list; a byte slice that came in, read as bytes.
-/
import Derived.Test.Qxb6603296aDoorRows
import Derived.Test.Qxb6603296aDoorWalkC
import Derived.ProofKit
import Derived.LaidMore
import Derived.OpenShut
import Derived.ShutString
import Derived.ChangeOld
import Derived.Below
import Derived.Stop.Joined
import Derived.Stop.LaidErr
import Derived.Lib.LaidTab
import Derived.SevenTiedAt
namespace Go.Proofs.Qxb6603296aDoor
open Go.ChangeShapes Go.WideShapes Go.ChangeAt Go.RowKit

theorem own : ownKnob Tryd.prog.godebug = none := by kernel_rfl
theorem laidOut : laidOutB Tryd.prog = true := by kernel_rfl

theorem tab_data : (Rows.laid_internal_strconv_uint64pow10 : DataW Unit) = Lib.tabData .u64 Lib.pow10Tab := by kernel_rfl
/-- Both rows list the same three tables. -/
theorem tab_of_laid {W : World} (h : laidMetH Tryd.prog Rows.fnAppendMemberJSONDecodesBackRow.laid W) : Tb W.heap.size W := by
  rw [MakeChecks.laidMetH_plain _ _ _ (by kernel_rfl)] at h
  have h3 := (laidMet.tail h).tail
  rw [tab_data] at h3
  exact Lib.tabBelow_of_tabIs (Lib.tabIs_of_head (g := 0) (t := 79) (e := 23) (n := 20) (by kernel_rfl) (by kernel_rfl) Tryd.underlying79 Tryd.underlying23 (by kernel_rfl) (by kernel_rfl) h3)

theorem bytes_of (zs : List Int) (h : ∀ n ∈ zs, (Lit.int .u8 n).wf = true) (j : Nat) (hj : j < zs.length) (hj2 : j < (zs.map fun n => UInt8.ofNat n.toNat).length) : (((zs.map fun n => UInt8.ofNat n.toNat)[j]'hj2).toNat : Int) = zs[j] := by
  have b := bounds_u8 (h zs[j] (List.getElem_mem _))
  rw [List.getElem_map, UInt8.toNat_ofNat']
  omega

/-- A byte slice that came in reads as bytes. -/
theorem bytes_in {H : Type} {enc : TypeId × Value → H} {W : World} {a : Option Addr} {len cap fuel : Nat} {y : DataW H × List MemPlace} (hf : DataW.trod enc Tryd.prog W 0 (fun _ => true) true fuel 22 (Value.slice a len cap).cells.toList = some y) :
    ∃ X : List UInt8, X.length = len ∧ len ≤ maxLen ∧ Reads W (.slice a len cap) X := by
  rcases open_ints Tryd.underlying22 Tryd.underlying5 (by kernel_rfl) hf with ⟨hcs, _⟩ | ⟨x, l, c, zs, hcs, _, hl, hm, hz, _, hcell, hwz⟩
  · simp [Value.cells] at hcs
    obtain ⟨rfl, rfl, rfl⟩ := hcs
    exact ⟨[], rfl, Nat.zero_le _, .inl ⟨none, 0, rfl, rfl⟩⟩
  · simp [Value.cells] at hcs
    obtain ⟨rfl, rfl, rfl⟩ := hcs
    have hz' : zs.length = cap := by simpa using hz
    by_cases h0 : len = 0
    · subst h0
      exact ⟨[], rfl, Nat.zero_le _, .inl ⟨_, _, rfl, rfl⟩⟩
    · obtain ⟨b, off, spot⟩ := x
      have hspot : spot = none := by simpa [Addr.add] using World.cell?_spot (hcell 0 (by omega))
      subst hspot
      have hlen : ((zs.take len).map fun n => UInt8.ofNat n.toNat).length = len := by rw [List.length_map, List.length_take]; omega
      refine ⟨(zs.take len).map fun n => UInt8.ofNat n.toNat, hlen, by omega, .inr ⟨b, off, cap, by rw [hlen], fun j hj => ?_⟩⟩
      have hj1 : j < (zs.take len).length := by rw [List.length_map] at hj; exact hj
      have hj2 : j < zs.length := by rw [List.length_take] at hj1; omega
      rw [bytes_of (zs.take len) (fun n hn => hwz n (List.mem_of_mem_take hn)) j hj1 hj, List.getElem_take]
      have := hcell j hj2
      rw [add_plain] at this
      rw [this]
      simp [List.getElem?_eq_getElem hj2]
end Go.Proofs.Qxb6603296aDoor
