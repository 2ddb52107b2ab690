/-
  Seat b6603192aD: FnParseWholeSpec: the law's walk over the contracts; the row; the tied card.
-/
import Derived.Test.Qxb6603192aDoorRows
import Derived.Test.Qxb6603192aDoorTie
import Derived.Test.Qxb6603192aDoorCards
import Derived.Test.Qxb6603192aDoorWalkE
import Derived.ProofKit
import Derived.LaidMore
import Derived.OpenShut
import Derived.ShutString
import Derived.Stop.Joined
import Derived.Stop.LaidErr
import Derived.SevenTiedAt
namespace Go.Proofs.Qxb6603192aDoor
open Go.ChangeShapes Go.WideShapes Go.ChangeAt Go.RowKit
open Go.ChangeMaps (open_string shut_string)

theorem gES : Tryd.prog.globalNamed "strconv.ErrSyntax" = some 0 := by kernel_rfl
theorem gER : Tryd.prog.globalNamed "strconv.ErrRange" = some 1 := by kernel_rfl
theorem gESType : (Tryd.prog.globals[0]?).map (·.type) = some 35 := by kernel_rfl
theorem gERType : (Tryd.prog.globals[1]?).map (·.type) = some 35 := by kernel_rfl
theorem cells56 : Tryd.prog.cellsOf 56 = 1 := by kernel_rfl
theorem cells9 : Tryd.prog.cellsOf 9 = 1 := by kernel_rfl

/-- What the law asks of the world: each of strconv's two variables holds an interface value that is not nil. -/
def Sent (w : World) : Prop := (∃ tp p, w.var? Tryd.prog "strconv.ErrSyntax" = some #[.iface tp p]) ∧ ∃ tp p, w.var? Tryd.prog "strconv.ErrRange" = some #[.iface tp p]

theorem sent_of_laid {W : World} (h : laidMetH Tryd.prog Rows.fnParseWholeSpecRow.laid W) : Sent W := by
  rw [MakeChecks.laidMetH_plain _ _ _ (by kernel_rfl)] at h
  have h4 : laidMet Tryd.prog [("strconv.ErrRange", Rows.laid_strconv_ErrRange), ("strconv.ErrSyntax", Rows.laid_strconv_ErrSyntax)] W := ((laidMet.tail h).tail).tail
  have hrow := fun u => typeName_ptr_named (P := Tryd.prog) (nm := "errors.errorString") (tp := 54) (by kernel_rfl) (by kernel_rfl) (by decide) u
  obtain ⟨a1, s1, hv1, -, -, -⟩ := laid_sentinel h4 gER gERType Tryd.underlying35 (fun u hu => hrow u (hu.trans (congrArg some (by decide)))) Tryd.underlying54 Tryd.underlying56 rfl rfl Tryd.underlying9 cells56 cells9
  obtain ⟨a0, s0, hv0, -, -, -⟩ := laid_sentinel h4.tail gES gESType Tryd.underlying35 (fun u hu => hrow u (hu.trans (congrArg some (by decide)))) Tryd.underlying54 Tryd.underlying56 rfl rfl Tryd.underlying9 cells56 cells9
  exact ⟨⟨_, _, hv0⟩, ⟨_, _, hv1⟩⟩

theorem sent_below {w w' : World} (hb : Below w.heap.size w w') (h2 : 2 ≤ w.heap.size) (h : Sent w) : Sent w' := by
  obtain ⟨⟨a, b, h0⟩, ⟨c, d, h1⟩⟩ := h
  exact ⟨⟨a, b, var?_below hb gES (by omega) h0⟩, ⟨c, d, var?_below hb gER (by omega) h1⟩⟩
theorem sent_size {w : World} (h : Sent w) : 2 ≤ w.heap.size := by
  obtain ⟨-, ⟨c, d, h1⟩⟩ := h
  have := World.var?_cell gER h1 0
  have hlt := Lib.lt_of_cell (show w.cell? ⟨1, 0, none⟩ = some (.iface c d) by simpa using this)
  exact hlt

theorem zzpw_any (s : ByteArray) (hs : s.size ≤ 281474976710656) (w : World) (h : Sent w) :
    Calls Tryd.prog 7 #[.string s] w fun e w' => e = .returned (.tuple #[.int .i64 (Plain.pwN s.data.toList), .bool (Plain.pwB s.data.toList)]) ∧ Below w.heap.size w w' := by
  obtain ⟨⟨a, b, h0⟩, ⟨c, d, h1⟩⟩ := h
  refine zzpw s _ _ w (hid ?_)
  by_cases hz : s.size = 0
  · have e : s.data.toList = [] := List.length_eq_zero_iff.1 hz
    rw [e, Plain.pw_empty.1, Plain.pw_empty.2]
    exact pw_empty s hz a b w h0
  · cases hd : s.data.toList.all Plain.dig with
    | false =>
      rw [(Plain.pw_bad _ hd).1, (Plain.pw_bad _ hd).2]
      exact pw_no s hs hd w
    | true =>
      have hd' := List.all_eq_true.1 hd
      have hne : s.data.toList ≠ [] := fun e => hz (by have : s.data.toList.length = 0 := by rw [e]; rfl
                                                       exact this)
      obtain ⟨e1, e2⟩ := Plain.pw_of s.data.toList hd' hne
      by_cases hv : Plain.val s.data.toList ≤ 9223372036854775807
      · have h3 := pw_ok s hs (by omega) hd' _ rfl hv w
        rw [e1, e2, if_pos hv, decide_eq_true hv, Bool.and_true]
        have e3 : decide (1 ≤ Plain.val s.data.toList) = decide (1 ≤ (Plain.val s.data.toList : Int)) := decide_eq_decide.2 (by omega)
        rw [e3]
        exact h3
      · rw [e1, e2, if_neg hv, decide_eq_false hv, Bool.and_false]
        exact pw_range s hs hd' (by omega) c d w h1

set_option maxHeartbeats 400000 in
theorem spec_walk (s : ByteArray) (hs : s.size ≤ maxLen) (w : World) (h : Sent w) :
    Calls Tryd.prog 5 #[.string s] w fun e w' => e = .returned (.bool true) ∧ Below w.heap.size w w' := by
  unfold maxLen at hs
  by_cases hl : 1048576 < s.size
  · have hi : (1048576 : Int) < (s.size : Int) := by omega
    clear h
    go_enter Tryd.func5, Tryd.ntmps5
    go_wp2
    go_ret
    exact ⟨rfl, Below.refl _ _⟩
  · have hi : (s.size : Int) ≤ 1048576 := by omega
    have hM := model_any s w (by omega)
    have HZ : Hid (∀ w1, Below w.heap.size w w1 → Calls Tryd.prog 7 #[.string s] w1 fun e w' => e = .returned (.tuple #[.int .i64 (Plain.pwN s.data.toList), .bool (Plain.pwB s.data.toList)]) ∧ Below w1.heap.size w1 w') :=
      hid fun w1 hb => zzpw_any s (by omega) w1 (sent_below hb (sent_size h) h)
    obtain ⟨n, hn⟩ : ∃ n, n = Plain.pwN s.data.toList := ⟨_, rfl⟩
    obtain ⟨b, hb⟩ : ∃ b, b = Plain.pwB s.data.toList := ⟨_, rfl⟩
    rw [← hn, ← hb] at hM HZ
    have HM := hid hM
    clear hM hn hb h
    go_enter Tryd.func5, Tryd.ntmps5
    go_wp2_with (first
      | (go_at_call 12; refine HM.out.mono ?_; rintro e w1 ⟨rfl, hb1⟩)
      | (go_at_call 7; refine (HZ.out _ hb1).mono ?_; rintro e w2 ⟨rfl, hb2⟩)
      | go_in)
    go_ret
    exact ⟨ret_bool (by simp), hb1.trans (hb2.mono hb1.size)⟩

theorem sp_door (os : Os) (args : Array Value) : laidMetH Tryd.prog Rows.fnParseWholeSpecRow.laid ((World.doorLaid Tryd.prog 62 os).forCall (fun _ _ => 0) ⟨#[], args, []⟩).memory :=
  laidMetH_of_parts3 (fuel := 8) (laidMet_of_run' 8 (by kernel_rfl) (by kernel_rfl)) (by kernel_rfl) (by kernel_rfl)
theorem sp_own : ownKnob Tryd.prog.godebug = none := by kernel_rfl

set_option maxRecDepth 100000 in
theorem sp_lifted (os : Os) (started : os.Started) (H : Type) (enc : TypeId × Value → H) :
    ReturnsInHanded {} Tryd.checked os 5 .any (fun w args => (Rows.fnParseWholeSpecSpec.pre enc Tryd.prog Tryd.f5 [] false w args ∧ laidMetH Tryd.prog Rows.fnParseWholeSpecRow.laid w) ∧ sizedMet enc Tryd.prog Tryd.f5 (OpenSpec.ofChange Rows.fnParseWholeSpecSpec) false w args)
      (Rows.fnParseWholeSpecSpec.post enc Tryd.prog Tryd.f5 false true false false) := by
  refine returnsInHanded_of_change_and (C := Tryd.checked) (X := fun w _ => laidMetH Tryd.prog Rows.fnParseWholeSpecRow.laid w) (fun _ _ _ hh h => h.of_heap hh) sp_own started (by kernel_rfl) Tryd.func5
    (ChangeSpec.witness_shaped (enc := enc) (C := Tryd.checked) (os := os) (X := fun w _ => laidMetH Tryd.prog Rows.fnParseWholeSpecRow.laid w) false (World.doorLaid Tryd.prog 62 os) #[.string ByteArray.empty] 8 rfl (World.shaped_of_RefB (by kernel_rfl) (by kernel_rfl)) (by kernel_rfl) (by kernel_rfl) (by kernel_rfl) (sp_door os _)) ?_
  intro W base args ds gs before hval0 hW _ _ hL _
  have hval : ∀ (j : Nat) t v, Tryd.f5.params[j]? = some t → args[j]? = some v → Value.okWide Tryd.prog W .any base t v := hval0
  have hW' := hW
  obtain ⟨p, q, hA0, hV, rfl, hfz, hnd⟩ := hW
  have hA : DataW.TrodAll enc Tryd.prog W 0 (fun _ => true) true Tryd.f5.params.toList args.toList ds p := hA0
  rw [Tryd.params5] at hA hval
  obtain ⟨v0, d0, rfl, rfl, h0⟩ := trodAll_one hA
  obtain ⟨rfl, rfl⟩ := trodVars_none hV
  obtain ⟨s, rfl, rfl, rfl, ws⟩ := open_string Tryd.underlying9 (hval 0 9 v0 rfl rfl) h0
  clear hA0 hval0
  simp only [List.append_nil] at hW'
  refine (spec_walk s ws W (sent_of_laid hL)).mono fun e W' ⟨he, hg⟩ => ?_
  subst he
  refine ⟨_, rfl, _, _, _, [], [], [], hW', ?_, ?_, ?_, hg.frame _, fun h => by cases h⟩
  · exact trodAll_mk1 (shut_bool Tryd.underlying4 _)
  · exact trodAll_mk1 (shut_string Tryd.underlying9 ws)
  · rfl

theorem sp_holds : Rows.FnParseWholeSpecSaid :=
  OpenClaim.holds_of_wide 5 Tryd.f5 rfl rfl rfl rfl rfl rfl rfl ⟨rfl, rfl, rfl, rfl, rfl⟩ rfl rfl rfl rfl rfl (by kernel_rfl) Tryd.func5 (by kernel_rfl)
    (of_decide_eq_true (by kernel_rfl)) (by unfold Func.isWrapper; first | (rw [if_pos (by decide +kernel)]; kernel_rfl) | (rw [if_neg (by decide +kernel)]; exact ⟨rfl, rfl⟩))
    (fun os started H enc _ => sp_lifted os started H enc)

theorem fnParseWholeSpecCard_holds : Rows.FnParseWholeSpecCardSaid :=
  Claim7.holds_tied_plain_at .later [] [.data, .data, .data, .sentinel, .sentinel] true (true, "f0a2b3e0fc36d421e810ff8bfd4d010155a2e0dbee1344b3eaa656ce2c778312") true
    sp_holds (fun _ h => by cases h) (by kernel_rfl) (fun _ h => by cases h) fnParseWholeSpec_row_tie rfl ⟨rfl, rfl⟩ (by kernel_rfl) rfl
    (fun f fn hf hfn => by
      obtain rfl : f = 5 := Option.some.inj ((show Tryd.prog.funcNamed Rows.fnParseWholeSpecRow.func = some 5 by kernel_rfl).symm.trans hf) |>.symm
      obtain rfl : fn = Tryd.f5 := (Option.some.inj (Tryd.func5.symm.trans hfn)).symm
      exact ⟨by kernel_rfl, fun j t ht => by
        rw [Tryd.params5] at ht
        have hm : t ∈ [9] := by simpa using Array.mem_of_getElem? ht
        have hall : ([9].all fun u => !Tryd.prog.wantsStandIn u) = true := by kernel_rfl
        exact (show Tryd.prog.wantsStandIn t = false by simpa using List.all_eq_true.1 hall t hm)⟩)
    (by kernel_rfl)
end Go.Proofs.Qxb6603192aDoor
