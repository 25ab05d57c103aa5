/-
  THE ROW of 'FnValueStringReadBackByParseYesNo' PROVED (the table of powers of ten out of the row's list; the witness in the heap that the door's own run leaves), AND HER TIED CARD.
-/
import Derived.Test.Qxb6600896aDoorCalls
import Derived.Test.Qxb6600896aDoorCards
import Derived.Test.Qxb6600896aDoorTie
import Derived.ProofKit
import Derived.LaidMore
import Derived.OpenShut
import Derived.ShutString
import Derived.Stop.Joined
import Derived.Stop.LaidErr
import Derived.SevenTiedAt
namespace Go.Proofs.Qxb6600896aDoor.fnValueStringReadBackByParseYesNo
open Go.ChangeShapes Go.WideShapes Go.ChangeAt Go.RowKit
open Go.ChangeMaps (open_string shut_string)

theorem own : ownKnob Tryd.prog.godebug = none := by kernel_rfl
theorem tyPow : (Tryd.prog.globals[0]?).map (·.type) = some 44 := by kernel_rfl
theorem cellsU64 : Tryd.prog.cellsOf 36 = 1 := by kernel_rfl
theorem cellsTab : Tryd.prog.cellsOf 44 = 20 := by kernel_rfl

/-- The door's own heap meets the condition. -/
theorem door_met (os : Os) (args : Array Value) : laidMetH Tryd.prog Rows.fnValueStringReadBackByParseYesNoRow.laid ((World.doorLaid Tryd.prog 24 os).forCall (fun _ _ => 0) ⟨#[], args, []⟩).memory :=
  laidMetH_of_parts3 (fuel := 8) (laidMet_of_run' 8 (by kernel_rfl) (by kernel_rfl)) (by kernel_rfl) (by kernel_rfl)

/-- What the condition gives the walk: the table of powers of ten. -/
theorem tab_of_laid {W : World} (h : laidMetH Tryd.prog Rows.fnValueStringReadBackByParseYesNoRow.laid W) : TabOk W := by
  rw [MakeChecks.laidMetH_plain _ _ _ (by kernel_rfl)] at h
  have h2 := laidMet.tail (laidMet.tail h)
  exact Lib.tabIs_of_head (n := 20) gPow tyPow Tryd.underlying44 Tryd.underlying36 cellsU64 cellsTab h2

set_option maxRecDepth 100000 in
theorem lifted (os : Os) (started : os.Started) (H : Type) (enc : TypeId × Value → H) :
    ReturnsInHanded {} Tryd.checked os 4 .any (fun w args => (Rows.fnValueStringReadBackByParseYesNoSpec.pre enc Tryd.prog Tryd.f4 [] false w args ∧ laidMetH Tryd.prog Rows.fnValueStringReadBackByParseYesNoRow.laid w) ∧ sizedMet enc Tryd.prog Tryd.f4 (OpenSpec.ofChange Rows.fnValueStringReadBackByParseYesNoSpec) false w args)
      (Rows.fnValueStringReadBackByParseYesNoSpec.post enc Tryd.prog Tryd.f4 false true false false) := by
  refine returnsInHanded_of_change_and (C := Tryd.checked) (X := fun w _ => laidMetH Tryd.prog Rows.fnValueStringReadBackByParseYesNoRow.laid w) (fun _ _ _ hh h => h.of_heap hh) own started (by kernel_rfl) Tryd.func4
    (ChangeSpec.witness_shaped (enc := enc) (C := Tryd.checked) (os := os) (X := fun w _ => laidMetH Tryd.prog Rows.fnValueStringReadBackByParseYesNoRow.laid w) false (World.doorLaid Tryd.prog 24 os) #[.int .i64 0, .bool false] 8 rfl (World.shaped_of_RefB (by kernel_rfl) (by kernel_rfl)) (by kernel_rfl) (by kernel_rfl) (by kernel_rfl) (door_met os _)) ?_
  intro W base args ds gs before hval0 hW _ _ hL _
  have hval : ∀ (j : Nat) t v, Tryd.f4.params[j]? = some t → args[j]? = some v → Value.okWide Tryd.prog W .any base t v := hval0
  have hW' := hW
  obtain ⟨p, q, hA0, hV, rfl, hfz, hnd⟩ := hW
  have hA : DataW.TrodAll enc Tryd.prog W 0 (fun _ => true) true Tryd.f4.params.toList args.toList ds p := hA0
  rw [Tryd.params4] at hA hval
  obtain ⟨v0, v1, d0, d1, p0, p1, rfl, rfl, rfl, h0, h1⟩ := trodAll_two hA
  obtain ⟨rfl, rfl⟩ := trodVars_none hV
  obtain ⟨a0, rfl, rfl, rfl, w0⟩ := open_int Tryd.underlying2 (hval 0 2 v0 rfl rfl) h0
  have b0 : -9223372036854775808 ≤ a0 ∧ a0 ≤ 9223372036854775807 := by have := w0; have e1 : IntKind.i64.min = -9223372036854775808 := rfl; have e2 : IntKind.i64.max = 9223372036854775807 := rfl; simp [Lit.wf, e1, e2] at this; omega
  obtain ⟨a1, rfl, rfl, rfl⟩ := open_bool Tryd.underlying4 (hval 1 4 v1 rfl rfl) h1
  have hT := tab_of_laid hL
  clear hA0 hval0
  simp only [List.append_nil] at hW'
  refine (walkBack a0 a1 b0.1 b0.2 W hT).mono fun e W' ⟨he, hnx⟩ => ?_
  subst he
  refine ⟨_, rfl, _, _, _, [], [], [], hW', ?_, ?_, rfl, hnx.frame _, fun h => by cases h⟩
  · exact trodAll_mk1 (shut_bool Tryd.underlying4 true)
  · exact trodAll_mk2 (shut_int Tryd.underlying2 w0) (shut_bool Tryd.underlying4 _)

theorem row_holds : Rows.FnValueStringReadBackByParseYesNoSaid :=
  OpenClaim.holds_of_wide 4 Tryd.f4 rfl rfl rfl rfl rfl rfl rfl ⟨rfl, rfl, rfl, rfl, rfl⟩ rfl rfl rfl rfl rfl (by kernel_rfl) Tryd.func4 (by kernel_rfl)
    (of_decide_eq_true (by kernel_rfl)) (by unfold Func.isWrapper; first | (rw [if_pos (by decide +kernel)]; kernel_rfl) | (rw [if_neg (by decide +kernel)]; exact ⟨rfl, rfl⟩))
    (fun os started H enc _ => lifted os started H enc)

theorem card_holds : Rows.FnValueStringReadBackByParseYesNoCardSaid :=
  Claim7.holds_tied_plain_at .later [] [.data, .data, .data] true Rows.fnValueStringReadBackByParseYesNoCard.stood.harness false
    row_holds (fun _ h => by cases h) (by kernel_rfl) (fun _ h => by cases h) fnValueStringReadBackByParseYesNo_row_tie rfl ⟨rfl, rfl⟩ (by kernel_rfl) rfl
    (fun f fn hf hfn => by
      obtain rfl : f = 4 := Option.some.inj ((show Tryd.prog.funcNamed Rows.fnValueStringReadBackByParseYesNoRow.func = some 4 by kernel_rfl).symm.trans hf) |>.symm
      obtain rfl : fn = Tryd.f4 := (Option.some.inj (Tryd.func4.symm.trans hfn)).symm
      exact ⟨by kernel_rfl, fun j t ht => by
        rw [Tryd.params4] at ht
        have hm : t ∈ [2, 4] := by simpa using Array.mem_of_getElem? ht
        have hall : ([2, 4].all fun u => !Tryd.prog.wantsStandIn u) = true := by kernel_rfl
        exact (show Tryd.prog.wantsStandIn t = false by simpa using List.all_eq_true.1 hall t hm)⟩)
    (by kernel_rfl)
end Go.Proofs.Qxb6600896aDoor.fnValueStringReadBackByParseYesNo
namespace Go.Proofs.Qxb6600896aDoor
/-- THE STATEMENT, under a plain name of this namespace. -/
theorem fnValueStringReadBackByParseYesNo_card_holds : Rows.FnValueStringReadBackByParseYesNoCardSaid := fnValueStringReadBackByParseYesNo.card_holds
end Go.Proofs.Qxb6600896aDoor
