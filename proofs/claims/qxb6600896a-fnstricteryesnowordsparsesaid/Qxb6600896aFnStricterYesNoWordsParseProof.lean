/-
  THE PROOF OF 'Rows.FnStricterYesNoWordsParseSaid': the frame is the guide's template as its tool writes it for this function; the contracts and the walk are the prover's.
-/
import Derived.Test.Qxb6600896aRows
import Derived.WalkKit
import Derived.ProofKit
import Derived.OpenShut
import Derived.ShutString
import Derived.RegionTactic
namespace Go.Proofs.Qxb6600896a.fnStricterYesNoWordsParse
open Go.ChangeShapes Go.WideShapes Go.ChangeAt Go.RowKit
open Go.ChangeMaps (open_string shut_string)
set_option linter.unusedVariables false      -- a walk need not use every 'w<i>' (that an integer argument fits its kind)

theorem own : ownKnob Try.prog.godebug = none := by kernel_rfl

theorem grown_trans {a b c : World} (h1 : Grown a b) (h2 : Grown b c) : Grown a c :=
  ⟨World.keptBut_trans h1.1 h2.1, fun x => (h2.2.1 x).trans (h1.2.1 x), Nat.le_trans h1.2.2 h2.2.2⟩
def sYes : ByteArray := ⟨#[121, 101, 115]⟩
def sNo : ByteArray := ⟨#[110, 111]⟩
def sHigher : ByteArray := ⟨#[104, 105, 103, 104, 101, 114]⟩
def sLower : ByteArray := ⟨#[108, 111, 119, 101, 114]⟩
def pn (l : List UInt8) : Int := if l == [121, 101, 115] then 1 else 0
def py (l : List UInt8) : Bool := l == [121, 101, 115] || l == [110, 111]

theorem ways (y : Bool) (w : World) :
    Calls Try.prog 9 #[.bool y] w fun e w' => e = .returned (.agg #[.string (if y then sYes else sHigher), .string (if y then sNo else sLower)]) ∧ w' = w.alloc (.cells #[.string (if y then sYes else sHigher), .string (if y then sNo else sLower)] 34) := by
  cases y
  all_goals
    go_enter Try.func9, Try.ntmps9
    go_wp2
    exact bodyPost_ret (v := .agg #[.string _, .string _]) (by simp [results, Try.results9, go_sem]; exact ⟨rfl, rfl⟩) rfl ⟨rfl, rfl⟩
theorem parse (s : ByteArray) (w : World) :
    Calls Try.prog 8 #[.string s] w fun e w' => e = .returned (.tuple #[.agg #[.int .i64 (pn s.toList), .bool (py s.toList)], .bool (py s.toList)]) ∧ w' = w.alloc (.cells #[.int .i64 (pn s.toList), .bool (py s.toList)] 30) := by
  by_cases h1 : s.toList = [121, 101, 115]
  · have e1 : pn s.toList = 1 := by simp [pn, h1]
    have e2 : py s.toList = true := by simp [py, h1]
    have h1' : (s.toList == [121, 101, 115]) = true := by simp [h1]
    rw [e1, e2]
    clear e1 e2 h1
    go_enter Try.func8, Try.ntmps8
    go_wp2
    exact bodyPost_ret (v := .tuple #[.agg #[.int .i64 1, .bool true], .bool true]) (by simp [results, Try.results8, go_sem]) rfl ⟨rfl, rfl⟩
  · have h1' : (s.toList == [121, 101, 115]) = false := by simp [h1]
    by_cases h2 : s.toList = [110, 111]
    · have e1 : pn s.toList = 0 := by simp [pn, h1]
      have e2 : py s.toList = true := by simp [py, h2]
      have h2' : (s.toList == [110, 111]) = true := by simp [h2]
      rw [e1, e2]
      clear e1 e2 h1 h2
      go_enter Try.func8, Try.ntmps8
      go_wp2
      exact bodyPost_ret (v := .tuple #[.agg #[.int .i64 0, .bool true], .bool true]) (by simp [results, Try.results8, go_sem]) rfl ⟨rfl, rfl⟩
    · have e1 : pn s.toList = 0 := by simp [pn, h1]
      have e2 : py s.toList = false := by simp [py, h1, h2]
      have h2' : (s.toList == [110, 111]) = false := by simp [h2]
      rw [e1, e2]
      clear e1 e2 h1 h2
      go_enter Try.func8, Try.ntmps8
      go_wp2
      exact bodyPost_ret (v := .tuple #[.agg #[.int .i64 0, .bool false], .bool false]) (by simp [results, Try.results8, go_sem]) rfl ⟨rfl, rfl⟩
theorem zzParse (s : ByteArray) (w : World) :
    Calls Try.prog 6 #[.string s] w fun e w' => e = .returned (.tuple #[.int .i64 (pn s.toList), .bool (py s.toList), .bool (py s.toList)]) ∧ Grown w w' := by
  have hp := parse s
  generalize pn s.toList = n, py s.toList = b at *
  have H : Hid (∀ w, Calls Try.prog 8 #[.string s] w fun e w' => e = .returned (.tuple #[.agg #[.int .i64 n, .bool b], .bool b]) ∧ w' = w.alloc (.cells #[.int .i64 n, .bool b] 30)) := hp
  clear hp
  go_enter Try.func6, Try.ntmps6
  go_wp2_with (go_at_call 8; refine (H.out _).mono ?_; rintro e w' ⟨rfl, rfl⟩)
  go_region
  all_goals (try go_wp2)
  all_goals
    go_ret3
    exact ⟨rfl, by repeat (first | exact Grown.refl _ | apply Grown.drew | apply Grown.alloc)⟩
theorem stricter (name : ByteArray) (y h : Bool) (w : World) :
    Calls Try.prog 5 #[.string name, .bool y, .bool h] w fun e w' => e = .returned (.string (if h then (if y then sYes else sHigher) else (if y then sNo else sLower))) ∧ Grown w w' := by
  cases h <;> cases y
  all_goals
    go_enter Try.func5, Try.ntmps5
    go_wp2_with (first | (go_at_call 9; refine (ways _ _).mono ?_; rintro e w' ⟨rfl, rfl⟩) | go_in)
    go_ret
    exact ⟨rfl, by repeat (first | exact Grown.refl _ | apply Grown.drew | apply Grown.alloc)⟩
theorem facts : py sYes.toList = true ∧ pn sYes.toList = 1 ∧ py sNo.toList = true ∧ pn sNo.toList = 0 ∧ py sHigher.toList = false ∧ py sLower.toList = false := by decide +kernel
theorem walk (a0 : ByteArray) (a1 : Bool) (a2 : Bool) (w0 : a0.size ≤ maxLen) (w : World) :
    Calls Try.prog 3 #[.string a0, .bool a1, .bool a2] w fun e w' => e = .returned (.bool true) ∧ Grown w w' := by
  obtain ⟨f1, f2, f3, f4, f5, f6⟩ := facts
  by_cases hl : (a0.size : Int) ≤ 1048576
  · have hl' : decide ((1048576 : Int) < (a0.size : Int)) = false := by simp; omega
    cases a1 <;> cases a2
    all_goals
      go_enter Try.func3, Try.ntmps3
      go_wp2_with (first | (go_at_call 5; refine (stricter _ _ _ _).mono ?_; rintro e w1 ⟨rfl, hg1⟩) | (go_at_call 6; refine (zzParse _ _).mono ?_; rintro e w2 ⟨rfl, hg2⟩) | go_in)
      go_ret
      exact ⟨rfl, grown_trans hg1 hg2⟩
  · have hl' : decide ((1048576 : Int) < (a0.size : Int)) = true := by simp; omega
    go_enter Try.func3, Try.ntmps3
    go_wp2
    go_ret
    exact ⟨rfl, by repeat (first | exact Grown.refl _ | apply Grown.drew | apply Grown.alloc)⟩

/-! ### THE ROW's STEP: WRITTEN OUT: LEAVE IT -/
set_option maxRecDepth 100000 in
theorem lifted (os : Os) (started : os.Started) (H : Type) (enc : TypeId × Value → H) :
    ReturnsInHanded {} Try.checked os 3 .any (Rows.fnStricterYesNoWordsParseSpec.pre6 enc Try.prog Try.f3 Rows.fnStricterYesNoWordsParseRow.domain false) (Rows.fnStricterYesNoWordsParseSpec.post enc Try.prog Try.f3 false true false false) := by
  refine returnsInHanded_of_change (C := Try.checked) own started (by kernel_rfl) Try.func3
    (ChangeSpec.witness6 (enc := enc) (C := Try.checked) false ⟨#[], #[.string ByteArray.empty, .bool false, .bool false], []⟩ 8 (by kernel_rfl) (by kernel_rfl) (by kernel_rfl) (by kernel_rfl)) ?_
  intro W base args ds gs before hval0 hW hcnd _
  have hval : ∀ (j : Nat) t v, Try.f3.params[j]? = some t → args[j]? = some v → Value.okWide Try.prog W .any base t v := hval0
  have hW' := hW
  obtain ⟨p, q, hA0, hV, rfl, hfz, hnd⟩ := hW
  have hA : DataW.TrodAll enc Try.prog W 0 (fun _ => true) true Try.f3.params.toList args.toList ds p := hA0
  rw [Try.params3] at hA hval
  obtain ⟨v0, vs0, d0, ds0, p0, q0, hargs, rfl, rfl, h0, r0⟩ := trodAll_cons hA
  obtain ⟨v1, vs1, d1, ds1, p1, q1, rfl, rfl, rfl, h1, r1⟩ := trodAll_cons r0
  obtain ⟨v2, vs2, d2, ds2, p2, q2, rfl, rfl, rfl, h2, r2⟩ := trodAll_cons r1
  obtain ⟨rfl, rfl, rfl⟩ := trodAll_nil r2
  obtain rfl : args = #[v0, v1, v2] := by cases args; simp_all
  obtain ⟨rfl, rfl⟩ := trodVars_none hV
  obtain ⟨a0, rfl, rfl, rfl, w0⟩ := open_string Try.underlying9 (hval 0 9 v0 rfl rfl) h0
  obtain ⟨a1, rfl, rfl, rfl⟩ := open_bool Try.underlying4 (hval 1 4 v1 rfl rfl) h1
  obtain ⟨a2, rfl, rfl, rfl⟩ := open_bool Try.underlying4 (hval 2 4 v2 rfl rfl) h2
  clear hA0 hval0
  simp only [List.append_nil] at hW'
  refine (walk a0 a1 a2 w0 W).mono fun e W' ⟨he, hg⟩ => ?_
  subst he
  exact ⟨_, rfl, post_of_same (pa := []) (pv := []) hW' (fun _ _ _ => (trodAll_cons_mk (shut_bool Try.underlying4 _) trodAll_mk0)) (fun sp _ => (trodAll_cons_mk (shut_string Try.underlying9 w0) (trodAll_cons_mk (shut_bool Try.underlying4 _) (trodAll_cons_mk (shut_bool Try.underlying4 _) trodAll_mk0)))) (fun _ _ => rfl) rfl
    (hg.frame _) hg.2.1 (ok_one (by kernel_rfl) rfl (okWide_bool_mk Try.underlying4 _))⟩

theorem over : Rows.fnStricterYesNoWordsParseRow.holds Try.pinned (OpenSpec.ofChange Rows.fnStricterYesNoWordsParseSpec) :=
  OpenClaim.holds_of_wide 3 Try.f3 rfl rfl rfl rfl rfl rfl rfl ⟨rfl, rfl, rfl, rfl, rfl⟩ rfl rfl rfl rfl rfl (by kernel_rfl) Try.func3 (by kernel_rfl)
    (of_decide_eq_true (by kernel_rfl)) (by unfold Func.isWrapper; first | (rw [if_pos (by decide +kernel)]; kernel_rfl) | (rw [if_neg (by decide +kernel)]; exact ⟨rfl, rfl⟩))
    (fun os started H enc _ => lifted os started H enc)

/-- ████ THE STATEMENT ████ -/
theorem proved : Rows.FnStricterYesNoWordsParseSaid :=
  over
end Go.Proofs.Qxb6600896a.fnStricterYesNoWordsParse
namespace Go.Proofs.Qxb6600896a
/-- THE STATEMENT, under a plain name of this namespace. -/
theorem fnStricterYesNoWordsParse_holds : Rows.FnStricterYesNoWordsParseSaid := fnStricterYesNoWordsParse.proved
end Go.Proofs.Qxb6600896a
