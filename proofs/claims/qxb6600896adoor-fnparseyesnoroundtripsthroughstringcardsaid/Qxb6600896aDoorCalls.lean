/-
  THE CONTRACTS of the functions on the three laws' roads (Value.String, ZZValueString, parseYesNo, ZZParseYesNo) AND THE THREE LAWS' WALKS.
-/
import Derived.Test.Qxb6600896aDoorShelf
import Derived.Test.Qxb6600896aDoorPlain
import Derived.WalkKit
import Derived.RegionTactic
namespace Go.Proofs.Qxb6600896aDoor
open Go.RowKit

def sYes : ByteArray := ⟨#[121, 101, 115]⟩
def sNo : ByteArray := ⟨#[110, 111]⟩
def pn (l : List UInt8) : Int := if l == [121, 101, 115] then 1 else 0
def py (l : List UInt8) : Bool := l == [121, 101, 115] || l == [110, 111]
def numStr (n : Int) : ByteArray := ⟨(Lib.itoa n).toArray⟩

theorem parse (s : ByteArray) (w : World) :
    Calls Tryd.prog 10 #[.string s] w fun e w' => e = .returned (.tuple #[.agg #[.int .i64 (pn s.toList), .bool (py s.toList)], .bool (py s.toList)]) ∧ w' = w.alloc (.cells #[.int .i64 (pn s.toList), .bool (py s.toList)] 29) := by
  by_cases h1 : s.toList = [121, 101, 115]
  · have e1 : pn s.toList = 1 := by simp [pn, h1]
    have e2 : py s.toList = true := by simp [py, h1]
    have h1' : (s.toList == [121, 101, 115]) = true := by simp [h1]
    rw [e1, e2]
    clear e1 e2 h1
    go_enter Tryd.func10, Tryd.ntmps10
    go_wp2
    exact bodyPost_ret (v := .tuple #[.agg #[.int .i64 1, .bool true], .bool true]) (by simp [results, Tryd.results10, go_sem]) rfl ⟨rfl, rfl⟩
  · have h1' : (s.toList == [121, 101, 115]) = false := by simp [h1]
    by_cases h2 : s.toList = [110, 111]
    · have e1 : pn s.toList = 0 := by simp [pn, h1]
      have e2 : py s.toList = true := by simp [py, h2]
      have h2' : (s.toList == [110, 111]) = true := by simp [h2]
      rw [e1, e2]
      clear e1 e2 h1 h2
      go_enter Tryd.func10, Tryd.ntmps10
      go_wp2
      exact bodyPost_ret (v := .tuple #[.agg #[.int .i64 0, .bool true], .bool true]) (by simp [results, Tryd.results10, go_sem]) rfl ⟨rfl, rfl⟩
    · have e1 : pn s.toList = 0 := by simp [pn, h1]
      have e2 : py s.toList = false := by simp [py, h1, h2]
      have h2' : (s.toList == [110, 111]) = false := by simp [h2]
      rw [e1, e2]
      clear e1 e2 h1 h2
      go_enter Tryd.func10, Tryd.ntmps10
      go_wp2
      exact bodyPost_ret (v := .tuple #[.agg #[.int .i64 0, .bool false], .bool false]) (by simp [results, Tryd.results10, go_sem]) rfl ⟨rfl, rfl⟩
theorem zzParse (s : ByteArray) (w : World) :
    Calls Tryd.prog 7 #[.string s] w fun e w' => e = .returned (.tuple #[.int .i64 (pn s.toList), .bool (py s.toList), .bool (py s.toList)]) ∧ Below w.heap.size w w' := by
  have hp := parse s
  generalize pn s.toList = n, py s.toList = b at *
  have H : Hid (∀ w, Calls Tryd.prog 10 #[.string s] w fun e w' => e = .returned (.tuple #[.agg #[.int .i64 n, .bool b], .bool b]) ∧ w' = w.alloc (.cells #[.int .i64 n, .bool b] 29)) := hp
  clear hp
  go_enter Tryd.func7, Tryd.ntmps7
  go_wp2_with (go_at_call 10; refine (H.out _).mono ?_; rintro e w' ⟨rfl, rfl⟩)
  go_region
  all_goals (try go_wp2)
  all_goals
    go_ret3
    exact ⟨rfl, (((Below.refl _ _).alloc (Nat.le_refl _) _).alloc (by simp) _).drew⟩

/-- Value.String of a number. -/
theorem strNum (n : Int) (h0 : -9223372036854775808 ≤ n) (h1 : n ≤ 9223372036854775807) (w : World) (ht : TabOk w) :
    Calls Tryd.prog 6 #[.int .i64 n, .bool false] w fun e w' => e = .returned (.string (numStr n)) ∧ Below w.heap.size w w' := by
  have H : Hid (∀ o, TabOk (w.alloc o)) := fun o => ht.stays ((Below.refl _ _).alloc (Nat.le_refl _) _)
  clear ht
  go_enter Tryd.func6, Tryd.ntmps6
  go_wp2_with (first | (go_at_call 11; refine (formatInt _ h0 h1 _ (H.out _)).mono ?_; rintro e w' ⟨rfl, hb⟩) | go_in)
  go_ret
  exact ⟨rfl, ((Below.refl _ _).alloc (Nat.le_refl _) _).trans (hb.mono (by simp))⟩
/-- Value.String of a yes/no value. -/
theorem strYes (n : Int) (h : n = 1) (w : World) :
    Calls Tryd.prog 6 #[.int .i64 n, .bool true] w fun e w' => e = .returned (.string sYes) ∧ Below w.heap.size w w' := by
  have h' : (n == 1) = true := by simp [h]
  clear h
  go_enter Tryd.func6, Tryd.ntmps6
  go_wp2
  go_ret
  exact ⟨rfl, ((Below.refl _ _).alloc (Nat.le_refl _) _)⟩
theorem strNo (n : Int) (h : n ≠ 1) (w : World) :
    Calls Tryd.prog 6 #[.int .i64 n, .bool true] w fun e w' => e = .returned (.string sNo) ∧ Below w.heap.size w w' := by
  have h' : (n == 1) = false := by simp [h]
  clear h
  go_enter Tryd.func6, Tryd.ntmps6
  go_wp2
  go_ret
  exact ⟨rfl, ((Below.refl _ _).alloc (Nat.le_refl _) _)⟩

theorem numStr_toList (n : Int) : (numStr n).toList = Lib.itoa n := by simp [numStr]
/-- THE WALK OF FnValueStringNumbersInjective. -/
theorem walkInj (a b : Int) (ha0 : -9223372036854775808 ≤ a) (ha1 : a ≤ 9223372036854775807) (hb0 : -9223372036854775808 ≤ b) (hb1 : b ≤ 9223372036854775807) (w : World) (ht : TabOk w) :
    Calls Tryd.prog 3 #[.int .i64 a, .int .i64 b] w fun e w' => e = .returned (.bool true) ∧ Below w.heap.size w w' := by
  have H : Hid (TabOk w) := ht
  clear ht
  have key : ((numStr a).toList == (numStr b).toList) = (a == b) := by
    rw [numStr_toList, numStr_toList, Bool.eq_iff_iff, beq_iff_eq, beq_iff_eq]
    exact ⟨Plain.itoa_inj, fun h => by rw [h]⟩
  go_enter Tryd.func3, Tryd.ntmps3
  go_wp2_with fail
  refine (strNum a ha0 ha1 _ H.out).mono ?_
  rintro e w1 ⟨rfl, hw1⟩
  go_wp2_with fail
  refine (strNum b hb0 hb1 _ (TabOk.stays H.out hw1)).mono ?_
  rintro e w2 ⟨rfl, hw2⟩
  go_wp2
  go_ret
  exact ⟨by simp, hw1.trans (hw2.mono hw1.size)⟩
/-- THE WALK OF FnValueStringReadBackByParseYesNo. -/
theorem walkBack (n : Int) (y : Bool) (h0 : -9223372036854775808 ≤ n) (h1 : n ≤ 9223372036854775807) (w : World) (ht : TabOk w) :
    Calls Tryd.prog 4 #[.int .i64 n, .bool y] w fun e w' => e = .returned (.bool true) ∧ Below w.heap.size w w' := by
  have H : Hid (TabOk w) := ht
  clear ht
  cases y
  · have e1 : py (numStr n).toList = false := by rw [numStr_toList]; simp [py, Plain.itoa_ne_yes, Plain.itoa_ne_no]
    have e2 : pn (numStr n).toList = 0 := by rw [numStr_toList]; simp [pn, Plain.itoa_ne_yes]
    go_enter Tryd.func4, Tryd.ntmps4
    go_wp2_with (first | (go_at_call 6; refine (strNum n h0 h1 _ H.out).mono ?_; rintro e w1 ⟨rfl, hw1⟩) | (go_at_call 7; refine (zzParse _ _).mono ?_; rintro e w2 ⟨rfl, hw2⟩))
    go_ret
    exact ⟨by simp, hw1.trans (hw2.mono hw1.size)⟩
  · by_cases hn : n = 1
    · have e1 : py sYes.toList = true := by decide +kernel
      have e2 : pn sYes.toList = 1 := by decide +kernel
      have hn' : (n == 1) = true := by simp [hn]
      go_enter Tryd.func4, Tryd.ntmps4
      go_wp2_with (first | (go_at_call 6; refine (strYes _ (by omega) _).mono ?_; rintro e w1 ⟨rfl, hw1⟩) | (go_at_call 7; refine (zzParse _ _).mono ?_; rintro e w2 ⟨rfl, hw2⟩))
      go_ret
      exact ⟨by simp, hw1.trans (hw2.mono hw1.size)⟩
    · have e1 : py sNo.toList = true := by decide +kernel
      have e2 : pn sNo.toList = 0 := by decide +kernel
      have hn' : (n == 1) = false := by simp [hn]
      go_enter Tryd.func4, Tryd.ntmps4
      go_wp2_with (first | (go_at_call 6; refine (strNo _ hn _).mono ?_; rintro e w1 ⟨rfl, hw1⟩) | (go_at_call 7; refine (zzParse _ _).mono ?_; rintro e w2 ⟨rfl, hw2⟩))
      go_ret
      exact ⟨by simp, hw1.trans (hw2.mono hw1.size)⟩
/-- THE WALK OF FnParseYesNoRoundTripsThroughString. -/
theorem walkRound (s : ByteArray) (hs : s.size ≤ maxLen) (w : World) :
    Calls Tryd.prog 5 #[.string s] w fun e w' => e = .returned (.bool true) ∧ Below w.heap.size w w' := by
  unfold maxLen at hs
  by_cases hl : (s.size : Int) ≤ 1048576
  · have hl' : decide ((1048576 : Int) < (s.size : Int)) = false := by simp; omega
    by_cases hy : s.toList = [121, 101, 115]
    · have e1 : py s.toList = true := by simp [py, hy]
      have e2 : pn s.toList = 1 := by simp [pn, hy]
      have e3 : (sYes.toList == s.toList) = true := by rw [hy]; decide +kernel
      clear hy
      go_enter Tryd.func5, Tryd.ntmps5
      go_wp2_with (first | (go_at_call 6; refine (strYes _ (by omega) _).mono ?_; rintro e w1 ⟨rfl, hw1⟩) | (go_at_call 7; refine (zzParse _ _).mono ?_; rintro e w2 ⟨rfl, hw2⟩) | go_in)
      go_ret
      exact ⟨by simp, hw2.trans (hw1.mono hw2.size)⟩
    · by_cases hn : s.toList = [110, 111]
      · have e1 : py s.toList = true := by simp [py, hn]
        have e2 : pn s.toList = 0 := by simp [pn, hn]
        have e3 : (sNo.toList == s.toList) = true := by rw [hn]; decide +kernel
        clear hy hn
        go_enter Tryd.func5, Tryd.ntmps5
        go_wp2_with (first | (go_at_call 6; refine (strNo _ (by omega) _).mono ?_; rintro e w1 ⟨rfl, hw1⟩) | (go_at_call 7; refine (zzParse _ _).mono ?_; rintro e w2 ⟨rfl, hw2⟩) | go_in)
        go_ret
        exact ⟨by simp, hw2.trans (hw1.mono hw2.size)⟩
      · have e1 : py s.toList = false := by simp [py, hy, hn]
        clear hy hn
        go_enter Tryd.func5, Tryd.ntmps5
        go_wp2_with (first | (go_at_call 7; refine (zzParse _ _).mono ?_; rintro e w2 ⟨rfl, hw2⟩) | go_in)
        go_ret
        exact ⟨rfl, hw2⟩
  · have hl' : decide ((1048576 : Int) < (s.size : Int)) = true := by simp; omega
    go_enter Tryd.func5, Tryd.ntmps5
    go_wp2
    go_ret
    exact ⟨rfl, Below.refl _ _⟩
end Go.Proofs.Qxb6600896aDoor
