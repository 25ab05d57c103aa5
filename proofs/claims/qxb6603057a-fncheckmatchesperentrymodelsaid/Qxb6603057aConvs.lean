/-
  zzEntries, zzReps, zzHistory: THE CONTRACTS (of a slice that is not nil); and what nil gives, of them and of the clones. 'IntMap': what a map[int64]int64 holds.
-/
import Derived.Test.Qxb6603057aClones
import Derived.BigRegion
import Derived.RegionTactic
import Derived.Maps.Own
import Derived.Maps.OwnOps
import Derived.Maps.OwnSet
import Derived.Maps.Views
namespace Go.Proofs.Qxb6603057a
open Go.RowKit Go.Maps
theorem allocB {w : World} {g : Nat} {x : Obj} (h : w.heap[g]? = some x) (ob : Obj) : (w.alloc ob).heap[g]? = some x := by
  rw [Below.heap_alloc _ _ _ (Array.getElem?_eq_some_iff.1 h).1]; exact h
theorem info63 : (Try.prog.info? 63).map (fun i => (i.zero, i.size, i.bytes)) = some (some (.agg #[.string ⟨#[]⟩, .string ⟨#[]⟩, .int .i64 0, .int .i64 0, .int .i64 0, .int .i64 0, .int .i64 0, .string ⟨#[]⟩, .slice none 0 0, .bool false, .int .i64 0, .string ⟨#[]⟩]), 12, 144) := by kernel_rfl
set_option maxHeartbeats 4000000 in
set_option maxRecDepth 100000 in
/-- zzEntries of a slice that is not nil. -/
theorem entries_some (b o n cap : Nat) (sp : Option Nat) (hsp : 0 < n → sp = none) (E : Nat → Ent) (S : Nat → Sl) (w : World) (hn : n ≤ 4096) (hc : HoldsAt w b o n 12 fun i => entCells (E i) (S i)) :
    Calls Try.prog 13 #[.slice (some ⟨b, o, sp⟩) n cap] w fun e w' => e = .returned (.slice (some ⟨w.heap.size, 0, none⟩) n n) ∧ HoldsAt w' w.heap.size 0 n 12 (fun i => entCells (E i) (S i)) ∧ Below w.heap.size w w' := by
  have hnil := fun wx => Lib.run_eql_slice_nil (P := Try.prog) wx 22 45 (some ⟨b, o, sp⟩) n cap 0 0 Try.underlying22
  go_enter Try.func13, Try.ntmps13
  go_wp2_with (at_make; refine makeN w rfl _ _ 36 63 rfl _ 12 144 Try.underlying36 info63 _ _ n rfl rfl rfl rfl (by omega) (by unfold maxLen; omega) ?_; intro w1 cur hg1 hcs hb1)
  go_loopw [4] (fun iv wr => ∃ (k : Nat) (cur : Array Value), k ≤ n ∧ iv = .int .i64 k ∧ wr.heap[w.heap.size]? = some (.cells cur 63 (0, 0)) ∧ Filled cur n 12 k (fun i => entCells (E i) (S i)) ∧ Below w.heap.size w wr) (fun iv _ => n - (intOf iv).toNat)
  case atStart => exact ⟨0, cur, Nat.zero_le _, rfl, hg1, ⟨hcs, fun i hi => by omega⟩, hb1⟩
  case round =>
    obtain ⟨k, cur, hk, rfl, hg, hF, hbw⟩ := hrel
    by_cases hlt : k < n
    · obtain rfl := hsp (by omega)
      have hsz := hF.1
      have d0 : wr.cell? ⟨b, o + k * 12, none⟩ = some (.string (E k).key) := keep hbw (hc k hlt 0 (by omega))
      have d1 : wr.cell? ⟨b, o + k * 12 + 1, none⟩ = some (.string (E k).req) := keep hbw (hc k hlt 1 (by omega))
      have d2 : wr.cell? ⟨b, o + k * 12 + 2, none⟩ = some (.int .i64 (E k).aid) := keep hbw (hc k hlt 2 (by omega))
      have d3 : wr.cell? ⟨b, o + k * 12 + 3, none⟩ = some (.int .i64 (E k).tid) := keep hbw (hc k hlt 3 (by omega))
      have d4 : wr.cell? ⟨b, o + k * 12 + 4, none⟩ = some (.int .i64 (E k).bid) := keep hbw (hc k hlt 4 (by omega))
      have d5 : wr.cell? ⟨b, o + k * 12 + 5, none⟩ = some (.int .i64 (E k).delta) := keep hbw (hc k hlt 5 (by omega))
      have d6 : wr.cell? ⟨b, o + k * 12 + 6, none⟩ = some (.int .i64 (E k).status) := keep hbw (hc k hlt 6 (by omega))
      have d7 : wr.cell? ⟨b, o + k * 12 + 7, none⟩ = some (.string (E k).body) := keep hbw (hc k hlt 7 (by omega))
      have d8 : wr.cell? ⟨b, o + k * 12 + 8, none⟩ = some (.slice (S k).a (S k).l (S k).c) := keep hbw (hc k hlt 8 (by omega))
      have d9 : wr.cell? ⟨b, o + k * 12 + 9, none⟩ = some (.bool (E k).replayed) := keep hbw (hc k hlt 9 (by omega))
      have d10 : wr.cell? ⟨b, o + k * 12 + 10, none⟩ = some (.int .i64 (E k).tries) := keep hbw (hc k hlt 10 (by omega))
      have d11 : wr.cell? ⟨b, o + k * 12 + 11, none⟩ = some (.string (E k).url) := keep hbw (hc k hlt 11 (by omega))
      obtain ⟨x0, hx0⟩ := someAt (cs := cur) (j := k * 12) (by omega)
      have e0 : wr.cell? ⟨w.heap.size, k * 12, none⟩ = some x0 := (cellB hg _).trans hx0
      have f0 := frozenB hg (k * 12)
      obtain ⟨x1, hx1⟩ := someAt (cs := cur) (j := k * 12 + 1) (by omega)
      have e1 : wr.cell? ⟨w.heap.size, k * 12 + 1, none⟩ = some x1 := (cellB hg _).trans hx1
      have f1 := frozenB hg (k * 12 + 1)
      obtain ⟨x2, hx2⟩ := someAt (cs := cur) (j := k * 12 + 2) (by omega)
      have e2 : wr.cell? ⟨w.heap.size, k * 12 + 2, none⟩ = some x2 := (cellB hg _).trans hx2
      have f2 := frozenB hg (k * 12 + 2)
      obtain ⟨x3, hx3⟩ := someAt (cs := cur) (j := k * 12 + 3) (by omega)
      have e3 : wr.cell? ⟨w.heap.size, k * 12 + 3, none⟩ = some x3 := (cellB hg _).trans hx3
      have f3 := frozenB hg (k * 12 + 3)
      obtain ⟨x4, hx4⟩ := someAt (cs := cur) (j := k * 12 + 4) (by omega)
      have e4 : wr.cell? ⟨w.heap.size, k * 12 + 4, none⟩ = some x4 := (cellB hg _).trans hx4
      have f4 := frozenB hg (k * 12 + 4)
      obtain ⟨x5, hx5⟩ := someAt (cs := cur) (j := k * 12 + 5) (by omega)
      have e5 : wr.cell? ⟨w.heap.size, k * 12 + 5, none⟩ = some x5 := (cellB hg _).trans hx5
      have f5 := frozenB hg (k * 12 + 5)
      obtain ⟨x6, hx6⟩ := someAt (cs := cur) (j := k * 12 + 6) (by omega)
      have e6 : wr.cell? ⟨w.heap.size, k * 12 + 6, none⟩ = some x6 := (cellB hg _).trans hx6
      have f6 := frozenB hg (k * 12 + 6)
      obtain ⟨x7, hx7⟩ := someAt (cs := cur) (j := k * 12 + 7) (by omega)
      have e7 : wr.cell? ⟨w.heap.size, k * 12 + 7, none⟩ = some x7 := (cellB hg _).trans hx7
      have f7 := frozenB hg (k * 12 + 7)
      obtain ⟨x8, hx8⟩ := someAt (cs := cur) (j := k * 12 + 8) (by omega)
      have e8 : wr.cell? ⟨w.heap.size, k * 12 + 8, none⟩ = some x8 := (cellB hg _).trans hx8
      have f8 := frozenB hg (k * 12 + 8)
      obtain ⟨x9, hx9⟩ := someAt (cs := cur) (j := k * 12 + 9) (by omega)
      have e9 : wr.cell? ⟨w.heap.size, k * 12 + 9, none⟩ = some x9 := (cellB hg _).trans hx9
      have f9 := frozenB hg (k * 12 + 9)
      obtain ⟨x10, hx10⟩ := someAt (cs := cur) (j := k * 12 + 10) (by omega)
      have e10 : wr.cell? ⟨w.heap.size, k * 12 + 10, none⟩ = some x10 := (cellB hg _).trans hx10
      have f10 := frozenB hg (k * 12 + 10)
      obtain ⟨x11, hx11⟩ := someAt (cs := cur) (j := k * 12 + 11) (by omega)
      have e11 : wr.cell? ⟨w.heap.size, k * 12 + 11, none⟩ = some x11 := (cellB hg _).trans hx11
      have f11 := frozenB hg (k * 12 + 11)
      have HS : Hid (Filled (putL cur (k * 12) (entCells (E k) (S k))) n 12 (k + 1) (fun i => entCells (E i) (S i))) := hF.step hlt rfl
      have hbs : w.heap.size < wr.heap.size := (Array.getElem?_eq_some_iff.1 hg).1
      have hbn : b ≠ w.heap.size := by have := World.block_lt_of_cell? w _ (hc k hlt 0 (by omega)); simp at this; omega
      have hbn' : w.heap.size ≠ b := fun h => hbn h.symm
      have hne : wr.heap.size ≠ w.heap.size := by omega
      have hne' : w.heap.size ≠ wr.heap.size := by omega
      clear hc hx0 hx1 hx2 hx3 hx4 hx5 hx6 hx7 hx8 hx9 hx10 hx11 hF
      go_wp2
      go_roundw
      case rel =>
        exact ⟨k + 1, _, by omega, by go_num, allocB (put1 (put1 (put1 (put1 (put1 (put1 (put1 (put1 (put1 (put1 (put1 (put1 hg _ _) _ _) _ _) _ _) _ _) _ _) _ _) _ _) _ _) _ _) _ _) _ _) _, HS.out, ((((((((((((hbw.setCell (p := ⟨w.heap.size, k * 12, none⟩) (Nat.le_refl _) _).setCell (p := ⟨w.heap.size, k * 12 + 1, none⟩) (Nat.le_refl _) _).setCell (p := ⟨w.heap.size, k * 12 + 2, none⟩) (Nat.le_refl _) _).setCell (p := ⟨w.heap.size, k * 12 + 3, none⟩) (Nat.le_refl _) _).setCell (p := ⟨w.heap.size, k * 12 + 4, none⟩) (Nat.le_refl _) _).setCell (p := ⟨w.heap.size, k * 12 + 5, none⟩) (Nat.le_refl _) _).setCell (p := ⟨w.heap.size, k * 12 + 6, none⟩) (Nat.le_refl _) _).setCell (p := ⟨w.heap.size, k * 12 + 7, none⟩) (Nat.le_refl _) _).setCell (p := ⟨w.heap.size, k * 12 + 8, none⟩) (Nat.le_refl _) _).setCell (p := ⟨w.heap.size, k * 12 + 9, none⟩) (Nat.le_refl _) _).setCell (p := ⟨w.heap.size, k * 12 + 10, none⟩) (Nat.le_refl _) _).setCell (p := ⟨w.heap.size, k * 12 + 11, none⟩) (Nat.le_refl _) _).alloc (by simp; omega) _⟩
      case measure => simp [intOf]; omega
    · obtain rfl : k = n := by omega
      go_wp2
      go_ret
      exact ⟨rfl, HoldsAt.of_filled hg hF, hbw⟩
theorem info58 : (Try.prog.info? 58).map (fun i => (i.zero, i.size, i.bytes)) = some (some (.agg #[.string ⟨#[]⟩, .int .i64 0, .slice none 0 0]), 3, 48) := by kernel_rfl
set_option maxHeartbeats 4000000 in
set_option maxRecDepth 100000 in
/-- zzReps of a slice that is not nil. -/
theorem reps_some (b o n cap : Nat) (sp : Option Nat) (hsp : 0 < n → sp = none) (E : Nat → Rp) (S : Nat → Sl) (w : World) (hn : n ≤ 4096) (hc : HoldsAt w b o n 3 fun i => repCells (E i) (S i)) :
    Calls Try.prog 15 #[.slice (some ⟨b, o, sp⟩) n cap] w fun e w' => e = .returned (.slice (some ⟨w.heap.size, 0, none⟩) n n) ∧ HoldsAt w' w.heap.size 0 n 3 (fun i => repCells (E i) (S i)) ∧ Below w.heap.size w w' := by
  have hnil := fun wx => Lib.run_eql_slice_nil (P := Try.prog) wx 24 47 (some ⟨b, o, sp⟩) n cap 0 0 Try.underlying24
  go_enter Try.func15, Try.ntmps15
  go_wp2_with (at_make; refine makeN w rfl _ _ 40 58 rfl _ 3 48 Try.underlying40 info58 _ _ n rfl rfl rfl rfl (by omega) (by unfold maxLen; omega) ?_; intro w1 cur hg1 hcs hb1)
  go_loopw [4] (fun iv wr => ∃ (k : Nat) (cur : Array Value), k ≤ n ∧ iv = .int .i64 k ∧ wr.heap[w.heap.size]? = some (.cells cur 58 (0, 0)) ∧ Filled cur n 3 k (fun i => repCells (E i) (S i)) ∧ Below w.heap.size w wr) (fun iv _ => n - (intOf iv).toNat)
  case atStart => exact ⟨0, cur, Nat.zero_le _, rfl, hg1, ⟨hcs, fun i hi => by omega⟩, hb1⟩
  case round =>
    obtain ⟨k, cur, hk, rfl, hg, hF, hbw⟩ := hrel
    by_cases hlt : k < n
    · obtain rfl := hsp (by omega)
      have hsz := hF.1
      have d0 : wr.cell? ⟨b, o + k * 3, none⟩ = some (.string (E k).key) := keep hbw (hc k hlt 0 (by omega))
      have d1 : wr.cell? ⟨b, o + k * 3 + 1, none⟩ = some (.int .i64 (E k).status) := keep hbw (hc k hlt 1 (by omega))
      have d2 : wr.cell? ⟨b, o + k * 3 + 2, none⟩ = some (.slice (S k).a (S k).l (S k).c) := keep hbw (hc k hlt 2 (by omega))
      obtain ⟨x0, hx0⟩ := someAt (cs := cur) (j := k * 3) (by omega)
      have e0 : wr.cell? ⟨w.heap.size, k * 3, none⟩ = some x0 := (cellB hg _).trans hx0
      have f0 := frozenB hg (k * 3)
      obtain ⟨x1, hx1⟩ := someAt (cs := cur) (j := k * 3 + 1) (by omega)
      have e1 : wr.cell? ⟨w.heap.size, k * 3 + 1, none⟩ = some x1 := (cellB hg _).trans hx1
      have f1 := frozenB hg (k * 3 + 1)
      obtain ⟨x2, hx2⟩ := someAt (cs := cur) (j := k * 3 + 2) (by omega)
      have e2 : wr.cell? ⟨w.heap.size, k * 3 + 2, none⟩ = some x2 := (cellB hg _).trans hx2
      have f2 := frozenB hg (k * 3 + 2)
      have HS : Hid (Filled (putL cur (k * 3) (repCells (E k) (S k))) n 3 (k + 1) (fun i => repCells (E i) (S i))) := hF.step hlt rfl
      have hi0 : (0 : Int) ≤ (k : Int) := by omega
      have hi1 : (k : Int) < (n : Int) := by omega
      clear hc hx0 hx1 hx2 hF
      go_wp2
      go_region
      all_goals (try go_wp2)
      all_goals
        go_roundw
        case rel => exact ⟨k + 1, _, by omega, by go_num, put1 (put1 (put1 hg _ _) _ _) _ _, HS.out, (((hbw.setCell (p := ⟨w.heap.size, k * 3, none⟩) (Nat.le_refl _) _).setCell (p := ⟨w.heap.size, k * 3 + 1, none⟩) (Nat.le_refl _) _).setCell (p := ⟨w.heap.size, k * 3 + 2, none⟩) (Nat.le_refl _) _).drew⟩
        case measure => simp [intOf]; omega
    · obtain rfl : k = n := by omega
      go_wp2
      go_ret
      exact ⟨rfl, HoldsAt.of_filled hg hF, hbw⟩

theorem keyed2 : Keyed Try.prog 2 := int_keyed Try.underlying2
theorem run_makeMap38 (n : Int) (w : World) : (Instr.makeMap 38 (some (.int .i64 n))).run Try.prog w = .ok (.map (some w.heap.size)) (w.alloc (.map #[] 0)) := by kernel_rfl
/-- The datum D is a map from integers to integers: f. -/
def IntMap (D : DataW Unit) (f : Int → Option Int) : Prop := IsMap D ∧ ∀ x : Int, Maps.has D (.int .i64 x) = (f x).isSome ∧ ∀ z, D.atKey (.int .i64 x) z = ((f x).map fun v => DataW.lit (.int .i64 v)).getD z
theorem intMap_empty : IntMap (.map []) (fun _ => none) := ⟨isMap_empty, fun _ => ⟨rfl, fun _ => rfl⟩⟩
theorem IntMap.put {D : DataW Unit} {f : Int → Option Int} (h : IntMap D f) (x v : Int) : IntMap (D.put (.int .i64 x) (.lit (.int .i64 v))) (fun y => if x = y then some v else f y) := by
  refine ⟨h.1.put _ _, fun y => ?_⟩
  by_cases e : x = y
  · subst e
    simp only [if_pos]
    exact ⟨has_put_same h.1 (show WideAt.IsKeyLit (.int .i64 x) from trivial) _, fun z => atKey_put_same h.1 (show WideAt.IsKeyLit (.int .i64 x) from trivial) _ _⟩
  · have hne : (Lit.int .i64 y) ≠ (.int .i64 x) := fun h => e (by injection h with _ h; exact h.symm)
    simp only [if_neg e]
    exact ⟨(has_put_other hne _).trans (h.2 y).1, fun z => (atKey_put_other hne _ _).trans ((h.2 y).2 z)⟩
/-- The last of the first k rows that names x. -/
def last (D R : Nat → Int) : Nat → Int → Option Int
  | 0, _ => none
  | k + 1, x => if D k = x then some (R k) else last D R k x

set_option maxHeartbeats 4000000 in
set_option maxRecDepth 100000 in
/-- zzHistory of a slice that is not nil. -/
theorem history_some (b o n cap : Nat) (sp : Option Nat) (hsp : 0 < n → sp = none) (D R : Nat → Int) (w : World) (hn : n ≤ 4096) (hc : HoldsAt w b o n 2 fun i => rowCells (D i) (R i))
    (hwf : ∀ i, i < n → (Lit.int .i64 (D i)).wf = true ∧ (Lit.int .i64 (R i)).wf = true) :
    Calls Try.prog 14 #[.slice (some ⟨b, o, sp⟩) n cap] w fun e w' => ∃ Dm, e = .returned (.map (some w.heap.size)) ∧ w'.ownsMap Try.prog 2 (plainElem Try.prog 2) w.heap.size n Dm ∧ IntMap Dm (last D R n) ∧ Below w.heap.size w w' := by
  have hnil := fun wx => Lib.run_eql_slice_nil (P := Try.prog) wx 23 51 (some ⟨b, o, sp⟩) n cap 0 0 Try.underlying23
  have hmm := run_makeMap38
  go_enter Try.func14, Try.ntmps14
  go_wp2
  go_loopw [4] (fun iv wr => ∃ (k : Nat) (Dm : DataW Unit), k ≤ n ∧ iv = .int .i64 k ∧ wr.ownsMap Try.prog 2 (plainElem Try.prog 2) w.heap.size k Dm ∧ IntMap Dm (last D R k) ∧ Below w.heap.size w wr) (fun iv _ => n - (intOf iv).toNat)
  case atStart => exact ⟨0, _, Nat.zero_le _, rfl, World.ownsMap_made _ _ _ _, intMap_empty, (Below.refl _ _).alloc (Nat.le_refl _) _⟩
  case round =>
    obtain ⟨k, Dm, hk, rfl, hown, hI, hbw⟩ := hrel
    by_cases hlt : k < n
    · obtain rfl := hsp (by omega)
      have d0 : wr.cell? ⟨b, o + k * 2, none⟩ = some (.int .i64 (D k)) := keep hbw (hc k hlt 0 (by omega))
      have d1 : wr.cell? ⟨b, o + k * 2 + 1, none⟩ = some (.int .i64 (R k)) := keep hbw (hc k hlt 1 (by omega))
      have hi0 : (0 : Int) ≤ (k : Int) := by omega
      have hi1 : (k : Int) < (n : Int) := by omega
      have hI2 : IntMap (Dm.put (.int .i64 (D k)) (.lit (.int .i64 (R k)))) (last D R (k + 1)) := hI.put (D k) (R k)
      obtain ⟨w1, hrun, hown1, hgr⟩ := World.ownsMap.update (w := wr.drew) (t := 38) (e := 2) hown.drew keyed2 Try.underlying38 (by unfold maxLen; omega) (key := .int .i64 (D k)) (val := .int .i64 (R k)) (keyOf_int_mk Try.underlying2 (hwf k hlt).1) (plainElem_int Try.underlying2 (hwf k hlt).2)
      have HW : Hid (Below w.heap.size w w1) := hbw.drew.grown hgr hbw.size (fun j hj => by cases hj; exact Nat.le_refl _)
      clear hc hwf
      go_wp2
      go_region
      all_goals (try go_wp2)
      all_goals
        go_roundw
        case rel => exact ⟨k + 1, _, by omega, by go_num, hown1, hI2, HW.out⟩
        case measure => simp [intOf]; omega
    · obtain rfl : k = n := by omega
      go_wp2
      go_ret
      exact ⟨Dm, rfl, hown, hI, hbw⟩

theorem cloneEnts_nil (w : World) : Calls Try.prog 9 #[.slice none 0 0] w fun e w' => e = .returned (.slice none 0 0) ∧ w = w' := by
  have hnil := fun wx => Lib.run_eql_slice_nil (P := Try.prog) wx 22 45 none 0 0 0 0 Try.underlying22
  go_enter Try.func9, Try.ntmps9
  go_wp2
  go_ret
  exact ⟨rfl, rfl⟩

theorem cloneRows_nil (w : World) : Calls Try.prog 10 #[.slice none 0 0] w fun e w' => e = .returned (.slice none 0 0) ∧ w = w' := by
  have hnil := fun wx => Lib.run_eql_slice_nil (P := Try.prog) wx 23 51 none 0 0 0 0 Try.underlying23
  go_enter Try.func10, Try.ntmps10
  go_wp2
  go_ret
  exact ⟨rfl, rfl⟩

theorem cloneReps_nil (w : World) : Calls Try.prog 11 #[.slice none 0 0] w fun e w' => e = .returned (.slice none 0 0) ∧ w = w' := by
  have hnil := fun wx => Lib.run_eql_slice_nil (P := Try.prog) wx 24 47 none 0 0 0 0 Try.underlying24
  go_enter Try.func11, Try.ntmps11
  go_wp2
  go_ret
  exact ⟨rfl, rfl⟩

theorem entries_nil (w : World) : Calls Try.prog 13 #[.slice none 0 0] w fun e w' => e = .returned (.slice none 0 0) ∧ w = w' := by
  have hnil := fun wx => Lib.run_eql_slice_nil (P := Try.prog) wx 22 45 none 0 0 0 0 Try.underlying22
  go_enter Try.func13, Try.ntmps13
  go_wp2
  go_ret
  exact ⟨rfl, rfl⟩

theorem history_nil (w : World) : Calls Try.prog 14 #[.slice none 0 0] w fun e w' => e = .returned (.map none) ∧ w = w' := by
  have hnil := fun wx => Lib.run_eql_slice_nil (P := Try.prog) wx 23 51 none 0 0 0 0 Try.underlying23
  go_enter Try.func14, Try.ntmps14
  go_wp2
  go_ret
  exact ⟨rfl, rfl⟩

theorem reps_nil (w : World) : Calls Try.prog 15 #[.slice none 0 0] w fun e w' => e = .returned (.slice none 0 0) ∧ w = w' := by
  have hnil := fun wx => Lib.run_eql_slice_nil (P := Try.prog) wx 24 47 none 0 0 0 0 Try.underlying24
  go_enter Try.func15, Try.ntmps15
  go_wp2
  go_ret
  exact ⟨rfl, rfl⟩
end Go.Proofs.Qxb6603057a
