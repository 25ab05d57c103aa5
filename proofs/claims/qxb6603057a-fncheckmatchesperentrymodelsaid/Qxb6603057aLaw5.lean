/-
  FnCheckCountsBounded (function 5): the walk.
-/
import Derived.Test.Qxb6603057aPlain7
import Derived.Test.Qxb6603057aArgs
import Derived.Test.Qxb6603057aRegion
namespace Go.Proofs.Qxb6603057a
open Go.RowKit Go.Maps
/-- The balances' block, and all below w's end as it was. -/
def Inv (w : World) (b0 b1 b2 : Int) (X : World) : Prop := Below w.heap.size w X ∧ X.heap[w.heap.size]? = some (.cells #[.int .i64 b0, .int .i64 b1, .int .i64 b2] 25 (0, 0))
theorem Inv.keep {w : World} {b0 b1 b2 : Int} {X Y : World} (h : Inv w b0 b1 b2 X) (hb : Below X.heap.size X Y) : Inv w b0 b1 b2 Y := ⟨h.1.trans (hb.mono h.1.size), blk hb h.2⟩
theorem inv_new (w : World) (b0 b1 b2 : Int) : Inv w b0 b1 b2 (w.alloc (.cells #[.int .i64 b0, .int .i64 b1, .int .i64 b2] 25)) := ⟨below_new w _, newB w _ _⟩
theorem Inv.cell {w : World} {b0 b1 b2 : Int} {X : World} (h : Inv w b0 b1 b2 X) : X.cell? ⟨w.heap.size, 0, none⟩ = some (.int .i64 b0) ∧ X.cell? ⟨w.heap.size, 1, none⟩ = some (.int .i64 b1) ∧ X.cell? ⟨w.heap.size, 2, none⟩ = some (.int .i64 b2) := ⟨cellB h.2 0, cellB h.2 1, cellB h.2 2⟩

set_option maxHeartbeats 8000000 in
set_option maxRecDepth 100000 in
theorem law5 (ea : Option Addr) (eb eo n cap : Nat) (ha : Option Addr) (hb ho nh hcap : Nat) (rc : Bool) (ra : Option Addr) (rb ro nr rcap : Nat) (b0 b1 b2 : Int) (w : World)
    (hae : ArgS ea eb eo n cap) (E : Nat → Ent) (S : Nat → Sl) (Bo : Nat → Option (List UInt8)) (hE : HoldsAt w eb eo n 12 fun i => entCells (E i) (S i)) (hBy : ∀ i, i < n → BytesAt w (S i) (Bo i)) (hwE : ∀ i, i < n → (Lit.int .i64 (E i).delta).wf = true)
    (hah : ArgS ha hb ho nh hcap) (D R : Nat → Int) (hH : HoldsAt w hb ho nh 2 fun i => rowCells (D i) (R i)) (hwH : ∀ i, i < nh → (Lit.int .i64 (D i)).wf = true ∧ (Lit.int .i64 (R i)).wf = true)
    (har : ArgS ra rb ro nr rcap) (rE : Nat → Rp) (rS : Nat → Sl) (rB : Nat → Option (List UInt8)) (hR : HoldsAt w rb ro nr 3 fun i => repCells (rE i) (rS i)) (hrB : ∀ i, i < nr → BytesAt w (rS i) (rB i)) :
    Calls Try.prog 5 #[.slice ea n cap, .slice ha nh hcap, .bool rc, .slice ra nr rcap, .agg #[.int .i64 b0, .int .i64 b1, .int .i64 b2]] w fun e w' => e = .returned (.bool true) ∧ Below w.heap.size w w' := by
  have HAE := Hid.mk' hae
  have HE := Hid.mk' hE
  have HBY := Hid.mk' hBy
  have HWE := Hid.mk' hwE
  have HAH := Hid.mk' hah
  have HH := Hid.mk' hH
  have HWH := Hid.mk' hwH
  have HAR := Hid.mk' har
  have HR := Hid.mk' hR
  have HRB := Hid.mk' hrB
  clear hae hE hBy hwE hah hH hwH har hR hrB
  have HBX := Hid.mk' (inv_new w b0 b1 b2)
  go_enter Try.func5, Try.ntmps5
  go_wp2_with (first
    | (go_at_call 18; refine (zzBytes18 ea eb eo n cap ha nh hcap rc ra rb ro nr rcap b0 b1 b2 _ HAE.out.at E S (by exact HE.out.keep (fun _ _ => rfl) HBX.out.1) HAR.out.at rE rS (by exact HR.out.keep (fun _ _ => rfl) HBX.out.1)).mono ?_; rintro e W1 ⟨⟨q, rfl⟩, hb1⟩; have HI1 := Hid.mk' (HBX.out.keep hb1); clear hb1)
    | (go_at_call 7; refine (zzSizeOK ea eb eo n cap ha nh hcap ra rb ro nr rcap _ HAE.out.at E S (by exact HE.out.keep (fun _ _ => rfl) HI1.out.1) HAR.out.at rE rS (by exact HR.out.keep (fun _ _ => rfl) HI1.out.1)).mono ?_; rintro e W2 ⟨⟨q2, rfl, hq2⟩, rfl⟩; have HQ2 : Hid ((!q2) = false → Sizes n nh nr E S rE rS) := Hid.mk' (fun h => hq2 (by simpa using h)); clear hq2)
    | (go_at_call 9; have HSZ := Hid.mk' (HQ2.out (by assumption)); obtain ⟨hn, hnh, hnr, hs1, hs2⟩ := HQ2.out (by assumption); clear hs1 hs2 HQ2; refine (cloneEntsA HAE.out _ hn E S Bo (by exact HE.out.keep (fun _ _ => rfl) HI1.out.1) (fun i hi => (HBY.out i hi).keep HI1.out.1) (fun i hi => by have := (HSZ.out.2.2.2.1 i hi).2.2; omega)).mono ?_; rintro e W2 ⟨ea', eb', ec', S', rfl, hA2, hE2, hB2, hb2⟩; have HI2 := Hid.mk' (HI1.out.keep hb2); have HA2 := Hid.mk' hA2; have HE2 := Hid.mk' hE2; have HB2 := Hid.mk' hB2; clear hA2 hE2 hB2 hb2)
    | (go_at_call 10; refine (cloneRowsA HAH.out _ hnh D R (by exact HH.out.keep (fun _ _ => rfl) HI2.out.1)).mono ?_; rintro e W3 ⟨ha', hb', hc', rfl, hA3, hH3, hb3⟩; have HI3 := Hid.mk' (HI2.out.keep hb3); have HA3 := Hid.mk' hA3; have HH3 := Hid.mk' hH3; have HE3 := Hid.mk' (HE2.out.keep (fun _ _ => rfl) hb3); have HB3 := Hid.mk' (fun i hi => (HB2.out i hi).keep hb3); clear hA3 hH3 hb3)
    | (go_at_call 11; refine (cloneRepsA HAR.out _ hnr rE rS rB (by exact HR.out.keep (fun _ _ => rfl) HI3.out.1) (fun i hi => (HRB.out i hi).keep HI3.out.1) (fun i hi => by have := (HSZ.out.2.2.2.2 i hi).2; omega)).mono ?_; rintro e W4 ⟨ra', rb', rc', rS', rfl, hA4, hR4, hB4, hb4⟩; have HI4 := Hid.mk' (HI3.out.keep hb4); have HA4 := Hid.mk' hA4; have HR4 := Hid.mk' hR4; have HRB4 := Hid.mk' hB4; have HE4 := Hid.mk' (HE3.out.keep (fun _ _ => rfl) hb4); have HB4 := Hid.mk' (fun i hi => (HB3.out i hi).keep hb4); have HH4 := Hid.mk' (HH3.out.keep (fun _ _ => rfl) hb4); clear hA4 hR4 hB4 hb4))
  all_goals (try (go_ret; exact ⟨rfl, HI1.out.1⟩))
  refine region_zz ⟨ea', ec', eb', n, ha', hc', hb', nh, rc, ra', rc', rb', nr, b0, b1, b2, E, S', Bo, D, R, rE, rS', rB⟩ 30 (by omega) _ _ _ _ _ _ _ _ _ _ _ _ rfl ⟨rfl, rfl, rfl⟩ ⟨rfl, rfl, rfl⟩ ⟨rfl, rfl, rfl⟩ ⟨rfl, rfl, rfl⟩ ⟨rfl, rfl, rfl⟩ ⟨rfl, rfl, rfl⟩ ⟨rfl, rfl, rfl⟩ ⟨rfl, rfl, rfl⟩ ⟨rfl, rfl, rfl⟩ ⟨rfl, rfl, rfl⟩ ⟨rfl, rfl, rfl⟩ (by kernel_rfl) _ _ _ _ _ (by simp) w.heap.size rfl rfl rfl rfl rfl ⟨hn, hnh, hnr, HA2.out, HE4.out.keep (fun _ _ => rfl) (Below.refl _ _).drew, fun i hi => (HB4.out i hi).keep (Below.refl _ _).drew, fun i hi => ⟨HWE.out i hi, Nat.le_trans (HSZ.out.2.2.2.1 i hi).1 (by unfold maxLen; omega)⟩, HA3.out, HH4.out.keep (fun _ _ => rfl) (Below.refl _ _).drew, HWH.out, HA4.out, HR4.out.keep (fun _ _ => rfl) (Below.refl _ _).drew, fun i hi => (HRB4.out i hi).keep (Below.refl _ _).drew, fun i hi => Nat.le_trans (HSZ.out.2.2.2.2 i hi).1 (by unfold maxLen; omega), (HI4.out.keep (Below.refl _ _).drew).2⟩ ?_
  intro T' w' g C hF hbw e11 hgl hC hrp
  have hl := hF.lit e11
  clear hF e11
  revert hl
  simp only [Nat.reduceAdd, List.setIfInBounds_toArray, List.set_cons_succ, List.set_cons_zero]
  rintro ⟨u30, u31, u32, u33, u34, u35, u36, u37, u38, rfl⟩
  have hrp : Rpt (last D R nh) (fun i => (E i).delta) n (fun i => rc && mis rE rB nr (E i) (Bo i)) (!rc) b0 b1 b2 (.returned (.agg C)) := hrp
  obtain ⟨vH, vD, vL, vO, vS, he, hD0, hD1, hL⟩ := rpt_bounds hrp hn
  injection he with he
  injection he with he
  subst he
  have hm0 : (mcnt (fun i => rc && mis rE rB nr (E i) (Bo i)) n : Int) ≤ n := by have := mcnt_le (fun i => rc && mis rE rB nr (E i) (Bo i)) n; omega
  have HM1 : Hid (rc = false → mcnt (fun i => rc && mis rE rB nr (E i) (Bo i)) n = 0) := Hid.mk' (fun h => mcnt_none (fun i => by rw [h]; rfl) n)
  have HLL := Hid.mk' hL
  have HI9 := Hid.mk' ((HI4.out.keep (Below.refl _ _).drew).keep hbw)
  have HH9 := Hid.mk' ((HH4.out.keep (fun _ _ => rfl) (Below.refl _ _).drew).keep (fun _ _ => rfl) hbw)
  obtain ⟨m0, m1, m2⟩ := HI9.out.cell
  have HC := Hid.mk' hC
  obtain ⟨r0, r1, r2, r3, r4, r5, r6, r7, r8, r9, r10⟩ := rcell hC
  clear hrp hL hC hbw hgl
  have HL9 : Hid ((∀ i, i < nh → R i < 0 → supB D nh i = true) → 0 ≤ vL ∧ vD + vL ≤ n) := Hid.mk' (fun h => HLL.out (last_live h))
  clear HLL
  have hd1 : decide ((mcnt (fun i => rc && mis rE rB nr (E i) (Bo i)) n : Int) < 0) = false := by simp
  generalize mcnt (fun i => rc && mis rE rB nr (E i) (Bo i)) n = mm at *
  have hd2 : decide ((mm : Int) > n) = false := by simp; omega
  have hd3 : decide (vD < 0) = false := by simp; omega
  have hd4 : decide (vD > n) = false := by simp; omega
  have hrc : ((!rc) == rc) = false := by cases rc <;> rfl
  have hmz : rc = false → mm = 0 := HM1.out
  clear HM1
  cases rc
  · obtain rfl := hmz rfl
    go_wp2_with (first | (go_at_call 8; refine (zzLiveRows ha' hb' 0 nh hc' D R _ hnh HA3.out.at (by exact HH9.out)).mono ?_; rintro e W9 ⟨⟨q3, rfl, hq3⟩, hb9⟩; obtain ⟨r0, r1, r2, r3, r4, r5, r6, r7, r8, r9, r10⟩ := rcell (blk hb9 HC.out); have HI10 := Hid.mk' (HI9.out.keep hb9); clear hb9; rcases q3 with _ | _; rotate_left; obtain ⟨hl0, hl1⟩ := HL9.out (hq3 rfl); have hd5 : decide (vL < 0) = false := (by simp; omega); have hw : wrap64 (vD + vL) = vD + vL := (by unfold wrap64; omega); have hd6 : decide (vD + vL > n) = false := (by simp; omega); clear hq3; rotate_left; clear hq3))
    all_goals (try go_wp2)
    all_goals (go_ret; exact ⟨rfl, HI10.out.1⟩)
  · clear hmz
    go_wp2_with (first | (go_at_call 8; refine (zzLiveRows ha' hb' 0 nh hc' D R _ hnh HA3.out.at (by exact HH9.out)).mono ?_; rintro e W9 ⟨⟨q3, rfl, hq3⟩, hb9⟩; obtain ⟨r0, r1, r2, r3, r4, r5, r6, r7, r8, r9, r10⟩ := rcell (blk hb9 HC.out); have HI10 := Hid.mk' (HI9.out.keep hb9); clear hb9; rcases q3 with _ | _; rotate_left; obtain ⟨hl0, hl1⟩ := HL9.out (hq3 rfl); have hd5 : decide (vL < 0) = false := (by simp; omega); have hw : wrap64 (vD + vL) = vD + vL := (by unfold wrap64; omega); have hd6 : decide (vD + vL > n) = false := (by simp; omega); clear hq3; rotate_left; clear hq3))
    all_goals (try go_wp2)
    all_goals (go_ret; exact ⟨rfl, HI10.out.1⟩)
end Go.Proofs.Qxb6603057a
