/-
  The bounds of the law's arguments (functions 18, 6, 7, 19), and the live rows (functions 8, 20).
-/
import Derived.Test.Qxb6603057aBodies
import Derived.Test.Qxb6603057aSpec
import Derived.BigRegion
import Derived.RegionTactic
import Derived.Deep.RegionWith
import Derived.Outline
namespace Go.Proofs.Qxb6603057a
open Go.RowKit Go.Maps
/-- A bool comes back. -/
def RetB (e : Ending) : Prop := ∃ b, e = .returned (.bool b)
theorem below_new (w : World) (o : Obj) : Below w.heap.size w (w.alloc o) := (Below.refl _ _).alloc (Nat.le_refl _) _
theorem Hid.mk'' {p : Prop} (h : p) : Hid p := h

set_option maxHeartbeats 4000000 in
set_option maxRecDepth 100000 in
theorem zzBytes18 (ea : Option Addr) (eb eo n cap : Nat) (ha : Option Addr) (nh hcap : Nat) (rc : Bool) (ra : Option Addr) (rb ro nr rcap : Nat) (b0 b1 b2 : Int) (w : World)
    (hea : 0 < n → ea = some ⟨eb, eo, none⟩) (E : Nat → Ent) (S : Nat → Sl) (hE : HoldsAt w eb eo n 12 fun i => entCells (E i) (S i))
    (hra : 0 < nr → ra = some ⟨rb, ro, none⟩) (rE : Nat → Rp) (rS : Nat → Sl) (hR : HoldsAt w rb ro nr 3 fun i => repCells (rE i) (rS i)) :
    Calls Try.prog 18 #[.slice ea n cap, .slice ha nh hcap, .bool rc, .slice ra nr rcap, .agg #[.int .i64 b0, .int .i64 b1, .int .i64 b2]] w fun e w' => RetB e ∧ Below w.heap.size w w' := by
  have HEA : Hid (0 < n → ea = some ⟨eb, eo, none⟩) := hea
  have HE : Hid (HoldsAt w eb eo n 12 fun i => entCells (E i) (S i)) := hE
  have HRA : Hid (0 < nr → ra = some ⟨rb, ro, none⟩) := hra
  have HR : Hid (HoldsAt w rb ro nr 3 fun i => repCells (rE i) (rS i)) := hR
  have hb := below_new w (.cells #[.int .i64 b0, .int .i64 b1, .int .i64 b2] 25)
  clear hea hE hra hR
  go_enter Try.func18, Try.ntmps18
  by_cases hn : n ≤ 1048576
  · have hd : decide ((n : Int) > 1048576) = false := by simp; omega
    go_wp2
    go_loopw [11, 12] (fun zn iv wr => ∃ (k : Nat) (z : Int), k ≤ n ∧ iv = .int .i64 k ∧ zn = .int .i64 z ∧ wr = w.alloc (.cells #[.int .i64 b0, .int .i64 b1, .int .i64 b2] 25)) (fun _ iv _ => n - (intOf iv).toNat)
    case atStart => exact ⟨0, _, Nat.zero_le _, rfl, rfl, rfl⟩
    case round =>
      obtain ⟨k, z, hk, rfl, rfl, hw⟩ := hrel
      by_cases hlt : k < n
      · obtain rfl := HEA.out (by omega)
        have c0 : wr.cell? ⟨eb, eo + k * 12, none⟩ = some (.string (E k).key) := by rw [hw]; exact keep hb (HE.out k hlt 0 (by omega))
        have c1 : wr.cell? ⟨eb, eo + k * 12 + 1, none⟩ = some (.string (E k).req) := by rw [hw]; exact keep hb (HE.out k hlt 1 (by omega))
        have c7 : wr.cell? ⟨eb, eo + k * 12 + 7, none⟩ = some (.string (E k).body) := by rw [hw]; exact keep hb (HE.out k hlt 7 (by omega))
        have c8 : wr.cell? ⟨eb, eo + k * 12 + 8, none⟩ = some (.slice (S k).a (S k).l (S k).c) := by rw [hw]; exact keep hb (HE.out k hlt 8 (by omega))
        have c11 : wr.cell? ⟨eb, eo + k * 12 + 11, none⟩ = some (.string (E k).url) := by rw [hw]; exact keep hb (HE.out k hlt 11 (by omega))
        have hi0 : (0 : Int) ≤ (k : Int) := by omega
        have hi1 : (k : Int) < (n : Int) := by omega
        have HW : Hid (wr = w.alloc (.cells #[.int .i64 b0, .int .i64 b1, .int .i64 b2] 25)) := hw
        have HB : Hid (Below w.heap.size w wr) := by show Below _ _ _; rw [hw]; exact hb
        clear hw hb
        go_wp2
        all_goals first
          | (go_ret; exact ⟨⟨_, rfl⟩, HB.out⟩)
          | (go_roundw
             case rel => exact ⟨k + 1, _, by omega, by go_num, rfl, HW.out⟩
             case measure => simp [intOf]; omega)
      · obtain rfl : k = n := by omega
        subst hw
        have HB : Hid (Below w.heap.size w (w.alloc (.cells #[.int .i64 b0, .int .i64 b1, .int .i64 b2] 25))) := hb
        by_cases hnr : nr ≤ 1048576
        · have hdr : decide ((nr : Int) > 1048576) = false := by simp; omega
          go_wp2
          all_goals first
            | (go_ret; exact ⟨⟨_, rfl⟩, HB.out⟩)
            | skip
          go_loopw [11, 13] (fun zn iv wr => ∃ (k : Nat) (z : Int), k ≤ nr ∧ iv = .int .i64 k ∧ zn = .int .i64 z ∧ wr = w.alloc (.cells #[.int .i64 b0, .int .i64 b1, .int .i64 b2] 25)) (fun _ iv _ => nr - (intOf iv).toNat)
          case atStart => exact ⟨0, _, Nat.zero_le _, rfl, rfl, rfl⟩
          case round =>
            obtain ⟨j, y, hj, rfl, rfl, hw⟩ := hrel
            by_cases hlr : j < nr
            · obtain rfl := HRA.out (by omega)
              have c0 : wr.cell? ⟨rb, ro + j * 3, none⟩ = some (.string (rE j).key) := by rw [hw]; exact keep hb (HR.out j hlr 0 (by omega))
              have c2 : wr.cell? ⟨rb, ro + j * 3 + 2, none⟩ = some (.slice (rS j).a (rS j).l (rS j).c) := by rw [hw]; exact keep hb (HR.out j hlr 2 (by omega))
              have hi0 : (0 : Int) ≤ (j : Int) := by omega
              have hi1 : (j : Int) < (nr : Int) := by omega
              have HW : Hid (wr = w.alloc (.cells #[.int .i64 b0, .int .i64 b1, .int .i64 b2] 25)) := hw
              have HB2 : Hid (Below w.heap.size w wr) := by show Below _ _ _; rw [hw]; exact hb
              clear hw hb
              go_wp2
              all_goals first
                | (go_ret; exact ⟨⟨_, rfl⟩, HB2.out⟩)
                | (go_roundw
                   case rel => exact ⟨j + 1, _, by omega, by go_num, rfl, HW.out⟩
                   case measure => simp [intOf]; omega)
            · obtain rfl : j = nr := by omega
              subst hw
              go_wp2
              go_ret
              exact ⟨⟨_, rfl⟩, HB.out⟩
        · have hdr : decide ((nr : Int) > 1048576) = true := by simp; omega
          go_wp2
          all_goals (go_ret; exact ⟨⟨_, rfl⟩, HB.out⟩)
  · have hd : decide ((n : Int) > 1048576) = true := by simp; omega
    go_wp2
    go_ret
    exact ⟨⟨_, rfl⟩, hb⟩

set_option maxHeartbeats 4000000 in
set_option maxRecDepth 100000 in
theorem zzBytes6 (ea : Option Addr) (eb eo n cap : Nat) (ha : Option Addr) (nh hcap : Nat) (rc : Bool) (ra : Option Addr) (rb ro nr rcap : Nat) (b0 b1 b2 : Int) (w : World)
    (hea : 0 < n → ea = some ⟨eb, eo, none⟩) (E : Nat → Ent) (S : Nat → Sl) (hE : HoldsAt w eb eo n 12 fun i => entCells (E i) (S i))
    (hra : 0 < nr → ra = some ⟨rb, ro, none⟩) (rE : Nat → Rp) (rS : Nat → Sl) (hR : HoldsAt w rb ro nr 3 fun i => repCells (rE i) (rS i)) :
    Calls Try.prog 6 #[.slice ea n cap, .slice ha nh hcap, .bool rc, .slice ra nr rcap, .agg #[.int .i64 b0, .int .i64 b1, .int .i64 b2]] w fun e w' => RetB e ∧ Below w.heap.size w w' := by
  have HEA : Hid (0 < n → ea = some ⟨eb, eo, none⟩) := hea
  have HE : Hid (HoldsAt w eb eo n 12 fun i => entCells (E i) (S i)) := hE
  have HRA : Hid (0 < nr → ra = some ⟨rb, ro, none⟩) := hra
  have HR : Hid (HoldsAt w rb ro nr 3 fun i => repCells (rE i) (rS i)) := hR
  have hb := below_new w (.cells #[.int .i64 b0, .int .i64 b1, .int .i64 b2] 25)
  clear hea hE hra hR
  go_enter Try.func6, Try.ntmps6
  by_cases hn : n ≤ 1048576
  · have hd : decide ((n : Int) > 1048576) = false := by simp; omega
    go_wp2
    go_loopw [11, 12] (fun zn iv wr => ∃ (k : Nat) (z : Int), k ≤ n ∧ iv = .int .i64 k ∧ zn = .int .i64 z ∧ wr = w.alloc (.cells #[.int .i64 b0, .int .i64 b1, .int .i64 b2] 25)) (fun _ iv _ => n - (intOf iv).toNat)
    case atStart => exact ⟨0, _, Nat.zero_le _, rfl, rfl, rfl⟩
    case round =>
      obtain ⟨k, z, hk, rfl, rfl, hw⟩ := hrel
      by_cases hlt : k < n
      · obtain rfl := HEA.out (by omega)
        have c0 : wr.cell? ⟨eb, eo + k * 12, none⟩ = some (.string (E k).key) := by rw [hw]; exact keep hb (HE.out k hlt 0 (by omega))
        have c1 : wr.cell? ⟨eb, eo + k * 12 + 1, none⟩ = some (.string (E k).req) := by rw [hw]; exact keep hb (HE.out k hlt 1 (by omega))
        have c7 : wr.cell? ⟨eb, eo + k * 12 + 7, none⟩ = some (.string (E k).body) := by rw [hw]; exact keep hb (HE.out k hlt 7 (by omega))
        have c8 : wr.cell? ⟨eb, eo + k * 12 + 8, none⟩ = some (.slice (S k).a (S k).l (S k).c) := by rw [hw]; exact keep hb (HE.out k hlt 8 (by omega))
        have c11 : wr.cell? ⟨eb, eo + k * 12 + 11, none⟩ = some (.string (E k).url) := by rw [hw]; exact keep hb (HE.out k hlt 11 (by omega))
        have hi0 : (0 : Int) ≤ (k : Int) := by omega
        have hi1 : (k : Int) < (n : Int) := by omega
        have HW : Hid (wr = w.alloc (.cells #[.int .i64 b0, .int .i64 b1, .int .i64 b2] 25)) := hw
        have HB : Hid (Below w.heap.size w wr) := by show Below _ _ _; rw [hw]; exact hb
        clear hw hb
        go_wp2
        all_goals first
          | (go_ret; exact ⟨⟨_, rfl⟩, HB.out⟩)
          | (go_roundw
             case rel => exact ⟨k + 1, _, by omega, by go_num, rfl, HW.out⟩
             case measure => simp [intOf]; omega)
      · obtain rfl : k = n := by omega
        subst hw
        have HB : Hid (Below w.heap.size w (w.alloc (.cells #[.int .i64 b0, .int .i64 b1, .int .i64 b2] 25))) := hb
        by_cases hnr : nr ≤ 1048576
        · have hdr : decide ((nr : Int) > 1048576) = false := by simp; omega
          go_wp2
          all_goals first
            | (go_ret; exact ⟨⟨_, rfl⟩, HB.out⟩)
            | skip
          go_loopw [11, 13] (fun zn iv wr => ∃ (k : Nat) (z : Int), k ≤ nr ∧ iv = .int .i64 k ∧ zn = .int .i64 z ∧ wr = w.alloc (.cells #[.int .i64 b0, .int .i64 b1, .int .i64 b2] 25)) (fun _ iv _ => nr - (intOf iv).toNat)
          case atStart => exact ⟨0, _, Nat.zero_le _, rfl, rfl, rfl⟩
          case round =>
            obtain ⟨j, y, hj, rfl, rfl, hw⟩ := hrel
            by_cases hlr : j < nr
            · obtain rfl := HRA.out (by omega)
              have c0 : wr.cell? ⟨rb, ro + j * 3, none⟩ = some (.string (rE j).key) := by rw [hw]; exact keep hb (HR.out j hlr 0 (by omega))
              have c2 : wr.cell? ⟨rb, ro + j * 3 + 2, none⟩ = some (.slice (rS j).a (rS j).l (rS j).c) := by rw [hw]; exact keep hb (HR.out j hlr 2 (by omega))
              have hi0 : (0 : Int) ≤ (j : Int) := by omega
              have hi1 : (j : Int) < (nr : Int) := by omega
              have HW : Hid (wr = w.alloc (.cells #[.int .i64 b0, .int .i64 b1, .int .i64 b2] 25)) := hw
              have HB2 : Hid (Below w.heap.size w wr) := by show Below _ _ _; rw [hw]; exact hb
              clear hw hb
              go_wp2
              all_goals first
                | (go_ret; exact ⟨⟨_, rfl⟩, HB2.out⟩)
                | (go_roundw
                   case rel => exact ⟨j + 1, _, by omega, by go_num, rfl, HW.out⟩
                   case measure => simp [intOf]; omega)
            · obtain rfl : j = nr := by omega
              subst hw
              go_wp2
              go_ret
              exact ⟨⟨_, rfl⟩, HB.out⟩
        · have hdr : decide ((nr : Int) > 1048576) = true := by simp; omega
          go_wp2
          all_goals (go_ret; exact ⟨⟨_, rfl⟩, HB.out⟩)
  · have hd : decide ((n : Int) > 1048576) = true := by simp; omega
    go_wp2
    go_ret
    exact ⟨⟨_, rfl⟩, hb⟩

/-- What 'zzTake' hands back. -/
def TakeR (l : Nat) (e : Ending) : Prop := ∃ (z' : Nat) (b : Bool), z' ≤ 1048576 ∧ ((!b) = false → l ≤ 1048576) ∧ e = .returned (.tuple #[.int .i64 z', .bool b])
theorem zzTake (z l : Nat) (hz : z ≤ 1048576) (w : World) :
    Calls Try.prog 19 #[.int .i64 z, .int .i64 l] w fun e w' => TakeR l e ∧ w = w' := by
  have h0 : decide ((l : Int) < 0) = false := by simp
  have hsub : wrap64 (1048576 - (z : Int)) = 1048576 - (z : Int) := by unfold wrap64; omega
  go_enter Try.func19, Try.ntmps19
  by_cases h : (l : Int) > 1048576 - (z : Int)
  · have hd : decide ((l : Int) > 1048576 - (z : Int)) = true := by simpa using h
    go_wp2
    exact bodyPost_ret (v := .tuple #[.int .i64 z, .bool false]) (by simp [results, Try.results19, go_sem]) rfl ⟨⟨z, false, hz, (fun h => by cases h), rfl⟩, rfl⟩
  · have hd : decide ((l : Int) > 1048576 - (z : Int)) = false := by simpa using h
    have hadd : wrap64 ((z : Int) + (l : Int)) = ((z + l : Nat) : Int) := by unfold wrap64; omega
    go_wp2
    exact bodyPost_ret (v := .tuple #[.int .i64 ((z + l : Nat) : Int), .bool true]) (by simp [results, Try.results19, go_sem]) rfl ⟨⟨z + l, true, by omega, fun _ => by omega, rfl⟩, rfl⟩

/-- What 'zzSizeOK' = true tells. -/
def Sizes (n nh nr : Nat) (E : Nat → Ent) (S : Nat → Sl) (rE : Nat → Rp) (rS : Nat → Sl) : Prop :=
  n ≤ 4096 ∧ nh ≤ 4096 ∧ nr ≤ 4096 ∧ (∀ i, i < n → (E i).key.size ≤ 1048576 ∧ (E i).body.size ≤ 1048576 ∧ (S i).l ≤ 1048576) ∧ ∀ i, i < nr → (rE i).key.size ≤ 1048576 ∧ (rS i).l ≤ 1048576
def SizeR (n nh nr : Nat) (E : Nat → Ent) (S : Nat → Sl) (rE : Nat → Rp) (rS : Nat → Sl) (e : Ending) : Prop := ∃ b, e = .returned (.bool b) ∧ (b = true → Sizes n nh nr E S rE rS)
theorem sizeR_no (n nh nr : Nat) (E : Nat → Ent) (S : Nat → Sl) (rE : Nat → Rp) (rS : Nat → Sl) : SizeR n nh nr E S rE rS (.returned (.bool false)) := ⟨false, rfl, fun h => by cases h⟩
set_option maxHeartbeats 4000000 in
set_option maxRecDepth 100000 in
theorem zzSizeOK (ea : Option Addr) (eb eo n cap : Nat) (ha : Option Addr) (nh hcap : Nat) (ra : Option Addr) (rb ro nr rcap : Nat) (w : World)
    (hea : 0 < n → ea = some ⟨eb, eo, none⟩) (E : Nat → Ent) (S : Nat → Sl) (hE : HoldsAt w eb eo n 12 fun i => entCells (E i) (S i))
    (hra : 0 < nr → ra = some ⟨rb, ro, none⟩) (rE : Nat → Rp) (rS : Nat → Sl) (hR : HoldsAt w rb ro nr 3 fun i => repCells (rE i) (rS i)) :
    Calls Try.prog 7 #[.slice ea n cap, .slice ha nh hcap, .slice ra nr rcap] w fun e w' => SizeR n nh nr E S rE rS e ∧ w = w' := by
  have HEA : Hid (0 < n → ea = some ⟨eb, eo, none⟩) := hea
  have HE : Hid (HoldsAt w eb eo n 12 fun i => entCells (E i) (S i)) := hE
  have HRA : Hid (0 < nr → ra = some ⟨rb, ro, none⟩) := hra
  have HR : Hid (HoldsAt w rb ro nr 3 fun i => repCells (rE i) (rS i)) := hR
  clear hea hE hra hR
  go_enter Try.func7, Try.ntmps7
  by_cases hn : n ≤ 4096 ∧ nh ≤ 4096 ∧ nr ≤ 4096
  · obtain ⟨hn1, hn2, hn3⟩ := hn
    have hd1 : decide ((n : Int) > 4096) = false := by simp; omega
    have hd2 : decide ((nh : Int) > 4096) = false := by simp; omega
    have hd3 : decide ((nr : Int) > 4096) = false := by simp; omega
    have hw1 : wrap64 (144 * (n : Int)) = 144 * (n : Int) := by unfold wrap64; omega
    have hw2 : wrap64 (16 * (nh : Int)) = 16 * (nh : Int) := by unfold wrap64; omega
    have hw3 : wrap64 (48 * (nr : Int)) = 48 * (nr : Int) := by unfold wrap64; omega
    have hw4 : wrap64 (144 * (n : Int) + 16 * (nh : Int)) = 144 * (n : Int) + 16 * (nh : Int) := by unfold wrap64; omega
    have hw5 : wrap64 (144 * (n : Int) + 16 * (nh : Int) + 48 * (nr : Int)) = 144 * (n : Int) + 16 * (nh : Int) + 48 * (nr : Int) := by unfold wrap64; omega
    by_cases hz : 144 * n + 16 * nh + 48 * nr ≤ 1048576
    · have hd4 : decide (144 * (n : Int) + 16 * (nh : Int) + 48 * (nr : Int) > 1048576) = false := by simp; omega
      go_wp2
      go_loopw [7, 8, 9] (fun zn okv iv wr => ∃ (k z : Nat) (ok : Bool), k ≤ n ∧ iv = .int .i64 k ∧ zn = .int .i64 z ∧ okv = .bool ok ∧ z ≤ 1048576 ∧ Hid (∀ i, i < k → (E i).key.size ≤ 1048576 ∧ (E i).body.size ≤ 1048576 ∧ (S i).l ≤ 1048576) ∧ wr = w) (fun _ _ iv _ => n - (intOf iv).toNat)
      case atStart => exact ⟨0, 144 * n + 16 * nh + 48 * nr, true, Nat.zero_le _, rfl, congrArg (Value.int .i64) (by omega), rfl, hz, Hid.mk'' (fun i hi => by omega), rfl⟩
      case round =>
        obtain ⟨k, z, ok, hk, rfl, rfl, rfl, hzz, HS0, hw⟩ := hrel
        by_cases hlt : k < n
        · obtain rfl := HEA.out (by omega)
          have c0 : wr.cell? ⟨eb, eo + k * 12, none⟩ = some (.string (E k).key) := by rw [hw]; exact HE.out k hlt 0 (by omega)
          have c1 : wr.cell? ⟨eb, eo + k * 12 + 1, none⟩ = some (.string (E k).req) := by rw [hw]; exact HE.out k hlt 1 (by omega)
          have c7 : wr.cell? ⟨eb, eo + k * 12 + 7, none⟩ = some (.string (E k).body) := by rw [hw]; exact HE.out k hlt 7 (by omega)
          have c8 : wr.cell? ⟨eb, eo + k * 12 + 8, none⟩ = some (.slice (S k).a (S k).l (S k).c) := by rw [hw]; exact HE.out k hlt 8 (by omega)
          have c11 : wr.cell? ⟨eb, eo + k * 12 + 11, none⟩ = some (.string (E k).url) := by rw [hw]; exact HE.out k hlt 11 (by omega)
          have hi0 : (0 : Int) ≤ (k : Int) := by omega
          have hi1 : (k : Int) < (n : Int) := by omega
          have HW : Hid (wr = w) := hw
          clear hw
          go_wp2_with (first | (go_at_call 19; refine (zzTake _ _ (by assumption) _).mono ?_; rintro e W ⟨⟨z1, b1, hz1, hb1, rfl⟩, rfl⟩))
          all_goals first
            | (go_ret; exact ⟨sizeR_no _ _ _ _ _ _ _, HW.out.symm⟩)
            | (go_roundw
               case rel =>
                 refine ⟨k + 1, _, _, by omega, by go_num, rfl, rfl, by assumption, Hid.mk'' (fun i hi => ?_), HW.out⟩
                 by_cases e : i = k
                 · rw [e]
                   exact ⟨‹(!_) = false → (E k).key.size ≤ 1048576› (by assumption), ‹(!_) = false → (E k).body.size ≤ 1048576› (by assumption), ‹(!_) = false → (S k).l ≤ 1048576› (by assumption)⟩
                 · exact HS0.out i (by omega)
               case measure => simp [intOf]; omega)
        · obtain rfl : k = n := by omega
          have hw := hw.symm
          subst hw
          go_wp2
          go_loopw [7, 8, 10] (fun zn okv iv wr => ∃ (j z : Nat) (ok : Bool), j ≤ nr ∧ iv = .int .i64 j ∧ zn = .int .i64 z ∧ okv = .bool ok ∧ z ≤ 1048576 ∧ Hid (∀ i, i < j → (rE i).key.size ≤ 1048576 ∧ (rS i).l ≤ 1048576) ∧ wr = w) (fun _ _ iv _ => nr - (intOf iv).toNat)
          case atStart => exact ⟨0, z, ok, Nat.zero_le _, rfl, rfl, rfl, hzz, Hid.mk'' (fun i hi => by omega), rfl⟩
          case round =>
            obtain ⟨j, y, ok', hj, rfl, rfl, rfl, hyy, HS1, hw⟩ := hrel
            by_cases hlr : j < nr
            · obtain rfl := HRA.out (by omega)
              have c0 : wr.cell? ⟨rb, ro + j * 3, none⟩ = some (.string (rE j).key) := by rw [hw]; exact HR.out j hlr 0 (by omega)
              have c2 : wr.cell? ⟨rb, ro + j * 3 + 2, none⟩ = some (.slice (rS j).a (rS j).l (rS j).c) := by rw [hw]; exact HR.out j hlr 2 (by omega)
              have hi0 : (0 : Int) ≤ (j : Int) := by omega
              have hi1 : (j : Int) < (nr : Int) := by omega
              have HW : Hid (wr = w) := hw
              clear hw
              go_wp2_with (first | (go_at_call 19; refine (zzTake _ _ (by assumption) _).mono ?_; rintro e W ⟨⟨z1, b1, hz1, hb1, rfl⟩, rfl⟩))
              all_goals first
                | (go_ret; exact ⟨sizeR_no _ _ _ _ _ _ _, HW.out.symm⟩)
                | (go_roundw
                   case rel =>
                     refine ⟨j + 1, _, _, by omega, by go_num, rfl, rfl, by assumption, Hid.mk'' (fun i hi => ?_), HW.out⟩
                     by_cases e : i = j
                     · rw [e]
                       exact ⟨‹(!_) = false → (rE j).key.size ≤ 1048576› (by assumption), ‹(!_) = false → (rS j).l ≤ 1048576› (by assumption)⟩
                     · exact HS1.out i (by omega)
                   case measure => simp [intOf]; omega)
            · obtain rfl : j = nr := by omega
              have hw := hw.symm
              subst hw
              go_wp2
              go_ret
              exact ⟨⟨true, rfl, fun _ => ⟨hn1, hn2, hn3, HS0.out, HS1.out⟩⟩, rfl⟩
    · have hd4 : decide (144 * (n : Int) + 16 * (nh : Int) + 48 * (nr : Int) > 1048576) = true := by simp; omega
      go_wp2
      go_ret
      exact ⟨sizeR_no _ _ _ _ _ _ _, rfl⟩
  · by_cases h1 : n ≤ 4096
    · have hd1 : decide ((n : Int) > 4096) = false := by simp; omega
      by_cases h2 : nh ≤ 4096
      · have hd2 : decide ((nh : Int) > 4096) = false := by simp; omega
        have hd3 : decide ((nr : Int) > 4096) = true := by simp; omega
        clear hn
        go_wp2
        go_ret
        exact ⟨sizeR_no _ _ _ _ _ _ _, rfl⟩
      · have hd2 : decide ((nh : Int) > 4096) = true := by simp; omega
        clear hn
        go_wp2
        go_ret
        exact ⟨sizeR_no _ _ _ _ _ _ _, rfl⟩
    · have hd1 : decide ((n : Int) > 4096) = true := by simp; omega
      clear hn
      go_wp2
      go_ret
      exact ⟨sizeR_no _ _ _ _ _ _ _, rfl⟩

/-- Whether a later row names row i's delta. -/
def supB (D : Nat → Int) (n i : Nat) : Bool := (List.range n).any fun j => decide (i < j ∧ D j = D i)
theorem supB_true {D : Nat → Int} {n i j : Nat} (h1 : j < n) (h2 : i < j) (h3 : D j = D i) : supB D n i = true := by
  unfold supB; rw [List.any_eq_true]; exact ⟨j, List.mem_range.2 h1, by simp [h2, h3]⟩
theorem supB_false {D : Nat → Int} {n i : Nat} (h : ∀ j, j < n → i < j → D j ≠ D i) : supB D n i = false := by
  unfold supB
  rw [List.any_eq_false]
  intro j hj
  have := h j (List.mem_range.1 hj)
  simp only [decide_eq_true_eq, not_and]
  exact this
theorem supB_iff {D : Nat → Int} {n i : Nat} : supB D n i = true ↔ ∃ j, j < n ∧ i < j ∧ D j = D i := by
  unfold supB
  rw [List.any_eq_true]
  constructor
  · rintro ⟨j, h1, h2⟩
    exact ⟨j, List.mem_range.1 h1, by simpa using h2⟩
  · rintro ⟨j, h1, h2⟩
    exact ⟨j, List.mem_range.2 h1, by simpa using h2⟩
set_option maxHeartbeats 1000000 in
theorem zzSuperseded (ha : Option Addr) (hb ho n cap i : Nat) (D R : Nat → Int) (w : World) (hn : n ≤ 4096) (hi : i < n) (hha : 0 < n → ha = some ⟨hb, ho, none⟩) (hc : HoldsAt w hb ho n 2 fun i => rowCells (D i) (R i)) :
    Calls Try.prog 20 #[.slice ha n cap, .int .i64 i] w fun e w' => e = .returned (.bool (supB D n i)) ∧ Below w.heap.size w w' := by
  have HC : Hid (HoldsAt w hb ho n 2 fun i => rowCells (D i) (R i)) := hc
  obtain rfl := hha (by omega)
  clear hc hha
  have hj0 : (0 : Int) ≤ (i : Int) := by omega
  have hj1 : (i : Int) < (n : Int) := by omega
  go_enter Try.func20, Try.ntmps20
  go_wp2
  go_loopw [5] (fun iv wr => ∃ k : Nat, i < k ∧ k ≤ n ∧ iv = .int .i64 k ∧ Hid (∀ j, j < k → i < j → D j ≠ D i) ∧ Below w.heap.size w wr) (fun iv _ => n - (intOf iv).toNat)
  case atStart => exact ⟨i + 1, by omega, by omega, by go_num, Hid.mk'' (fun j h1 h2 => by omega), Below.refl _ _⟩
  case round =>
    obtain ⟨k, hik, hk, rfl, HN, hw⟩ := hrel
    by_cases hlt : k < n
    · have dk : wr.cell? ⟨hb, ho + k * 2, none⟩ = some (.int .i64 (D k)) := keep hw (HC.out k hlt 0 (by omega))
      have di : wr.cell? ⟨hb, ho + i * 2, none⟩ = some (.int .i64 (D i)) := keep hw (HC.out i hi 0 (by omega))
      have hi0 : (0 : Int) ≤ (k : Int) := by omega
      have hi1 : (k : Int) < (n : Int) := by omega
      by_cases hd : D k = D i
      · have hd' : (D k == D i) = true := by rw [beq_iff_eq]; exact hd
        have hs : supB D n i = true := supB_true hlt hik hd
        clear hd
        go_wp2
        go_region
        all_goals (try go_wp2)
        all_goals (go_ret; exact ⟨by rw [hs]; rfl, hw.drew⟩)
      · have hd' : (D k == D i) = false := by rw [beq_eq_false_iff_ne]; exact hd
        have HD : Hid (D k ≠ D i) := hd
        clear hd
        go_wp2
        go_region
        all_goals (try go_wp2)
        all_goals
          go_roundw
          case rel =>
            refine ⟨k + 1, by omega, by omega, by go_num, Hid.mk'' (fun j h1 h2 => ?_), hw.drew⟩
            by_cases e : j = k
            · rw [e]; exact HD.out
            · exact HN.out j (by omega) h2
          case measure => simp [intOf]; omega
    · obtain rfl : k = n := by omega
      have hs : supB D k i = false := supB_false HN.out
      go_wp2
      go_ret
      exact ⟨by rw [hs]; rfl, hw⟩

/-- What 'zzLiveRowsNonNegative' hands back. -/
def LiveR (D R : Nat → Int) (n : Nat) (e : Ending) : Prop := ∃ b, e = .returned (.bool b) ∧ (b = true → ∀ i, i < n → R i < 0 → supB D n i = true)
set_option maxHeartbeats 1000000 in
theorem zzLiveRows (ha : Option Addr) (hb ho n cap : Nat) (D R : Nat → Int) (w : World) (hn : n ≤ 4096) (hha : 0 < n → ha = some ⟨hb, ho, none⟩) (hc : HoldsAt w hb ho n 2 fun i => rowCells (D i) (R i)) :
    Calls Try.prog 8 #[.slice ha n cap] w fun e w' => LiveR D R n e ∧ Below w.heap.size w w' := by
  have HC : Hid (HoldsAt w hb ho n 2 fun i => rowCells (D i) (R i)) := hc
  have HH : Hid (0 < n → ha = some ⟨hb, ho, none⟩) := hha
  clear hc hha
  go_enter Try.func8, Try.ntmps8
  go_wp2
  go_loopw [3] (fun iv wr => ∃ k : Nat, k ≤ n ∧ iv = .int .i64 k ∧ Hid (∀ i, i < k → R i < 0 → supB D n i = true) ∧ Below w.heap.size w wr) (fun iv _ => n - (intOf iv).toNat)
  case atStart => exact ⟨0, by omega, rfl, Hid.mk'' (fun j h1 h2 => by omega), Below.refl _ _⟩
  case round =>
    obtain ⟨k, hk, rfl, HN, hw⟩ := hrel
    by_cases hlt : k < n
    · obtain rfl := HH.out (by omega)
      have dk : wr.cell? ⟨hb, ho + k * 2 + 1, none⟩ = some (.int .i64 (R k)) := keep hw (HC.out k hlt 1 (by omega))
      have hi0 : (0 : Int) ≤ (k : Int) := by omega
      have hi1 : (k : Int) < (n : Int) := by omega
      by_cases hd : R k < 0
      · have hd' : decide (R k < 0) = true := by simpa using hd
        have HNX : Hid (supB D n k = true → ∀ i, i < k + 1 → R i < 0 → supB D n i = true) := Hid.mk'' (fun h i hi hr => by
          by_cases e : i = k
          · rw [e]; exact h
          · exact HN.out i (by omega) hr)
        generalize hq : supB D n k = q at HNX
        have HQ : Hid (supB D n k = q) := hq
        clear hq hd
        go_wp2_with (first | (go_at_call 20; refine (zzSuperseded _ hb ho n cap k D R _ hn hlt (fun _ => rfl) (by exact HC.out.keep (fun _ _ => rfl) hw)).mono ?_; rintro e W ⟨rfl, hbW⟩; rw [HQ.out]; clear HQ; cases q))
        all_goals (try go_wp2)
        all_goals first
          | (go_ret; exact ⟨⟨false, rfl, fun h => by cases h⟩, hw.trans (hbW.mono hw.size)⟩)
          | (go_roundw
             case rel => exact ⟨k + 1, by omega, by go_num, Hid.mk'' (HNX.out trivial), hw.trans (hbW.mono hw.size)⟩
             case measure => simp [intOf]; omega)
      · have hd' : decide (R k < 0) = false := by simpa using hd
        have HNX : Hid (∀ i, i < k + 1 → R i < 0 → supB D n i = true) := Hid.mk'' (fun i hi hr => by
          by_cases e : i = k
          · rw [e] at hr; omega
          · exact HN.out i (by omega) hr)
        clear hd
        go_wp2
        go_roundw
        case rel => exact ⟨k + 1, by omega, by go_num, HNX, hw⟩
        case measure => simp [intOf]; omega
    · obtain rfl : k = n := by omega
      go_wp2
      go_ret
      exact ⟨⟨true, rfl, fun _ => HN.out⟩, hw⟩
end Go.Proofs.Qxb6603057a
