/-
  'audit.ZZCheck' (function 12): the ledger that it builds, then 'check'.
-/
import Derived.Test.Qxb6603057aCheck
namespace Go.Proofs.Qxb6603057a
open Go.RowKit Go.Maps

/-- What 'check' hands back: the Report, said of the history fh, the deltas D of the n entries, the mismatches M. -/
def Rpt (fh : Int → Option Int) (D : Nat → Int) (n : Nat) (M : Nat → Bool) (nrec : Bool) (b0 b1 b2 : Int) (e : Ending) : Prop :=
  ∃ KH KS : List Int, KH.Nodup ∧ (∀ x, x ∈ KH ↔ (fh x).isSome = true) ∧ KS.Nodup ∧ (∀ x, x ∈ KS ↔ cnt D n x ≠ 0) ∧
    e = .returned (.agg (rArr n (wrap64 (sumA (fun x => (fh x).getD 0) KH)) (wrap64 (sumA (fun x => if (cnt D n x : Int) < (fh x).getD 0 then min (cnt D n x : Int) ((fh x).getD 0 - cnt D n x) else 0) KS)) (wrap64 (sumA (fun x => if (cnt D n x : Int) < (fh x).getD 0 then 0 else (cnt D n x : Int) - (fh x).getD 0) KS))
      (wrap64 (sumA (fun x => if cnt D n x = 0 then (fh x).getD 0 else 0) KH)) (mcnt M n : Nat) nrec b0 b1 b2 (wrap64 (sumA (fun x => x * (fh x).getD 0) KH))))
theorem Hid.mk' {p : Prop} (h : p) : Hid p := h
theorem Rpt.shape {fh : Int → Option Int} {D : Nat → Int} {n : Nat} {M : Nat → Bool} {nrec : Bool} {b0 b1 b2 : Int} {e : Ending} (h : Rpt fh D n M nrec b0 b1 b2 e) : ∃ vH vD vL vO vS : Int, e = .returned (.agg (rArr n vH vD vL vO (mcnt M n : Nat) nrec b0 b1 b2 vS)) := by
  obtain ⟨_, _, _, _, _, _, he⟩ := h
  exact ⟨_, _, _, _, _, he⟩
theorem frozen11 {w : World} {g : Nat} {C : Array Value} (hg : w.heap[g]? = some (.cells C 34 (0, 0))) :
    w.frozen? ⟨g, 0, none⟩ = false ∧ w.frozen? ⟨g, 1, none⟩ = false ∧ w.frozen? ⟨g, 2, none⟩ = false ∧ w.frozen? ⟨g, 3, none⟩ = false ∧ w.frozen? ⟨g, 4, none⟩ = false ∧ w.frozen? ⟨g, 5, none⟩ = false ∧ w.frozen? ⟨g, 6, none⟩ = false ∧ w.frozen? ⟨g, 7, none⟩ = false ∧ w.frozen? ⟨g, 8, none⟩ = false ∧ w.frozen? ⟨g, 9, none⟩ = false ∧ w.frozen? ⟨g, 10, none⟩ = false :=
  ⟨frozenB hg 0, frozenB hg 1, frozenB hg 2, frozenB hg 3, frozenB hg 4, frozenB hg 5, frozenB hg 6, frozenB hg 7, frozenB hg 8, frozenB hg 9, frozenB hg 10⟩
theorem z_below (w : World) (o0 o1 o2 : Obj) : Below w.heap.size w (((w.alloc o0).alloc o1).alloc o2) :=
  (((Below.refl _ _).alloc (Nat.le_refl _) _).alloc (by simp) _).alloc (by simp; omega) _
/-- The ledger's five cells. -/
def Led (X : World) (lb : Nat) (ho ro : Option Nat) (b0 b1 b2 : Int) : Prop := X.heap[lb]? = some (.cells #[.map ho, .map ro, .int .i64 b0, .int .i64 b1, .int .i64 b2] 57 (0, 0))
theorem z_led (w : World) (o0 o1 : Obj) (ho ro : Option Nat) (b0 b1 b2 : Int) : Led (((w.alloc o0).alloc o1).alloc (.cells #[.map ho, .map ro, .int .i64 b0, .int .i64 b1, .int .i64 b2] 57)) (w.heap.size + 1 + 1) ho ro b0 b1 b2 := by
  have e : ((w.alloc o0).alloc o1).heap.size = w.heap.size + 1 + 1 := by simp
  rw [← e]
  exact newO _ _
theorem z_res {w : World} {o0 o2 : Obj} {C : Array Value} {W : World} (hb : Below (((w.alloc o0).alloc (.cells C 34)).alloc o2).heap.size (((w.alloc o0).alloc (.cells C 34)).alloc o2) W) (hs : C.size = 11 := by rfl) : W.heap[w.heap.size + 1]? = some (.cells C 34 (0, 0)) ∧ C.size = 11 := by
  have e : (w.alloc o0).heap.size = w.heap.size + 1 := by simp
  refine ⟨blk hb (allocB ?_ _), hs⟩
  rw [← e]
  exact newO _ _
theorem callCheck (ea : Option Addr) (eb eo n cap lb : Nat) (ho ro : Option Nat) (nrec : Bool) (hnr : ro.isNone = nrec) (b0 b1 b2 : Int) (X : World) (hn : n ≤ 4096) (nh : Nat) (Dh : DataW Unit) (fh : Int → Option Int)
    (E : Nat → Ent) (S : Nat → Sl) (Bo : Nat → Option (List UInt8)) (nr : Nat) (rE : Nat → Rp) (rS : Nat → Sl) (rB : Nat → Option (List UInt8)) (M : Nat → Bool) (w : World)
    (hea : 0 < n → ea = some ⟨eb, eo, none⟩) (hE : HoldsAt w eb eo n 12 fun i => entCells (E i) (S i)) (hBy : ∀ i, i < n → BytesAt w (S i) (Bo i))
    (hok : ∀ i, i < n → (Lit.int .i64 (E i).delta).wf = true ∧ (E i).key.size ≤ maxLen) (hrB : ∀ i, i < nr → BytesAt w (rS i) (rB i)) (hh : MapO ho nh Dh w) (hIh : IntMap Dh fh) (hrho : ∀ x, -9223372036854775808 ≤ (fh x).getD 0 ∧ (fh x).getD 0 ≤ 9223372036854775807)
    (hM : ∀ i, M i = (!nrec && mis rE rB nr (E i) (Bo i))) (hl : Led X lb ho ro b0 b1 b2) (hb : Below w.heap.size w X) (hrec : ∀ rb, ro = some rb → ∃ Dr, X.ownsMap Try.prog 9 asHeld rb nr Dr ∧ RepMap rE rS Dr (lastIx (rkeys rE) nr)) :
    Calls Try.prog 22 #[.slice ea n cap, .pointer (some ⟨lb, 0, none⟩)] X fun e w' => Rpt fh (fun i => (E i).delta) n M nrec b0 b1 b2 e ∧ Below X.heap.size X w' := by
  refine (check ea eb eo n cap lb ho ro nrec hnr b0 b1 b2 X (cellB hl 0) (cellB hl 1) (cellB hl 2) (cellB hl 3) (cellB hl 4) hn nh Dh fh (hh.keep hb) hIh hrho hea E S Bo (hE.keep (fun _ _ => rfl) hb) (fun i hi => (hBy i hi).keep hb) hok nr rE rS rB hrec (fun i hi => (hrB i hi).keep hb) M hM).mono ?_
  rintro e W ⟨KH, KS, h1, h2, h3, h4, h5, h6⟩
  exact ⟨⟨KH, KS, h1, h2, h3, h4, h5⟩, h6⟩
theorem res12 (W : World) (a : Array Value) (g : Nat) (v : Value) (ha : a.getD 10 undef = .pointer (some ⟨g, 0, none⟩)) (h : (loadVar 34 ⟨g, 0, none⟩).run Try.prog W = .ok v W) : (results Try.f12 a).run Try.prog W = .ok v W := by
  have e : a[10]?.getD undef = .pointer (some ⟨g, 0, none⟩) := by rw [← ha]; simp
  simp [results, Try.results12, e]
  exact h
/-- In the loop that lays the replies into the map. -/
def Z1 (w : World) (ho : Option Nat) (b0 b1 b2 : Int) (rE : Nat → Rp) (rS : Nat → Sl) (k : Nat) (X : World) : Prop :=
  ∃ (C0 : Array Value) (Dr : DataW Value), X.heap[w.heap.size + 1]? = some (.cells C0 34 (0, 0)) ∧ C0.size = 11 ∧ Led X (w.heap.size + 1 + 1) ho (some (w.heap.size + 1 + 1 + 1)) b0 b1 b2 ∧ X.ownsMap Try.prog 9 asHeld (w.heap.size + 1 + 1 + 1) k Dr ∧ RepMap rE rS Dr (lastIx (rkeys rE) k) ∧ Below w.heap.size w X
theorem z_start (w : World) (o0 : Obj) (C : Array Value) (hs : C.size = 11) (ho : Option Nat) (b0 b1 b2 : Int) (rE : Nat → Rp) (rS : Nat → Sl) :
    Z1 w ho b0 b1 b2 rE rS 0 ((((w.alloc o0).alloc (.cells C 34)).alloc (.cells #[.map ho, .map (some (w.heap.size + 1 + 1 + 1)), .int .i64 b0, .int .i64 b1, .int .i64 b2] 57)).alloc (.map #[] 0)) := by
  have e1 : (w.alloc o0).heap.size = w.heap.size + 1 := by simp
  have e3 : (((w.alloc o0).alloc (.cells C 34)).alloc (.cells #[.map ho, .map (some (w.heap.size + 1 + 1 + 1)), .int .i64 b0, .int .i64 b1, .int .i64 b2] 57)).heap.size = w.heap.size + 1 + 1 + 1 := by simp
  refine ⟨C, .map [], allocB (allocB ?_ _) _, hs, allocB (z_led w _ _ _ _ _ _ _) _, ?_, repMap_empty _ _, (z_below w _ _ _).alloc (by rw [e3]; omega) _⟩
  · rw [← e1]; exact newO _ _
  · have := World.ownsMap_made (((w.alloc o0).alloc (.cells C 34)).alloc (.cells #[.map ho, .map (some (w.heap.size + 1 + 1 + 1)), .int .i64 b0, .int .i64 b1, .int .i64 b2] 57)) Try.prog 9 asHeld
    rw [e3] at this
    exact this
theorem run_makeMap55 (n : Int) (w : World) : (Instr.makeMap 55 (some (.int .i64 n))).run Try.prog w = .ok (.map (some w.heap.size)) (w.alloc (.map #[] 0)) := by kernel_rfl

set_option maxHeartbeats 4000000 in
set_option maxRecDepth 100000 in
theorem zzCheck (ea : Option Addr) (eb eo n cap : Nat) (ho : Option Nat) (rc : Bool) (ra : Option Addr) (rb ro nr rcap : Nat) (b0 b1 b2 : Int) (w : World) (hn : n ≤ 4096) (hnr : nr ≤ 4096)
    (nh : Nat) (Dh : DataW Unit) (fh : Int → Option Int) (hh : MapO ho nh Dh w) (hIh : IntMap Dh fh) (hrho : ∀ x, -9223372036854775808 ≤ (fh x).getD 0 ∧ (fh x).getD 0 ≤ 9223372036854775807)
    (hea : 0 < n → ea = some ⟨eb, eo, none⟩) (E : Nat → Ent) (S : Nat → Sl) (Bo : Nat → Option (List UInt8)) (hE : HoldsAt w eb eo n 12 fun i => entCells (E i) (S i)) (hBy : ∀ i, i < n → BytesAt w (S i) (Bo i))
    (hok : ∀ i, i < n → (Lit.int .i64 (E i).delta).wf = true ∧ (E i).key.size ≤ maxLen)
    (hra : 0 < nr → ra = some ⟨rb, ro, none⟩) (rE : Nat → Rp) (rS : Nat → Sl) (rB : Nat → Option (List UInt8)) (hR : HoldsAt w rb ro nr 3 fun i => repCells (rE i) (rS i)) (hrB : ∀ i, i < nr → BytesAt w (rS i) (rB i))
    (hrok : ∀ i, i < nr → (rE i).key.size ≤ maxLen)
    (M : Nat → Bool) (hM : ∀ i, M i = (rc && mis rE rB nr (E i) (Bo i))) :
    Calls Try.prog 12 #[.slice ea n cap, .map ho, .bool rc, .slice ra nr rcap, .agg #[.int .i64 b0, .int .i64 b1, .int .i64 b2]] w fun e w' => Rpt fh (fun i => (E i).delta) n M (!rc) b0 b1 b2 e ∧ Below w.heap.size w w' := by
  have hmm := run_makeMap55
  have HEA : Hid (0 < n → ea = some ⟨eb, eo, none⟩) := hea
  have HE : Hid (HoldsAt w eb eo n 12 fun i => entCells (E i) (S i)) := hE
  have HBY : Hid (∀ i, i < n → BytesAt w (S i) (Bo i)) := hBy
  have HOK : Hid (∀ i, i < n → (Lit.int .i64 (E i).delta).wf = true ∧ (E i).key.size ≤ maxLen) := hok
  have HRA : Hid (0 < nr → ra = some ⟨rb, ro, none⟩) := hra
  have HR : Hid (HoldsAt w rb ro nr 3 fun i => repCells (rE i) (rS i)) := hR
  have HRB : Hid (∀ i, i < nr → BytesAt w (rS i) (rB i)) := hrB
  have HROK : Hid (∀ i, i < nr → (rE i).key.size ≤ maxLen) := hrok
  have HM : Hid (∀ i, M i = (rc && mis rE rB nr (E i) (Bo i))) := hM
  have HMO : Hid (MapO ho nh Dh w) := hh
  have HIH : Hid (IntMap Dh fh) := hIh
  have HRHO : Hid (∀ x, -9223372036854775808 ≤ (fh x).getD 0 ∧ (fh x).getD 0 ≤ 9223372036854775807) := hrho
  clear hh hIh hrho hea hE hBy hok hra hR hrB hrok hM
  cases rc
  · go_enter Try.func12, Try.ntmps12
    go_wp2_with (first | (go_at_call 22; refine (callCheck ea eb eo n cap (w.heap.size + 1 + 1) ho none true rfl b0 b1 b2 _ hn nh Dh fh E S Bo nr rE rS rB M w HEA.out HE.out HBY.out HOK.out HRB.out HMO.out HIH.out HRHO.out (fun i => HM.out i) (by exact z_led w _ _ ho none b0 b1 b2) (by exact z_below w _ _ _) (fun _ h => by cases h)).mono ?_; rintro e W3 ⟨hRp, hb3⟩; obtain ⟨vH, vD, vL, vO, vS, rfl⟩ := hRp.shape; have HRP := Hid.mk' hRp; clear hRp; obtain ⟨g1, g2⟩ := z_res hb3; obtain ⟨d0, d1, d2, d3, d4, d5, d6, d7, d8, d9, d10⟩ := cells11 g1 g2; obtain ⟨q0, q1, q2, q3, q4, q5, q6, q7, q8, q9, q10⟩ := frozen11 g1; have HC1 := Hid.mk' g1; have HC2 := Hid.mk' g2; have HB3 := Hid.mk' ((z_below w _ _ _).trans (hb3.mono (by simp; omega))); clear g1 g2 hb3; unfold rArr))
    have hfin := put11 HC1.out HC2.out n vH vD vL vO (mcnt M n : Nat) true b0 b1 b2 vS
    have hld := run_loadVar_row (P := Try.prog) _ (w.heap.size + 1) 34 34 _ (0, 0) _ hfin Try.underlying34 rfl (by kernel_rfl)
    have hbl := below11 (g := w.heap.size + 1) HB3.out (Nat.le_succ _) (.int .i64 n) (.int .i64 vH) (.int .i64 vD) (.int .i64 vL) (.int .i64 vO) (.int .i64 (mcnt M n : Nat)) (.bool true) (.int .i64 b0) (.int .i64 b1) (.int .i64 b2) (.int .i64 vS)
    exact bodyPost_ret (v := .agg (rArr n vH vD vL vO (mcnt M n : Nat) true b0 b1 b2 vS)) (res12 _ _ (w.heap.size + 1) _ rfl hld) rfl ⟨HRP.out, hbl⟩
  · go_enter Try.func12, Try.ntmps12
    go_wp2
    go_loopw [12] (fun iv wr => ∃ k : Nat, k ≤ nr ∧ iv = .int .i64 k ∧ Z1 w ho b0 b1 b2 rE rS k wr) (fun iv _ => nr - (intOf iv).toNat)
    case atStart => exact ⟨0, Nat.zero_le _, rfl, z_start w _ _ rfl _ _ _ _ _ _⟩
    case round =>
      obtain ⟨k, hk, rfl, hZ⟩ := hrel
      by_cases hlt : k < nr
      · obtain rfl := HRA.out (by omega)
        obtain ⟨C0, Dr, hC0, hCs, hL, hown, hRM, hbw⟩ := hZ
        have c0 : wr.cell? ⟨rb, ro + k * 3, none⟩ = some (.string (rE k).key) := keep hbw (HR.out k hlt 0 (by omega))
        have c1 : wr.cell? ⟨rb, ro + k * 3 + 1, none⟩ = some (.int .i64 (rE k).status) := keep hbw (HR.out k hlt 1 (by omega))
        have c2 : wr.cell? ⟨rb, ro + k * 3 + 2, none⟩ = some (.slice (rS k).a (rS k).l (rS k).c) := keep hbw (HR.out k hlt 2 (by omega))
        have l1 : wr.cell? ⟨w.heap.size + 1 + 1, 1, none⟩ = some (.map (some (w.heap.size + 1 + 1 + 1))) := cellB hL 1
        have hi0 : (0 : Int) ≤ (k : Int) := by omega
        have hi1 : (k : Int) < (nr : Int) := by omega
        obtain ⟨w1, hrun, hown1, hgr⟩ := World.ownsMap.update (w := wr.drew) (t := 55) (e := 60) hown.drew keyed9 Try.underlying55 (by unfold maxLen; omega) (key := .string (rE k).key) (val := repVal rE rS k) (Go.WideMaps.keyOf_string_mk Try.underlying9 (HROK.out k hlt)) (show asHeld (repVal rE rS k) = some (.held (repVal rE rS k), []) from rfl)
        unfold repVal at hrun
        have HZ : Hid (Z1 w ho b0 b1 b2 rE rS (k + 1) w1) := Hid.mk' ⟨C0, _, grown_blk hgr hC0 (by omega), hCs, grown_blk hgr hL (by omega), hown1, hRM.put, hbw.drew.grown hgr hbw.size (fun j hj => by cases hj; omega)⟩
        clear hC0 hL hown hRM hown1 hgr
        go_wp2
        go_region
        all_goals (try go_wp2)
        all_goals
          go_roundw
          case rel => exact ⟨k + 1, by omega, by go_num, HZ.out⟩
          case measure => simp [intOf]; omega
      · obtain rfl : k = nr := by omega
        obtain ⟨C0, Dr, hC0, hCs, hL, hown, hRM, hbw⟩ := hZ
        have HC0 := Hid.mk' hC0
        have HL := Hid.mk' hL
        have HOW := Hid.mk' hown
        have HRM := Hid.mk' hRM
        clear hC0 hL hown hRM
        go_wp2_with (first | (go_at_call 22; refine (callCheck ea eb eo n cap (w.heap.size + 1 + 1) ho (some (w.heap.size + 1 + 1 + 1)) false rfl b0 b1 b2 _ hn nh Dh fh E S Bo k rE rS rB M w HEA.out HE.out HBY.out HOK.out HRB.out HMO.out HIH.out HRHO.out (fun i => HM.out i) (by exact HL.out) (by exact hbw) (fun rb h => by cases h; exact ⟨Dr, HOW.out, HRM.out⟩)).mono ?_; rintro e W3 ⟨hRp, hb3⟩; obtain ⟨vH, vD, vL, vO, vS, rfl⟩ := hRp.shape; have HRP := Hid.mk' hRp; clear hRp; have g1 := blk hb3 HC0.out; obtain ⟨d0, d1, d2, d3, d4, d5, d6, d7, d8, d9, d10⟩ := cells11 g1 hCs; obtain ⟨q0, q1, q2, q3, q4, q5, q6, q7, q8, q9, q10⟩ := frozen11 g1; have HC1 := Hid.mk' g1; have HB3 := Hid.mk' (hbw.trans (hb3.mono hbw.size)); clear g1 hb3; unfold rArr))
        have hfin := put11 HC1.out hCs n vH vD vL vO (mcnt M n : Nat) false b0 b1 b2 vS
        have hld := run_loadVar_row (P := Try.prog) _ (w.heap.size + 1) 34 34 _ (0, 0) _ hfin Try.underlying34 rfl (by kernel_rfl)
        have hbl := below11 (g := w.heap.size + 1) HB3.out (Nat.le_succ _) (.int .i64 n) (.int .i64 vH) (.int .i64 vD) (.int .i64 vL) (.int .i64 vO) (.int .i64 (mcnt M n : Nat)) (.bool false) (.int .i64 b0) (.int .i64 b1) (.int .i64 b2) (.int .i64 vS)
        exact bodyPost_ret (v := .agg (rArr n vH vD vL vO (mcnt M n : Nat) false b0 b1 b2 vS)) (res12 _ _ (w.heap.size + 1) _ rfl hld) rfl ⟨HRP.out, hbl⟩
end Go.Proofs.Qxb6603057a
