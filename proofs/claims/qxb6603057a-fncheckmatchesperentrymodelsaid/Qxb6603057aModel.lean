/-
  'zzModel' (function 16): the Report, entry by entry.
-/
import Derived.Test.Qxb6603057aFixed
import Derived.Test.Qxb6603057aPlain8
import Derived.Deep.CutRange
namespace Go.Proofs.Qxb6603057a
open Go.RowKit Go.Maps

/-- In the model's loops: the result's block, m's block (it holds C). -/
def MM (w : World) (C : Array Value) (X : World) : Prop :=
  ∃ C0 : Array Value, X.heap[w.heap.size + 1]? = some (.cells C0 34 (0, 0)) ∧ C0.size = 11 ∧ X.heap[w.heap.size + 1 + 1]? = some (.cells C 34 (0, 0)) ∧ Below w.heap.size w X
section
variable {w : World} {C : Array Value} {X : World}
theorem MM.keep {Y : World} (h : MM w C X) (hb : Below X.heap.size X Y) : MM w C Y := by
  obtain ⟨C0, h1, h2, h3, h4⟩ := h
  exact ⟨C0, blk hb h1, h2, blk hb h3, h4.trans (hb.mono h4.size)⟩
theorem MM.drew (h : MM w C X) : MM w C X.drew := h.keep (Below.refl _ _).drew
theorem MM.drewN (h : MM w C X) (n : Nat) : MM w C (X.drewN n) := h.keep (below_drewN (Below.refl _ _) n)
theorem MM.new (h : MM w C X) (o : Obj) : MM w C (X.alloc o) := h.keep (below_new X o)
theorem MM.below (h : MM w C X) : Below w.heap.size w X := by
  obtain ⟨C0, h1, h2, h3, h4⟩ := h
  exact h4
theorem MM.row (h : MM w C X) : X.heap[w.heap.size + 1 + 1]? = some (.cells C 34 (0, 0)) := by
  obtain ⟨C0, h1, h2, h3, h4⟩ := h
  exact h3
theorem MM.set {C' : Array Value} (h : MM w C X) (o : Nat) (v : Value) (he : C.setIfInBounds o v = C') : MM w C' (X.setCell ⟨w.heap.size + 1 + 1, o, none⟩ v) := by
  obtain ⟨C0, h1, h2, h3, h4⟩ := h
  exact ⟨C0, put1_other h1 (by omega) _ _, h2, by rw [← he]; exact put1 h3 _ _, h4.setCell (p := ⟨w.heap.size + 1 + 1, o, none⟩) (by simp; omega) _⟩
end
theorem mm_start (w : World) (o0 : Obj) (C0 C : Array Value) (hs : C0.size = 11) : MM w C (((w.alloc o0).alloc (.cells C0 34)).alloc (.cells C 34)) := by
  have e1 : (w.alloc o0).heap.size = w.heap.size + 1 := by simp
  have e2 : ((w.alloc o0).alloc (.cells C0 34)).heap.size = w.heap.size + 1 + 1 := by simp
  refine ⟨C0, allocB ?_ _, hs, ?_, z_below w _ _ _⟩
  · rw [← e1]; exact newO _ _
  · rw [← e2]; exact newO _ _
theorem res16 (W : World) (a : Array Value) (g : Nat) (v : Value) (ha : a.getD 10 undef = .pointer (some ⟨g, 0, none⟩)) (h : (loadVar 34 ⟨g, 0, none⟩).run Try.prog W = .ok v W) : (results Try.f16 a).run Try.prog W = .ok v W := by
  have e : a[10]?.getD undef = .pointer (some ⟨g, 0, none⟩) := by rw [← ha]; simp
  simp [results, Try.results16, e]
  exact h
/-- Behind the first statement of a round: m's row, and the round's own copy of the entry. -/
def ME (w : World) (C : Array Value) (g : Nat) (e : Ent) (s : Sl) (X : World) : Prop := MM w C X ∧ X.heap[g]? = some (.cells (entCells e s).toArray 45 (0, 0)) ∧ w.heap.size + 1 + 1 < g
theorem ME.keep {w : World} {C : Array Value} {g : Nat} {e : Ent} {s : Sl} {X Y : World} (h : ME w C g e s X) (hb : Below X.heap.size X Y) : ME w C g e s Y := ⟨h.1.keep hb, blk hb h.2.1, h.2.2⟩
theorem ME.set {w : World} {C C' : Array Value} {g : Nat} {e : Ent} {s : Sl} {X : World} (h : ME w C g e s X) (o : Nat) (v : Value) (he : C.setIfInBounds o v = C') : ME w C' g e s (X.setCell ⟨w.heap.size + 1 + 1, o, none⟩ v) :=
  ⟨h.1.set o v he, put1_other h.2.1 (by have := h.2.2; omega) _ _, h.2.2⟩
/-- m's row at the head of round k of the first loop. -/
def m1Arr (D Dh R : Nat → Int) (n nh : Nat) (M : Nat → Bool) (nrec : Bool) (b0 b1 b2 : Int) (k km : Nat) : Array Value := rArr n 0 (mcnt (dupB D Dh R n nh) k : Nat) (mcnt (lostB D Dh R nh) k : Nat) 0 (mcnt M km : Nat) nrec b0 b1 b2 0
theorem m1_hit {D Dh R : Nat → Int} {n nh : Nat} {M : Nat → Bool} {nrec : Bool} {b0 b1 b2 : Int} {k : Nat} (h : M k = false) : m1Arr D Dh R n nh M nrec b0 b1 b2 k k = m1Arr D Dh R n nh M nrec b0 b1 b2 k (k + 1) := by
  have e : mcnt M (k + 1) = mcnt M k := by rw [mcnt, h]; rfl
  unfold m1Arr; rw [e]
theorem m1_mis {D Dh R : Nat → Int} {n nh : Nat} {M : Nat → Bool} {nrec : Bool} {b0 b1 b2 : Int} {k : Nat} (h : M k = true) : (m1Arr D Dh R n nh M nrec b0 b1 b2 k k).setIfInBounds 5 (.int .i64 ((mcnt M k : Nat) + 1)) = m1Arr D Dh R n nh M nrec b0 b1 b2 k (k + 1) := by
  have e : mcnt M (k + 1) = mcnt M k + 1 := by rw [mcnt, h]; rfl
  unfold m1Arr; rw [e]; simp [rArr]
theorem ME.hit {D Dh R : Nat → Int} {n nh : Nat} {M : Nat → Bool} {nrec : Bool} {b0 b1 b2 : Int} {k : Nat} {w : World} {g : Nat} {e : Ent} {s : Sl} {X : World} (h : ME w (m1Arr D Dh R n nh M nrec b0 b1 b2 k k) g e s X) (hM : M k = false) : ME w (m1Arr D Dh R n nh M nrec b0 b1 b2 k (k + 1)) g e s X := by
  rw [← m1_hit hM]; exact h
theorem ME.mis {D Dh R : Nat → Int} {n nh : Nat} {M : Nat → Bool} {nrec : Bool} {b0 b1 b2 : Int} {k : Nat} {w : World} {g : Nat} {e : Ent} {s : Sl} {X : World} (h : ME w (m1Arr D Dh R n nh M nrec b0 b1 b2 k k) g e s X) (hM : M k = true) : ME w (m1Arr D Dh R n nh M nrec b0 b1 b2 k (k + 1)) g e s (X.setCell ⟨w.heap.size + 1 + 1, 5, none⟩ (.int .i64 ((mcnt M k : Nat) + 1))) :=
  h.set 5 _ (m1_mis hM)
set_option maxHeartbeats 8000000 in
set_option maxRecDepth 100000 in
theorem zzModel (ea : Option Addr) (eb eo n cap : Nat) (ha : Option Addr) (hb ho nh hcap : Nat) (rc : Bool) (ra : Option Addr) (rb ro nr rcap : Nat) (b0 b1 b2 : Int) (w : World) (hn : n ≤ 4096) (hnh : nh ≤ 4096) (hnr : nr ≤ 4096)
    (hea : 0 < n → ea = some ⟨eb, eo, none⟩) (E : Nat → Ent) (S : Nat → Sl) (Bo : Nat → Option (List UInt8)) (hE : HoldsAt w eb eo n 12 fun i => entCells (E i) (S i)) (hBy : ∀ i, i < n → BytesAt w (S i) (Bo i))
    (hha : 0 < nh → ha = some ⟨hb, ho, none⟩) (D R : Nat → Int) (hH : HoldsAt w hb ho nh 2 fun i => rowCells (D i) (R i))
    (hra : 0 < nr → ra = some ⟨rb, ro, none⟩) (rE : Nat → Rp) (rS : Nat → Sl) (rB : Nat → Option (List UInt8)) (hR : HoldsAt w rb ro nr 3 fun i => repCells (rE i) (rS i)) (hrB : ∀ i, i < nr → BytesAt w (rS i) (rB i)) (hrl : ∀ i, i < nr → (rS i).l ≤ 1048576)
    (M : Nat → Bool) (hM : ∀ i, M i = (rc && mis rE rB nr (E i) (Bo i))) :
    Calls Try.prog 16 #[.slice ea n cap, .slice ha nh hcap, .bool rc, .slice ra nr rcap, .agg #[.int .i64 b0, .int .i64 b1, .int .i64 b2]] w fun e w' => e = .returned (.agg (mArr (fun i => (E i).delta) D R n nh M (!rc) b0 b1 b2)) ∧ Below w.heap.size w w' := by
  have HEA := Hid.mk' hea
  have HE := Hid.mk' hE
  have HBY := Hid.mk' hBy
  have HHA := Hid.mk' hha
  have HH := Hid.mk' hH
  have HRA := Hid.mk' hra
  have HR := Hid.mk' hR
  have HRB := Hid.mk' hrB
  have HRL := Hid.mk' hrl
  have HM := Hid.mk' hM
  clear hea hE hBy hha hH hra hR hrB hrl hM
  go_enter Try.func16, Try.ntmps16
  go_wp2
  go_loopg [12] n (fun g iv wr => ∃ k : Nat, k ≤ n ∧ g = n - k ∧ iv = .int .i64 k ∧ MM w (m1Arr (fun i => (E i).delta) D R n nh M (!rc) b0 b1 b2 k k) wr)
  case atStart => exact ⟨0, Nat.zero_le _, rfl, rfl, mm_start w _ _ _ rfl⟩
  case round =>
    obtain ⟨wo, hwo⟩ : ∃ wo, wo = wr := ⟨_, rfl⟩
    subst hwo
    obtain ⟨k, hk, hgk, rfl, hMM⟩ := hrel
    by_cases hlt : k < n
    · obtain rfl := HEA.out (by omega)
      have hbw := hMM.below
      have hsz := hbw.size
      have hB2 : w.heap.size + 1 + 1 < wo.heap.size := (Array.getElem?_eq_some_iff.1 hMM.row).1
      have d0 : wo.cell? ⟨eb, eo + k * 12, none⟩ = some (.string (E k).key) := keep hbw (HE.out k hlt 0 (by omega))
      have d1 : wo.cell? ⟨eb, eo + k * 12 + 1, none⟩ = some (.string (E k).req) := keep hbw (HE.out k hlt 1 (by omega))
      have d2 : wo.cell? ⟨eb, eo + k * 12 + 2, none⟩ = some (.int .i64 (E k).aid) := keep hbw (HE.out k hlt 2 (by omega))
      have d3 : wo.cell? ⟨eb, eo + k * 12 + 3, none⟩ = some (.int .i64 (E k).tid) := keep hbw (HE.out k hlt 3 (by omega))
      have d4 : wo.cell? ⟨eb, eo + k * 12 + 4, none⟩ = some (.int .i64 (E k).bid) := keep hbw (HE.out k hlt 4 (by omega))
      have d5 : wo.cell? ⟨eb, eo + k * 12 + 5, none⟩ = some (.int .i64 (E k).delta) := keep hbw (HE.out k hlt 5 (by omega))
      have d6 : wo.cell? ⟨eb, eo + k * 12 + 6, none⟩ = some (.int .i64 (E k).status) := keep hbw (HE.out k hlt 6 (by omega))
      have d7 : wo.cell? ⟨eb, eo + k * 12 + 7, none⟩ = some (.string (E k).body) := keep hbw (HE.out k hlt 7 (by omega))
      have d8 : wo.cell? ⟨eb, eo + k * 12 + 8, none⟩ = some (.slice (S k).a (S k).l (S k).c) := keep hbw (HE.out k hlt 8 (by omega))
      have d9 : wo.cell? ⟨eb, eo + k * 12 + 9, none⟩ = some (.bool (E k).replayed) := keep hbw (HE.out k hlt 9 (by omega))
      have d10 : wo.cell? ⟨eb, eo + k * 12 + 10, none⟩ = some (.int .i64 (E k).tries) := keep hbw (HE.out k hlt 10 (by omega))
      have d11 : wo.cell? ⟨eb, eo + k * 12 + 11, none⟩ = some (.string (E k).url) := keep hbw (HE.out k hlt 11 (by omega))
      have hi0 : (0 : Int) ≤ (k : Int) := by omega
      have hi1 : (k : Int) < (n : Int) := by omega
      have hml := mcnt_le M k
      have HME : Hid (ME w (m1Arr (fun i => (E i).delta) D R n nh M (!rc) b0 b1 b2 k k) wo.heap.size (E k) (S k) (wo.alloc (.cells (entCells (E k) (S k)).toArray 45))) := Hid.mk' ⟨hMM.new _, newB _ _ _, hB2⟩
      clear hMM
      go_upto_if 51 with fail
      go_cut [] from 41 to 125 (fun wx => ME w (m1Arr (fun i => (E i).delta) D R n nh M (!rc) b0 b1 b2 k (k + 1)) wo.heap.size (E k) (S k) wx)
      case first =>
        obtain ⟨wa, hwa⟩ : ∃ wa, wa = wo.alloc (.cells #[.string (E k).key, .string (E k).req, .int .i64 (E k).aid, .int .i64 (E k).tid, .int .i64 (E k).bid, .int .i64 (E k).delta, .int .i64 (E k).status, .string (E k).body, .slice (S k).a (S k).l (S k).c, .bool (E k).replayed, .int .i64 (E k).tries, .string (E k).url] 45) := ⟨_, rfl⟩
        rw [← hwa]
        have HMA : Hid (ME w (m1Arr (fun i => (E i).delta) D R n nh M (!rc) b0 b1 b2 k k) wo.heap.size (E k) (S k) wa) := by
          rw [hwa]; exact HME.out
        clear hwa HME d0 d1 d2 d3 d4 d5 d6 d7 d8 d9 d10 d11
        have hba := HMA.out.1.below
        obtain ⟨c0, c1, c2, c3, c4, c5, c6, c7, c8, c9, c10, c11⟩ := ecell HMA.out.2.1
        have r5 : wa.cell? ⟨w.heap.size + 1 + 1, 5, none⟩ = some (.int .i64 (mcnt M k : Nat)) := cellB HMA.out.1.row 5
        have f5 := frozenB HMA.out.1.row 5
        have HBA := Hid.mk' hba
        clear hbw
        cases rc
        · have hMk : M k = false := HM.out k
          go_wp2
          go_meet
          case rel => exact HMA.out.hit hMk
        · have hMk : M k = mis rE rB nr (E k) (Bo k) := HM.out k
          cases hm : lastIx (rkeys rE) nr (E k).key.data.toList with
          | none =>
            have HMK := Hid.mk' (hMk.trans (mis_none hm))
            have HMM := Hid.mk' hm
            clear hMk hm
            go_wp2_with (first | (go_at_call 23; refine (zzLastRep ra rb ro nr rcap (E k).key _ hnr HRA.out rE rS (by exact HR.out.keep (fun _ _ => rfl) HBA.out)).mono ?_; rintro e W ⟨rfl, rfl⟩; unfold lastRep; rw [HMM.out]))
            go_quiet (fail)
            go_wp2
            go_meet
            case rel => exact ((HMA.out.keep (below_drewN (Below.refl _ _) _)).mis HMK.out)
          | some j =>
            have hjn := lastIx_lt hm
            have hMk2 := hMk.trans (mis_some hm)
            have HMM := Hid.mk' hm
            obtain rfl := HRA.out (by omega)
            have hj0 : (0 : Int) ≤ (j : Int) := by omega
            have hj1 : (j : Int) < (nr : Int) := by omega
            have s1 : wa.cell? ⟨rb, ro + j * 3 + 1, none⟩ = some (.int .i64 (rE j).status) := keep hba (HR.out j hjn 1 (by omega))
            have s2 : wa.cell? ⟨rb, ro + j * 3 + 2, none⟩ = some (.slice (rS j).a (rS j).l (rS j).c) := keep hba (HR.out j hjn 2 (by omega))
            by_cases hst : (rE j).status = (E k).status
            · have hst' : ((rE j).status != (E k).status) = false := by simp [hst]
              have HHT : Hid (((rB j).getD [] == (Bo k).getD (E k).body.data.toList) = true → M k = false) := Hid.mk' fun h => by rw [hMk2, hst', h]; rfl
              have HX : Hid (((rB j).getD [] == (Bo k).getD (E k).body.data.toList) = false → M k = true) := Hid.mk' fun h => by rw [hMk2, hst', h]; rfl
              have HRJ := Hid.mk' ((HRB.out j hjn).keep hba)
              have HBK := Hid.mk' ((HBY.out k hlt).keep hba)
              have HLJ := Hid.mk' (HRL.out j hjn)
              have HST := Hid.mk' hst
              clear hMk hMk2 hm hst
              generalize hq : ((rB j).getD [] == (Bo k).getD (E k).body.data.toList) = q at HHT HX
              have HQ := Hid.mk' hq
              clear hq
              go_wp2_with (first | (go_at_call 23; refine (zzLastRep _ rb ro nr rcap (E k).key _ hnr (fun _ => rfl) rE rS (by exact HR.out.keep (fun _ _ => rfl) HBA.out)).mono ?_; rintro e W ⟨rfl, rfl⟩; unfold lastRep; rw [HMM.out]))
              refine region13 rb ro nr rcap j hjn (rE j).status (rS j) (rB j) wo.heap.size (E k) (S k) (Bo k) q HST.out HQ.out HLJ.out _ _ _ _ _ _ _ _ _ _ _ _ _ _ _ _ _ _ _ _ _ _ _ rfl ⟨rfl, rfl, rfl⟩ ⟨rfl, rfl, rfl⟩ ⟨rfl, rfl, rfl⟩ ⟨rfl, rfl, rfl⟩ ⟨rfl, rfl, rfl⟩ ⟨rfl, rfl, rfl⟩ ⟨rfl, rfl, rfl⟩ ⟨rfl, rfl, rfl⟩ ⟨rfl, rfl, rfl⟩ ⟨rfl, rfl, rfl⟩ ⟨rfl, rfl, rfl⟩ ⟨rfl, rfl, rfl⟩ ⟨rfl, rfl, rfl⟩ ⟨rfl, rfl, rfl⟩ ⟨rfl, rfl, rfl⟩ ⟨rfl, rfl, rfl⟩ ⟨rfl, rfl, rfl⟩ ⟨rfl, rfl, rfl⟩ ⟨rfl, rfl, rfl⟩ ⟨rfl, rfl, rfl⟩ ⟨rfl, rfl, rfl⟩ ⟨rfl, rfl, rfl⟩ (by kernel_rfl) _ _ _ _ _ (by simp) rfl rfl rfl rfl s1 s2 HMA.out.2.1 HRJ.out HBK.out ?_
              intro W3 hb3
              simp only [vals13, putL, List.setIfInBounds_toArray, List.set_cons_succ, List.set_cons_zero]
              have HM3 := Hid.mk' (HMA.out.keep hb3)
              have r53 : W3.cell? ⟨w.heap.size + 1 + 1, 5, none⟩ = some (.int .i64 (mcnt M k : Nat)) := cellB HM3.out.1.row 5
              have f53 := frozenB HM3.out.1.row 5
              clear r5 f5 c0 c1 c2 c3 c4 c5 c6 c7 c8 c9 c10 c11 s1 s2
              cases q
              · have hx := HX.out rfl
                go_wp2
                go_meet
                case rel => exact HM3.out.mis hx
              · have hx := HHT.out rfl
                go_wp2
                go_meet
                case rel => exact HM3.out.hit hx
            · have hst' : ((rE j).status != (E k).status) = true := by simp [hst]
              have HMK : Hid (M k = true) := Hid.mk' (by rw [hMk2, hst']; rfl)
              clear hMk hMk2 hm hst
              go_wp2_with (first | (go_at_call 23; refine (zzLastRep _ rb ro nr rcap (E k).key _ hnr (fun _ => rfl) rE rS (by exact HR.out.keep (fun _ _ => rfl) HBA.out)).mono ?_; rintro e W ⟨rfl, rfl⟩; unfold lastRep; rw [HMM.out]))
              go_quiet (fail)
              go_wp2
              go_meet
              case rel => exact ((HMA.out.keep (below_drewN (Below.refl _ _) _)).mis HMK.out)
      case rest =>
        obtain ⟨hM1, hE1, hE2⟩ := hcut
        clear HME d0 d1 d2 d3 d4 d5 d6 d7 d8 d9 d10 d11 hbw
        have HMC : Hid (ME w (m1Arr (fun i => (E i).delta) D R n nh M (!rc) b0 b1 b2 k (k + 1)) wo.heap.size (E k) (S k) wc) := Hid.mk' ⟨hM1, hE1, hE2⟩
        clear hM1 hE1 hE2
        go_wp2
        go_loopg [16, 17, 18] n (fun g nv kv jv wx => ∃ j : Nat, j ≤ n ∧ g = n - j ∧ jv = .int .i64 j ∧ nv = .int .i64 (cnt (fun i => (E i).delta) j (E k).delta : Nat) ∧ kv = .int .i64 (cnt (fun i => (E i).delta) (min j (k + 1)) (E k).delta : Nat) ∧ ME w (m1Arr (fun i => (E i).delta) D R n nh M (!rc) b0 b1 b2 k (k + 1)) wo.heap.size (E k) (S k) wx)
        case atStart => exact ⟨0, Nat.zero_le _, rfl, rfl, rfl, by rw [Nat.zero_min]; rfl, HMC.out⟩
        case round =>
          obtain ⟨j, hj, hgj, rfl, rfl, rfl, hMEj⟩ := hrel
          have hbx := hMEj.1.below
          have c5 := (ecell hMEj.2.1).2.2.2.2.2.1
          have HMJ := Hid.mk' hMEj
          clear hMEj HMC
          obtain ⟨cj, HJQ⟩ : ∃ cj, Hid (cnt (fun i => (E i).delta) j (E k).delta = cj) := ⟨_, Hid.mk' rfl⟩
          obtain ⟨ck, HKQ⟩ : ∃ ck, Hid (cnt (fun i => (E i).delta) (min j (k + 1)) (E k).delta = ck) := ⟨_, Hid.mk' rfl⟩
          have hcj : cj ≤ 4096 := by have := cnt_le (fun i => (E i).delta) j (E k).delta; have := HJQ.out; omega
          have hck : ck ≤ 4096 := by have := cnt_le (fun i => (E i).delta) (min j (k + 1)) (E k).delta; have := HKQ.out; omega
          rw [HJQ.out, HKQ.out]
          by_cases hjl : j < n
          · have d5 : wr.cell? ⟨eb, eo + j * 12 + 5, none⟩ = some (.int .i64 (E j).delta) := keep hbx (HE.out j hjl 5 (by omega))
            have hj0 : (0 : Int) ≤ (j : Int) := by omega
            have hj1 : (j : Int) < (n : Int) := by omega
            have HCJ : Hid (cnt (fun i => (E i).delta) (j + 1) (E k).delta = cj + if (E j).delta = (E k).delta then 1 else 0) := Hid.mk' (by rw [← HJQ.out]; rfl)
            have HCK : Hid (cnt (fun i => (E i).delta) (min (j + 1) (k + 1)) (E k).delta = ck + if (E j).delta = (E k).delta then (if j ≤ k then 1 else 0) else 0) := Hid.mk' (by
              rw [← HKQ.out]
              by_cases h : j ≤ k
              · rw [show min (j + 1) (k + 1) = j + 1 by omega, show min j (k + 1) = j by omega, if_pos h]; rfl
              · rw [show min (j + 1) (k + 1) = k + 1 by omega, show min j (k + 1) = k + 1 by omega, if_neg h]; simp)
            by_cases hx : (E j).delta = (E k).delta
            · have hx' : ((E j).delta == (E k).delta) = true := by rw [beq_iff_eq]; exact hx
              have HX := Hid.mk' hx
              clear hx
              by_cases hjk : j ≤ k
              · have hd : decide ((j : Int) ≤ (k : Int)) = true := by simp; omega
                have HJK := Hid.mk' hjk
                go_wp2
                go_region
                all_goals (try go_wp2)
                all_goals
                  go_roundg (n - (j + 1))
                  case measure => omega
                  case rel => exact ⟨j + 1, by omega, rfl, by go_num, congrArg (Value.int .i64) (by rw [HCJ.out, if_pos HX.out]; simp), congrArg (Value.int .i64) (by rw [HCK.out, if_pos HX.out, if_pos HJK.out]; simp), HMJ.out.keep (Below.refl _ _).drew⟩
              · have hd : decide ((j : Int) ≤ (k : Int)) = false := by simp; omega
                have HJK := Hid.mk' hjk
                go_wp2
                go_region
                all_goals (try go_wp2)
                all_goals
                  go_roundg (n - (j + 1))
                  case measure => omega
                  case rel => exact ⟨j + 1, by omega, rfl, by go_num, congrArg (Value.int .i64) (by rw [HCJ.out, if_pos HX.out]; simp), congrArg (Value.int .i64) (by rw [HCK.out, if_pos HX.out, if_neg HJK.out]; simp), HMJ.out.keep (Below.refl _ _).drew⟩
            · have hx' : ((E j).delta == (E k).delta) = false := by rw [beq_eq_false_iff_ne]; exact hx
              have HX := Hid.mk' hx
              clear hx
              go_wp2
              go_region
              all_goals (try go_wp2)
              all_goals
                go_roundg (n - (j + 1))
                case measure => omega
                case rel => exact ⟨j + 1, by omega, rfl, by go_num, congrArg (Value.int .i64) (by rw [HCJ.out, if_neg HX.out]; simp), congrArg (Value.int .i64) (by rw [HCK.out, if_neg HX.out]; simp), HMJ.out.keep (Below.refl _ _).drew⟩
          · obtain rfl : n = j := by omega
            have HR2 : Hid (wr.cell? ⟨w.heap.size + 1 + 1, 2, none⟩ = some (.int .i64 (mcnt (dupB (fun i => (E i).delta) D R n nh) k : Nat))) := Hid.mk' (cellB HMJ.out.1.row 2)
            have HR3 : Hid (wr.cell? ⟨w.heap.size + 1 + 1, 3, none⟩ = some (.int .i64 (mcnt (lostB (fun i => (E i).delta) D R nh) k : Nat))) := Hid.mk' (cellB HMJ.out.1.row 3)
            have f2 := frozenB HMJ.out.1.row 2
            have f3 := frozenB HMJ.out.1.row 3
            obtain ⟨ρ, HRHO⟩ : ∃ ρ, Hid ((last D R nh (E k).delta).getD 0 = ρ) := ⟨_, Hid.mk' rfl⟩
            have HDU : Hid (dupB (fun i => (E i).delta) D R n nh k = decide ((cj : Int) + (ck : Int) ≤ ρ)) := Hid.mk' (by
              have hq := HKQ.out
              rw [show min n (k + 1) = k + 1 by omega] at hq
              unfold dupB; rw [HRHO.out, HJQ.out, hq])
            have HLO : Hid (lostB (fun i => (E i).delta) D R nh k = decide (ρ < (ck : Int))) := Hid.mk' (by
              have hq := HKQ.out
              rw [show min n (k + 1) = k + 1 by omega] at hq
              unfold lostB; rw [HRHO.out, hq])
            obtain ⟨du, HD0⟩ : ∃ du, Hid (mcnt (dupB (fun i => (E i).delta) D R n nh) k = du) := ⟨_, Hid.mk' rfl⟩
            obtain ⟨lo, HL0⟩ : ∃ lo, Hid (mcnt (lostB (fun i => (E i).delta) D R nh) k = lo) := ⟨_, Hid.mk' rfl⟩
            have hdu : du ≤ 4096 := by have := mcnt_le (dupB (fun i => (E i).delta) D R n nh) k; have := HD0.out; omega
            have hlo : lo ≤ 4096 := by have := mcnt_le (lostB (fun i => (E i).delta) D R nh) k; have := HL0.out; omega
            have r2 := HR2.out
            have r3 := HR3.out
            rw [HD0.out] at r2
            rw [HL0.out] at r3
            clear HR2 HR3
            have HBX := Hid.mk' hbx
            by_cases hA : (cj : Int) + (ck : Int) ≤ ρ
            · have hd1 : decide (ρ ≥ (cj : Int) + (ck : Int)) = true := by simpa using hA
              have hd2 : decide (ρ < (ck : Int)) = false := by simp; omega
              have HA : Hid (mcnt (dupB (fun i => (E i).delta) D R n nh) (k + 1) = du + 1) := Hid.mk' (by rw [mcnt, HD0.out, HDU.out, if_pos (by simpa using hA)])
              have HB : Hid (mcnt (lostB (fun i => (E i).delta) D R nh) (k + 1) = lo) := Hid.mk' (by rw [mcnt, HL0.out, HLO.out, hd2]; rfl)
              clear hA
              go_wp2_with (first | (go_at_call 25; refine (zzLastRow ha hb ho nh hcap (E k).delta D R _ hnh HHA.out (by exact HH.out.keep (fun _ _ => rfl) HBX.out)).mono ?_; rintro e W ⟨rfl, rfl⟩; rw [HRHO.out]))
              go_roundg (n - (k + 1))
              case measure => omega
              case rel => exact ⟨k + 1, by omega, rfl, by go_num, HMJ.out.1.set 2 _ (by unfold m1Arr; rw [HA.out, HB.out, HD0.out, HL0.out]; simp [rArr])⟩
            · have hd1 : decide (ρ ≥ (cj : Int) + (ck : Int)) = false := by simp; omega
              have HA : Hid (mcnt (dupB (fun i => (E i).delta) D R n nh) (k + 1) = du) := Hid.mk' (by rw [mcnt, HD0.out, HDU.out, if_neg (by simpa using hA)]; rfl)
              by_cases hB : ρ < (ck : Int)
              · have hd2 : decide (ρ < (ck : Int)) = true := by simpa using hB
                have HB : Hid (mcnt (lostB (fun i => (E i).delta) D R nh) (k + 1) = lo + 1) := Hid.mk' (by rw [mcnt, HL0.out, HLO.out, hd2]; rfl)
                clear hA hB
                go_wp2_with (first | (go_at_call 25; refine (zzLastRow ha hb ho nh hcap (E k).delta D R _ hnh HHA.out (by exact HH.out.keep (fun _ _ => rfl) HBX.out)).mono ?_; rintro e W ⟨rfl, rfl⟩; rw [HRHO.out]))
                go_roundg (n - (k + 1))
                case measure => omega
                case rel => exact ⟨k + 1, by omega, rfl, by go_num, HMJ.out.1.set 3 _ (by unfold m1Arr; rw [HA.out, HB.out, HD0.out, HL0.out]; simp [rArr])⟩
              · have hd2 : decide (ρ < (ck : Int)) = false := by simpa using hB
                have HB : Hid (mcnt (lostB (fun i => (E i).delta) D R nh) (k + 1) = lo) := Hid.mk' (by rw [mcnt, HL0.out, HLO.out, hd2]; rfl)
                clear hA hB
                go_wp2_with (first | (go_at_call 25; refine (zzLastRow ha hb ho nh hcap (E k).delta D R _ hnh HHA.out (by exact HH.out.keep (fun _ _ => rfl) HBX.out)).mono ?_; rintro e W ⟨rfl, rfl⟩; rw [HRHO.out]))
                go_roundg (n - (k + 1))
                case measure => omega
                case rel => exact ⟨k + 1, by omega, rfl, by go_num, by have := HMJ.out.1; unfold m1Arr at this ⊢; rw [HA.out, HB.out]; rw [HD0.out, HL0.out] at this; exact this⟩
    · obtain rfl : n = k := by omega
      obtain ⟨du, HDU⟩ : ∃ du : Nat, Hid (mcnt (dupB (fun i => (E i).delta) D R n nh) n = du) := ⟨_, Hid.mk' rfl⟩
      obtain ⟨lo, HLO⟩ : ∃ lo : Nat, Hid (mcnt (lostB (fun i => (E i).delta) D R nh) n = lo) := ⟨_, Hid.mk' rfl⟩
      obtain ⟨mm, HMM⟩ : ∃ mm : Nat, Hid (mcnt M n = mm) := ⟨_, Hid.mk' rfl⟩
      have HM0 : Hid (MM w (rArr n 0 du lo 0 mm (!rc) b0 b1 b2 0) wo) := Hid.mk' (by
        have := hMM
        unfold m1Arr at this
        rw [HDU.out, HLO.out, HMM.out] at this
        exact this)
      clear hMM hgk hlt hk
      go_wp2
      go_loopg [20] nh (fun g iv wx => ∃ (i : Nat) (H Or S3 : Int), i ≤ nh ∧ g = nh - i ∧ iv = .int .i64 i ∧ MM w (rArr n H du lo Or mm (!rc) b0 b1 b2 S3) wx ∧ Hid (H = wrap64 (lsum D nh R i)) ∧ Hid (Or = wrap64 (lsum D nh (fun i => if cnt (fun i => (E i).delta) n (D i) = 0 then R i else 0) i)) ∧ Hid (S3 = wrap64 (lsum D nh (fun i => D i * R i) i)))
      case atStart => exact ⟨0, 0, 0, 0, Nat.zero_le _, rfl, rfl, HM0.out, Hid.mk' wrap_zero.symm, Hid.mk' wrap_zero.symm, Hid.mk' wrap_zero.symm⟩
      case round =>
        obtain ⟨i, H, Or, S3, hi, hgi, rfl, hMI, HSH, HSO, HSS⟩ := hrel
        have hbx := hMI.below
        have HBX := Hid.mk' hbx
        have HMI := Hid.mk' hMI
        clear HM0
        by_cases hil : i < nh
        · obtain rfl := HHA.out (by omega)
          have hi0 : (0 : Int) ≤ (i : Int) := by omega
          have hi1 : (i : Int) < (nh : Int) := by omega
          clear hMI
          cases hq : supB D nh i with
          | true =>
            have HQ := Hid.mk' hq
            have s1 : lsum D nh R (i + 1) = lsum D nh R i := by rw [lsum, hq]; simp
            have s2 : lsum D nh (fun i => if cnt (fun i => (E i).delta) n (D i) = 0 then R i else 0) (i + 1) = lsum D nh (fun i => if cnt (fun i => (E i).delta) n (D i) = 0 then R i else 0) i := by rw [lsum, hq]; simp
            have s3 : lsum D nh (fun i => D i * R i) (i + 1) = lsum D nh (fun i => D i * R i) i := by rw [lsum, hq]; simp
            have H1 := Hid.mk' s1
            have H2 := Hid.mk' s2
            have H3 := Hid.mk' s3
            clear hq s1 s2 s3
            go_wp2_with (first | (go_at_call 20; refine (zzSuperseded _ hb ho nh hcap i D R _ hnh hil (fun _ => rfl) (by exact HH.out.keep (fun _ _ => rfl) HBX.out)).mono ?_; rintro e W ⟨rfl, hbW⟩; rw [HQ.out]; have HBW := Hid.mk' hbW; clear hbW))
            go_roundg (nh - (i + 1))
            case measure => omega
            case rel => exact ⟨i + 1, H, Or, S3, by omega, rfl, by go_num, HMI.out.keep HBW.out, Hid.mk' (by rw [H1.out]; exact HSH.out), Hid.mk' (by rw [H2.out]; exact HSO.out), Hid.mk' (by rw [H3.out]; exact HSS.out)⟩
          | false =>
            have HQ := Hid.mk' hq
            have s1 : lsum D nh R (i + 1) = lsum D nh R i + R i := by rw [lsum, hq]; simp
            have s2 : lsum D nh (fun i => if cnt (fun i => (E i).delta) n (D i) = 0 then R i else 0) (i + 1) = lsum D nh (fun i => if cnt (fun i => (E i).delta) n (D i) = 0 then R i else 0) i + if cnt (fun i => (E i).delta) n (D i) = 0 then R i else 0 := by rw [lsum, hq, if_neg (by decide)]
            have s3 : lsum D nh (fun i => D i * R i) (i + 1) = lsum D nh (fun i => D i * R i) i + D i * R i := by rw [lsum, hq]; simp
            have H1 : Hid (wrap64 (H + R i) = wrap64 (lsum D nh R (i + 1))) := Hid.mk' (by rw [s1, HSH.out, wrap_add])
            have H3 : Hid (wrap64 (S3 + wrap64 (D i * R i)) = wrap64 (lsum D nh (fun i => D i * R i) (i + 1))) := Hid.mk' (by rw [s3, HSS.out, wrap_add2])
            clear hq s1 s3
            by_cases hcz : cnt (fun i => (E i).delta) n (D i) = 0
            · have HCZ : Hid ((!(cnt (fun i => (E i).delta) n (D i) == 0)) = false) := Hid.mk' (by rw [hcz]; rfl)
              rw [if_pos hcz] at s2
              have H2 : Hid (wrap64 (Or + R i) = wrap64 (lsum D nh (fun i => if cnt (fun i => (E i).delta) n (D i) = 0 then R i else 0) (i + 1))) := Hid.mk' (by rw [s2, HSO.out, wrap_add])
              clear hcz s2
              go_wp2_with (first | (go_at_call 20; refine (zzSuperseded _ hb ho nh hcap i D R _ hnh hil (fun _ => rfl) (by exact HH.out.keep (fun _ _ => rfl) HBX.out)).mono ?_; rintro e W ⟨rfl, hbW⟩; rw [HQ.out]; have HMW := Hid.mk' (HMI.out.keep hbW); clear hbW; have hbW := HMW.out.below; have dD : W.cell? ⟨hb, ho + i * 2, none⟩ = some (.int .i64 (D i)) := keep hbW (HH.out i hil 0 (by omega)); have dR : W.cell? ⟨hb, ho + i * 2 + 1, none⟩ = some (.int .i64 (R i)) := keep hbW (HH.out i hil 1 (by omega)); have hnb : hb < w.heap.size := World.block_lt_of_cell? w _ (HH.out i hil 0 (by omega)); obtain ⟨r0, r1, r2, r3, r4, r5, r6, r7, r8, r9, r10⟩ := rcell HMW.out.row; have f1 := frozenB HMW.out.row 1; have f4 := frozenB HMW.out.row 4; have f10 := frozenB HMW.out.row 10) | (go_at_call 26; refine (zzHasDelta ea eb eo n cap (D i) _ hn HEA.out E S (by exact HE.out.keep (fun _ _ => rfl) ((hbW.setCell (by simp; omega) _).setCell (by simp; omega) _))).mono ?_; rintro e W2 ⟨rfl, rfl⟩; rw [HCZ.out]))
              go_roundg (nh - (i + 1))
              case measure => omega
              case rel => exact ⟨i + 1, wrap64 (H + R i), wrap64 (Or + R i), wrap64 (S3 + wrap64 (D i * R i)), by omega, rfl, by go_num, ((HMW.out.set 1 _ rfl).set 10 _ rfl).set 4 _ rfl, H1, H2, H3⟩
            · have HCZ : Hid ((!(cnt (fun i => (E i).delta) n (D i) == 0)) = true) := Hid.mk' (by simpa using hcz)
              rw [if_neg hcz] at s2
              have H2 : Hid (Or = wrap64 (lsum D nh (fun i => if cnt (fun i => (E i).delta) n (D i) = 0 then R i else 0) (i + 1))) := Hid.mk' (by rw [s2, HSO.out, Int.add_zero])
              clear hcz s2
              go_wp2_with (first | (go_at_call 20; refine (zzSuperseded _ hb ho nh hcap i D R _ hnh hil (fun _ => rfl) (by exact HH.out.keep (fun _ _ => rfl) HBX.out)).mono ?_; rintro e W ⟨rfl, hbW⟩; rw [HQ.out]; have HMW := Hid.mk' (HMI.out.keep hbW); clear hbW; have hbW := HMW.out.below; have dD : W.cell? ⟨hb, ho + i * 2, none⟩ = some (.int .i64 (D i)) := keep hbW (HH.out i hil 0 (by omega)); have dR : W.cell? ⟨hb, ho + i * 2 + 1, none⟩ = some (.int .i64 (R i)) := keep hbW (HH.out i hil 1 (by omega)); have hnb : hb < w.heap.size := World.block_lt_of_cell? w _ (HH.out i hil 0 (by omega)); obtain ⟨r0, r1, r2, r3, r4, r5, r6, r7, r8, r9, r10⟩ := rcell HMW.out.row; have f1 := frozenB HMW.out.row 1; have f4 := frozenB HMW.out.row 4; have f10 := frozenB HMW.out.row 10) | (go_at_call 26; refine (zzHasDelta ea eb eo n cap (D i) _ hn HEA.out E S (by exact HE.out.keep (fun _ _ => rfl) ((hbW.setCell (by simp; omega) _).setCell (by simp; omega) _))).mono ?_; rintro e W2 ⟨rfl, rfl⟩; rw [HCZ.out]))
              go_roundg (nh - (i + 1))
              case measure => omega
              case rel => exact ⟨i + 1, wrap64 (H + R i), Or, wrap64 (S3 + wrap64 (D i * R i)), by omega, rfl, by go_num, (HMW.out.set 1 _ rfl).set 10 _ rfl, H1, H2, H3⟩
        · obtain rfl : nh = i := by omega
          obtain ⟨C0, g1, g2, g3, g4⟩ := hMI
          obtain ⟨r0, r1, r2, r3, r4, r5, r6, r7, r8, r9, r10⟩ := rcell g3
          obtain ⟨d0, d1, d2, d3, d4, d5, d6, d7, d8, d9, d10⟩ := cells11 g1 g2
          obtain ⟨q0, q1, q2, q3, q4, q5, q6, q7, q8, q9, q10⟩ := frozen11 g1
          have HC1 := Hid.mk' g1
          have HC2 := Hid.mk' g2
          clear g1 g2 g3 g4 hbx
          go_wp2
          have hfin := put11 HC1.out HC2.out n H du lo Or mm (!rc) b0 b1 b2 S3
          have hld := run_loadVar_row (P := Try.prog) _ (w.heap.size + 1) 34 34 _ (0, 0) _ hfin Try.underlying34 rfl (by kernel_rfl)
          have hbl := below11 (g := w.heap.size + 1) HBX.out (Nat.le_succ _) (.int .i64 n) (.int .i64 H) (.int .i64 du) (.int .i64 lo) (.int .i64 Or) (.int .i64 mm) (.bool !rc) (.int .i64 b0) (.int .i64 b1) (.int .i64 b2) (.int .i64 S3)
          refine bodyPost_ret (v := .agg (rArr n H du lo Or mm (!rc) b0 b1 b2 S3)) (res16 _ _ (w.heap.size + 1) _ rfl hld) rfl ⟨?_, hbl⟩
          unfold mArr
          rw [← HSH.out, ← HSO.out, ← HSS.out, HDU.out, HLO.out, HMM.out]
end Go.Proofs.Qxb6603057a
