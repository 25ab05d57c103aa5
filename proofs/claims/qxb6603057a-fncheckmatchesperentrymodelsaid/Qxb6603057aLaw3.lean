/-
  FnCheckMatchesPerEntryModel (function 3): the region that compares ('got == zzModel(..)'), and the walk.
-/
import Derived.Test.Qxb6603057aModel
import Derived.Test.Qxb6603057aLaw5
import Derived.Laws.StructEq
namespace Go.Proofs.Qxb6603057a
open Go.RowKit Go.Maps
theorem eq32 (w : World) (d : Nat) (s0 s1 s2 s3 : Int) : (Op.equalIn (d + 2) 32 (.agg #[.int .i64 s0, .int .i64 s1, .int .i64 s2, .int .i64 s3]) (.agg #[.int .i64 s0, .int .i64 s1, .int .i64 s2, .int .i64 s3])).run Try.prog w = .ok true w := by
  rw [Op.equalIn]
  simp [go_sem, run_underlying Try.underlying32, show List.range' 0 4 = [0, 1, 2, 3] from rfl]
/-- A Report is equal to itself. -/
theorem eq34 (w : World) (a h d l o m : Int) (nr : Bool) (s0 s1 s2 s3 : Int) : (binOp .eql 34 (.agg (rArr a h d l o m nr s0 s1 s2 s3)) (.agg (rArr a h d l o m nr s0 s1 s2 s3))).run Try.prog w = .ok (.bool true) w := by
  rw [run_eql_struct, run_equalIn_agg w 9999 34 _ _ (by kernel_rfl) (by kernel_rfl)]
  unfold Program.fieldsOf
  rw [Try.underlying34]
  have e32 := fun w => eq32 w 9997 s0 s1 s2 s3
  simp [Op.eqFields, go_sem, rArr, e32]
/-- A Report's cells. -/
def IsR (C : Array Value) : Prop := ∃ (a h d l o m : Int) (nr : Bool) (s0 s1 s2 s3 : Int), C = rArr a h d l o m nr s0 s1 s2 s3
theorem opEql34 {o : Oper} {a : Act} {w : World} {K : Act → World → Prop} {Q : Exit → Act → World → Prop} (x y : Operand) (ho : o.op = .binOp .eql 34 x y 34) (C : Array Value) (hC : IsR C) (hx : a.eval x = .agg C) (hy : a.eval y = .agg C) (hk : K (a.put o.dst (.bool true)) w) : o.wp Try.prog a w K Q :=
  opVal _ (by
    obtain ⟨a', h, d, l, o', m, nr, s0, s1, s2, s3, rfl⟩ := hC
    have hg := fun u v => run_eqGuard_agg (P := Try.prog) w .eql 34 x y u v (by kernel_rfl)
    unfold execOp
    simp only [ho, hx, hy]
    simp [hg, eq34]) hk
/-- The slots of the region. -/
def sl11 (i : Nat) : Nat := if i < 8 then 42 + i else 10
def vals11 (C : Array Value) (v0 v1 v2 v3 vb : Value) : List Value := [.agg C, v0, v1, v2, v3, vb, .agg C, .bool true]
def val11 (C : Array Value) (v0 v1 v2 v3 vb : Value) (i : Nat) : Value := if i < 8 then (vals11 C v0 v1 v2 v3 vb).getD i undef else .bool true
def deps11 : List (Nat × Nat) := [(6, 1), (6, 2), (6, 3), (6, 4), (6, 5), (7, 0), (7, 6), (8, 7)]
theorem out11 {T T' : Array Value} {C : Array Value} {v0 v1 v2 v3 vb : Value} (h : Out sl11 9 T T') (hs : 50 ≤ T.size) (hv : ∀ j, j < 9 → T'[sl11 j]? = some (val11 C v0 v1 v2 v3 vb j)) : T' = (putL T 42 (vals11 C v0 v1 v2 v3 vb)).setIfInBounds 10 (.bool true) := by
  apply Array.ext_getElem?
  intro k
  by_cases e : k = 10
  · subst e
    rw [show (10 : Nat) = sl11 8 from rfl, hv 8 (by omega)]
    exact (got (k := 10) _ (by rw [putL_size]; omega)).symm
  · rw [Array.getElem?_setIfInBounds_ne (fun h => e h.symm)]
    by_cases hk : k < 42 ∨ 50 ≤ k
    · rw [putL_out _ _ _ _ (by show k < 42 ∨ 42 + 8 ≤ k; omega), h.2 k (fun i hi => by unfold sl11; split <;> omega)]
    · obtain ⟨f, rfl⟩ : ∃ f, k = 42 + f := ⟨k - 42, by omega⟩
      have hf : f < 8 := by omega
      rw [putL_in _ _ _ _ (by show 42 + 8 ≤ T.size; omega) (by show f < 8; omega)]
      have := hv f (by omega)
      rw [show sl11 f = 42 + f from if_pos hf, show val11 C v0 v1 v2 v3 vb f = (vals11 C v0 v1 v2 v3 vb).getD f undef from if_pos hf] at this
      rw [this, List.getElem?_eq_getElem (show f < (vals11 C v0 v1 v2 v3 vb).length from hf)]
      simp [List.getD, show f < (vals11 C v0 v1 v2 v3 vb).length from hf]
set_option maxHeartbeats 2000000 in
/-- THE REGION 'return got == zzModel(es, hist, recorded, reps, balances)', WHATEVER THE ORDER, where the model hands back what got holds. -/
theorem region11 (C : Array Value) (hC : IsR C) (v0 v1 v2 v3 : Value) (b0 b1 b2 : Int) (g g9 : Nat)
    (ops : Array Oper) (o0 o1 o2 o3 o4 o5 o6 o7 o8 : Oper) (hops : ops = #[o0, o1, o2, o3, o4, o5, o6, o7, o8])
    (h0 : IsOpG o0 (some 42) (.load 34 (.tmp 11)) none) (h1 : IsOpG o1 (some 43) (.move (.tmp 0)) none) (h2 : IsOpG o2 (some 44) (.move (.tmp 1)) none) (h3 : IsOpG o3 (some 45) (.move (.tmp 2)) none) (h4 : IsOpG o4 (some 46) (.move (.tmp 3)) none)
    (h5 : IsOpG o5 (some 47) (.load 25 (.tmp 9)) none) (h6 : IsOpG o6 (some 48) (.call { callee := .value (.func 16), args := #[.tmp 43, .tmp 44, .tmp 45, .tmp 46, .tmp 47], argTypes := #[22, 23, 4, 24, 25] }) none)
    (h7 : IsOpG o7 (some 49) (.binOp .eql 34 (.tmp 42) (.tmp 48) 34) none) (h8 : IsOpG o8 (some 10) (.assign (.tmp 49)) none)
    (hd : (deps11.all (fun p => dep ops p.1 p.2) && lowB ops) = true)
    (id : Nat) (T : Array Value) (df : List Deferred) (w : World) (Q : Exit → Act → World → Prop) (hss : 50 ≤ T.size)
    (t0 : T[0]? = some v0) (t1 : T[1]? = some v1) (t2 : T[2]? = some v2) (t3 : T[3]? = some v3) (t9 : T[9]? = some (.pointer (some ⟨g9, 0, none⟩))) (t11 : T[11]? = some (.pointer (some ⟨g, 0, none⟩)))
    (hg : w.heap[g]? = some (.cells C 34 (0, 0))) (hg9 : w.heap[g9]? = some (.cells #[.int .i64 b0, .int .i64 b1, .int .i64 b2] 25 (0, 0)))
    (hcall : ∀ w', Below w.heap.size w w' → Calls Try.prog 16 #[v0, v1, v2, v3, .agg #[.int .i64 b0, .int .i64 b1, .int .i64 b2]] w' fun e w'' => e = .returned (.agg C) ∧ Below w'.heap.size w' w'')
    (hQ : ∀ w', Below w.heap.size w w' → Q .normal { tmps := (putL T 42 (vals11 C v0 v1 v2 v3 (.agg #[.int .i64 b0, .int .i64 b1, .int .i64 b2]))).setIfInBounds 10 (.bool true), defers := df } w') :
    (Code.region id ops true).wp Try.prog Q { tmps := T, defers := df } w := by
  simp only [Bool.and_eq_true] at hd
  obtain ⟨x1, x2⟩ := hd
  have D : ∀ i d : Nat, (i, d) ∈ deps11 → dep ops i d = true := fun i d h => List.all_eq_true.1 x1 (i, d) h
  have hCs : C.size = 11 := by obtain ⟨a', h, d, l, o', m, nr, s0, s1, s2, s3, rfl⟩ := hC; rfl
  refine region_val 9 ops (by rw [hops]; rfl) x2 sl11 (fun i j hi hj h => by unfold sl11 at h; split at h <;> split at h <;> omega) (val11 C v0 v1 v2 v3 (.agg #[.int .i64 b0, .int .i64 b1, .int .i64 b2])) id T df w Q (fun i hi => by unfold sl11; split <;> omega) ?_ ?_
  · intro i hi T' w1 hO hb0 hdp
    have hb : Below w.heap.size w w1 := chain (Below.refl _ _).drew hb0
    have hne : ∀ k, k < 10 ∨ k = 11 → ∀ i, i < 9 → sl11 i ≠ k := fun k hk i _ => by unfold sl11; split <;> omega
    have f0 := (hO.2 0 (hne 0 (by omega))).trans t0
    have f1 := (hO.2 1 (hne 1 (by omega))).trans t1
    have f2 := (hO.2 2 (hne 2 (by omega))).trans t2
    have f3 := (hO.2 3 (hne 3 (by omega))).trans t3
    have f9 := (hO.2 9 (hne 9 (by omega))).trans t9
    have f11 := (hO.2 11 (hne 11 (by omega))).trans t11
    have hcases : i = 0 ∨ i = 1 ∨ i = 2 ∨ i = 3 ∨ i = 4 ∨ i = 5 ∨ i = 6 ∨ i = 7 ∨ i = 8 := by omega
    rcases hcases with rfl | rfl | rfl | rfl | rfl | rfl | rfl | rfl | rfl
    · refine wpOp_of o0 (by rw [hops]; rfl) (wantN h0.2.2) ?_
      refine wp_load_row 34 (.tmp 11) h0.2.1 g (evalAt _ _ _ f11) 34 _ (0, 0) _ (blk hb hg) Try.underlying34 rfl (by rw [hCs]; kernel_rfl) ?_
      rw [h0.1]
      exact ⟨rfl, Below.refl _ _⟩
    · refine wpOp_of o1 (by rw [hops]; rfl) (wantN h1.2.2) ?_
      refine BigFrame.wp_move _ h1.2.1 ?_
      rw [h1.1, evalAt _ _ _ f0]
      exact ⟨rfl, Below.refl _ _⟩
    · refine wpOp_of o2 (by rw [hops]; rfl) (wantN h2.2.2) ?_
      refine BigFrame.wp_move _ h2.2.1 ?_
      rw [h2.1, evalAt _ _ _ f1]
      exact ⟨rfl, Below.refl _ _⟩
    · refine wpOp_of o3 (by rw [hops]; rfl) (wantN h3.2.2) ?_
      refine BigFrame.wp_move _ h3.2.1 ?_
      rw [h3.1, evalAt _ _ _ f2]
      exact ⟨rfl, Below.refl _ _⟩
    · refine wpOp_of o4 (by rw [hops]; rfl) (wantN h4.2.2) ?_
      refine BigFrame.wp_move _ h4.2.1 ?_
      rw [h4.1, evalAt _ _ _ f3]
      exact ⟨rfl, Below.refl _ _⟩
    · refine wpOp_of o5 (by rw [hops]; rfl) (wantN h5.2.2) ?_
      refine wp_load_row 25 (.tmp 9) h5.2.1 g9 (evalAt _ _ _ f9) 25 _ (0, 0) _ (blk hb hg9) Try.underlying25 rfl (by kernel_rfl) ?_
      rw [h5.1]
      exact ⟨rfl, Below.refl _ _⟩
    · refine wpOp_of o6 (by rw [hops]; rfl) (wantN h6.2.2) ?_
      have e1 : T'[43]? = some v0 := hdp 1 (D 6 1 (by decide))
      have e2 : T'[44]? = some v1 := hdp 2 (D 6 2 (by decide))
      have e3 : T'[45]? = some v2 := hdp 3 (D 6 3 (by decide))
      have e4 : T'[46]? = some v3 := hdp 4 (D 6 4 (by decide))
      have e5 : T'[47]? = some (.agg #[.int .i64 b0, .int .i64 b1, .int .i64 b2]) := hdp 5 (D 6 5 (by decide))
      refine opCall 16 cf16 _ _ h6.2.1 #[v0, v1, v2, v3, .agg #[.int .i64 b0, .int .i64 b1, .int .i64 b2]] ?_ ?_
      · simp only [List.map_toArray, List.map_cons, List.map_nil]
        rw [evalAt _ _ _ e1, evalAt _ _ _ e2, evalAt _ _ _ e3, evalAt _ _ _ e4, evalAt _ _ _ e5]
      · refine (hcall w1 hb).mono ?_
        rintro r w' ⟨rfl, hbw⟩
        refine ⟨_, rfl, ?_⟩
        rw [h6.1]
        exact ⟨rfl, hbw⟩
    · refine wpOp_of o7 (by rw [hops]; rfl) (wantN h7.2.2) ?_
      have e1 : T'[42]? = some (.agg C) := hdp 0 (D 7 0 (by decide))
      have e2 : T'[48]? = some (.agg C) := hdp 6 (D 7 6 (by decide))
      exact opEql34 _ _ h7.2.1 C hC (evalAt _ _ _ e1) (evalAt _ _ _ e2) (by rw [h7.1]; exact ⟨rfl, Below.refl _ _⟩)
    · refine wpOp_of o8 (by rw [hops]; rfl) (wantN h8.2.2) ?_
      have e1 : T'[49]? = some (.bool true) := hdp 7 (D 8 7 (by decide))
      refine BigFrame.wp_assign _ h8.2.1 ?_
      rw [h8.1, evalAt _ _ _ e1]
      exact ⟨rfl, Below.refl _ _⟩
  · intro T' w' hO hv hb
    rw [out11 hO hss hv]
    exact hQ w' (chain (Below.refl _ _).drew hb)
set_option maxHeartbeats 8000000 in
set_option maxRecDepth 100000 in
theorem law3 (ea : Option Addr) (eb eo n cap : Nat) (ha : Option Addr) (hb ho nh hcap : Nat) (rc : Bool) (ra : Option Addr) (rb ro nr rcap : Nat) (b0 b1 b2 : Int) (w : World)
    (hae : ArgS ea eb eo n cap) (E : Nat → Ent) (S : Nat → Sl) (Bo : Nat → Option (List UInt8)) (hE : HoldsAt w eb eo n 12 fun i => entCells (E i) (S i)) (hBy : ∀ i, i < n → BytesAt w (S i) (Bo i)) (hwE : ∀ i, i < n → (Lit.int .i64 (E i).delta).wf = true)
    (hah : ArgS ha hb ho nh hcap) (D R : Nat → Int) (hH : HoldsAt w hb ho nh 2 fun i => rowCells (D i) (R i)) (hwH : ∀ i, i < nh → (Lit.int .i64 (D i)).wf = true ∧ (Lit.int .i64 (R i)).wf = true)
    (har : ArgS ra rb ro nr rcap) (rE : Nat → Rp) (rS : Nat → Sl) (rB : Nat → Option (List UInt8)) (hR : HoldsAt w rb ro nr 3 fun i => repCells (rE i) (rS i)) (hrB : ∀ i, i < nr → BytesAt w (rS i) (rB i)) :
    Calls Try.prog 3 #[.slice ea n cap, .slice ha nh hcap, .bool rc, .slice ra nr rcap, .agg #[.int .i64 b0, .int .i64 b1, .int .i64 b2]] w fun e w' => e = .returned (.bool true) ∧ Below w.heap.size w w' := by
  have HAE := Hid.mk' hae
  have HE := Hid.mk' hE
  have HBY := Hid.mk' hBy
  have HWE := Hid.mk' hwE
  have HAH := Hid.mk' hah
  have HH := Hid.mk' hH
  have HWH := Hid.mk' hwH
  have HAR := Hid.mk' har
  have HR := Hid.mk' hR
  have HRB := Hid.mk' hrB
  clear hae hE hBy hwE hah hH hwH har hR hrB
  have HBX := Hid.mk' (inv_new w b0 b1 b2)
  go_enter Try.func3, Try.ntmps3
  go_wp2_with (first
    | (go_at_call 6; refine (zzBytes6 ea eb eo n cap ha nh hcap rc ra rb ro nr rcap b0 b1 b2 _ HAE.out.at E S (by exact HE.out.keep (fun _ _ => rfl) HBX.out.1) HAR.out.at rE rS (by exact HR.out.keep (fun _ _ => rfl) HBX.out.1)).mono ?_; rintro e W1 ⟨⟨q, rfl⟩, hb1⟩; have HI1 := Hid.mk' (HBX.out.keep hb1); clear hb1)
    | (go_at_call 7; refine (zzSizeOK ea eb eo n cap ha nh hcap ra rb ro nr rcap _ HAE.out.at E S (by exact HE.out.keep (fun _ _ => rfl) HI1.out.1) HAR.out.at rE rS (by exact HR.out.keep (fun _ _ => rfl) HI1.out.1)).mono ?_; rintro e W2 ⟨⟨q2, rfl, hq2⟩, rfl⟩; have HQ2 : Hid ((!q2) = false → Sizes n nh nr E S rE rS) := Hid.mk' (fun h => hq2 (by simpa using h)); clear hq2)
    | (go_at_call 8; have HSZ := Hid.mk' (HQ2.out (by assumption)); obtain ⟨hn, hnh, hnr, hs1, hs2⟩ := HQ2.out (by assumption); clear hs1 hs2 HQ2; refine (zzLiveRows ha hb ho nh hcap D R _ hnh HAH.out.at (by exact HH.out.keep (fun _ _ => rfl) HI1.out.1)).mono ?_; rintro e W8 ⟨⟨q3, rfl, hq3⟩, hb8⟩; have HI8 := Hid.mk' (HI1.out.keep hb8); have HQ3 : Hid ((!q3) = false → ∀ i, i < nh → R i < 0 → supB D nh i = true) := Hid.mk' (fun h => hq3 (by simpa using h)); clear hq3 hb8)
    | (go_at_call 9; have HLV := Hid.mk' (HQ3.out (by assumption)); clear HQ3; refine (cloneEntsA HAE.out _ hn E S Bo (by exact HE.out.keep (fun _ _ => rfl) HI8.out.1) (fun i hi => (HBY.out i hi).keep HI8.out.1) (fun i hi => by have := (HSZ.out.2.2.2.1 i hi).2.2; omega)).mono ?_; rintro e W2 ⟨ea', eb', ec', S', rfl, hA2, hE2, hB2, hb2⟩; have HI2 := Hid.mk' (HI8.out.keep hb2); have HA2 := Hid.mk' hA2; have HE2 := Hid.mk' hE2; have HB2 := Hid.mk' hB2; clear hA2 hE2 hB2 hb2)
    | (go_at_call 10; refine (cloneRowsA HAH.out _ hnh D R (by exact HH.out.keep (fun _ _ => rfl) HI2.out.1)).mono ?_; rintro e W3 ⟨ha', hb', hc', rfl, hA3, hH3, hb3⟩; have HI3 := Hid.mk' (HI2.out.keep hb3); have HA3 := Hid.mk' hA3; have HH3 := Hid.mk' hH3; have HE3 := Hid.mk' (HE2.out.keep (fun _ _ => rfl) hb3); have HB3 := Hid.mk' (fun i hi => (HB2.out i hi).keep hb3); clear hA3 hH3 hb3)
    | (go_at_call 11; refine (cloneRepsA HAR.out _ hnr rE rS rB (by exact HR.out.keep (fun _ _ => rfl) HI3.out.1) (fun i hi => (HRB.out i hi).keep HI3.out.1) (fun i hi => by have := (HSZ.out.2.2.2.2 i hi).2; omega)).mono ?_; rintro e W4 ⟨ra', rb', rc', rS', rfl, hA4, hR4, hB4, hb4⟩; have HI4 := Hid.mk' (HI3.out.keep hb4); have HA4 := Hid.mk' hA4; have HR4 := Hid.mk' hR4; have HRB4 := Hid.mk' hB4; have HE4 := Hid.mk' (HE3.out.keep (fun _ _ => rfl) hb4); have HB4 := Hid.mk' (fun i hi => (HB3.out i hi).keep hb4); have HH4 := Hid.mk' (HH3.out.keep (fun _ _ => rfl) hb4); clear hA4 hR4 hB4 hb4))
  all_goals (try (go_ret; first | exact ⟨rfl, HI8.out.1⟩ | exact ⟨rfl, HI1.out.1⟩))
  refine region_zz ⟨ea', ec', eb', n, ha', hc', hb', nh, rc, ra', rc', rb', nr, b0, b1, b2, E, S', Bo, D, R, rE, rS', rB⟩ 33 (by omega) _ _ _ _ _ _ _ _ _ _ _ _ rfl ⟨rfl, rfl, rfl⟩ ⟨rfl, rfl, rfl⟩ ⟨rfl, rfl, rfl⟩ ⟨rfl, rfl, rfl⟩ ⟨rfl, rfl, rfl⟩ ⟨rfl, rfl, rfl⟩ ⟨rfl, rfl, rfl⟩ ⟨rfl, rfl, rfl⟩ ⟨rfl, rfl, rfl⟩ ⟨rfl, rfl, rfl⟩ ⟨rfl, rfl, rfl⟩ (by kernel_rfl) _ _ _ _ _ (by simp) w.heap.size rfl rfl rfl rfl rfl ⟨hn, hnh, hnr, HA2.out, HE4.out.keep (fun _ _ => rfl) (Below.refl _ _).drew, fun i hi => (HB4.out i hi).keep (Below.refl _ _).drew, fun i hi => ⟨HWE.out i hi, Nat.le_trans (HSZ.out.2.2.2.1 i hi).1 (by unfold maxLen; omega)⟩, HA3.out, HH4.out.keep (fun _ _ => rfl) (Below.refl _ _).drew, HWH.out, HA4.out, HR4.out.keep (fun _ _ => rfl) (Below.refl _ _).drew, fun i hi => (HRB4.out i hi).keep (Below.refl _ _).drew, fun i hi => Nat.le_trans (HSZ.out.2.2.2.2 i hi).1 (by unfold maxLen; omega), (HI4.out.keep (Below.refl _ _).drew).2⟩ ?_
  intro T' w' g C hF hbw e11 hgl hC hrp
  have hl := hF.lit e11
  clear hF e11
  revert hl
  simp only [Nat.reduceAdd, List.setIfInBounds_toArray, List.set_cons_succ, List.set_cons_zero]
  rintro ⟨u33, u34, u35, u36, u37, u38, u39, u40, u41, rfl⟩
  have hrp : Rpt (last D R nh) (fun i => (E i).delta) n (fun i => rc && mis rE rB nr (E i) (Bo i)) (!rc) b0 b1 b2 (.returned (.agg C)) := hrp
  have he := rpt_model hrp hn HLV.out
  injection he with he
  injection he with he
  have hbz := chain (Below.refl W4.heap.size W4).drew hbw
  have HI9 := Hid.mk' (HI4.out.keep hbz)
  have HC := Hid.mk' hC
  have HEQ := Hid.mk' he
  have HE9 := Hid.mk' (HE4.out.keep (fun _ _ => rfl) hbz)
  have HB9 : Hid (∀ i, i < n → BytesAt w' (S' i) (Bo i)) := Hid.mk' (fun i hi => (HB4.out i hi).keep hbz)
  have HH9 := Hid.mk' (HH4.out.keep (fun _ _ => rfl) hbz)
  have HR9 := Hid.mk' (HR4.out.keep (fun _ _ => rfl) hbz)
  have HRB9 : Hid (∀ i, i < nr → BytesAt w' (rS' i) (rB i)) := Hid.mk' (fun i hi => (HRB4.out i hi).keep hbz)
  clear hrp he hC hbz hbw hgl
  go_wp2_with fail
  have hIR : IsR C := by
    rw [HEQ.out]
    exact ⟨_, _, _, _, _, _, _, _, _, _, _, rfl⟩
  have HRL : Hid (∀ i, i < nr → (rS' i).l ≤ 1048576) := Hid.mk' (fun i hi => by
    rw [← (HRB9.out i hi).len, (HRB.out i hi).len]
    exact (HSZ.out.2.2.2.2 i hi).2)
  refine region11 C hIR (.slice ea' n ec') (.slice ha' nh hc') (.bool rc) (.slice ra' nr rc') b0 b1 b2 g w.heap.size _ _ _ _ _ _ _ _ _ _ rfl ⟨rfl, rfl, rfl⟩ ⟨rfl, rfl, rfl⟩ ⟨rfl, rfl, rfl⟩ ⟨rfl, rfl, rfl⟩ ⟨rfl, rfl, rfl⟩ ⟨rfl, rfl, rfl⟩ ⟨rfl, rfl, rfl⟩ ⟨rfl, rfl, rfl⟩ ⟨rfl, rfl, rfl⟩ (by kernel_rfl) _ _ _ _ _ (by simp) rfl rfl rfl rfl rfl rfl HC.out HI9.out.2 ?_ ?_
  · intro w2 hb2
    rw [HEQ.out]
    exact zzModel ea' eb' 0 n ec' ha' hb' 0 nh hc' rc ra' rb' 0 nr rc' b0 b1 b2 w2 hn hnh hnr HA2.out.at E S' Bo (HE9.out.keep (fun _ _ => rfl) hb2) (fun i hi => (HB9.out i hi).keep hb2) HA3.out.at D R (HH9.out.keep (fun _ _ => rfl) hb2) HA4.out.at rE rS' rB (HR9.out.keep (fun _ _ => rfl) hb2) (fun i hi => (HRB9.out i hi).keep hb2) HRL.out _ (fun i => rfl)
  · intro w2 hb2
    simp only [vals11, putL, List.setIfInBounds_toArray, List.set_cons_succ, List.set_cons_zero]
    go_wp2
    go_ret
    exact ⟨rfl, (HI9.out.keep hb2).1⟩
end Go.Proofs.Qxb6603057a
