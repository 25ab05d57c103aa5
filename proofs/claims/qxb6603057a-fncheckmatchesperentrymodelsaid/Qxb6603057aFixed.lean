/-
  REGIONS THAT DRAW THEIR ORDER AND WHOSE VALUES ARE FIXED: whatever the order, slot for slot one value ('region_val'). The model's test 'is the entry mismatched' (region13).
-/
import Derived.Test.Qxb6603057aModelCalls
import Derived.Test.Qxb6603057aRegion
namespace Go.Proofs.Qxb6603057a
open Go.RowKit Go.Maps

/-- T' is T but for the region's slots. -/
def Out (sl : Nat → Nat) (m : Nat) (T T' : Array Value) : Prop := T'.size = T.size ∧ ∀ k, (∀ i, i < m → sl i ≠ k) → T'[k]? = T[k]?
/-- THE RULE: every operation, wherever it stands, leaves its one value and a later world. -/
theorem region_val (m : Nat) (ops : Array Oper) (hos : ops.size = m) (hlow : lowB ops = true) (sl : Nat → Nat) (hinj : ∀ i j, i < m → j < m → sl i = sl j → i = j) (V : Nat → Value)
    (id : Nat) (T : Array Value) (df : List Deferred) (w : World) (Q : Exit → Act → World → Prop) (hsl : ∀ i, i < m → sl i < T.size)
    (hstep : ∀ i, i < m → ∀ (T' : Array Value) (w' : World), Out sl m T T' → Below w.drew.heap.size w.drew w' → (∀ d, dep ops i d = true → T'[sl d]? = some (V d)) →
      wpOp Try.prog ops Q i (fun a'' w'' => a'' = { tmps := T'.setIfInBounds (sl i) (V i), defers := df } ∧ Below w'.heap.size w' w'') { tmps := T', defers := df } w')
    (hQ : ∀ (T' : Array Value) (w' : World), Out sl m T T' → (∀ j, j < m → T'[sl j]? = some (V j)) → Below w.drew.heap.size w.drew w' → Q .normal { tmps := T', defers := df } w') :
    (Code.region id ops true).wp Try.prog Q { tmps := T, defers := df } w := by
  have hlo := low_of hlow
  refine wp_region_any (by kernel_rfl) (wpAny_inv (fun l a w' => l.size = m ∧ ∃ T', a = { tmps := T', defers := df } ∧ Out sl m T T' ∧ Below w.drew.heap.size w.drew w' ∧ ∀ j, j < m → l.getD j false = true → T'[sl j]? = some (V j)) (fun l a w h => by rw [h.1, hos]) ?_ ?_ _ _ _ _ ?_ ?_)
  · rintro l a w1 ⟨hsz, T', rfl, hO, hb, hf⟩ i hi
    obtain ⟨him, hni⟩ := ready_lt hi
    rw [hos] at him
    have hdeps : ∀ d, dep ops i d = true → T'[sl d]? = some (V d) := fun d hd => by
      refine hf d ?_ (dep_listed hd hi)
      unfold dep at hd
      cases ho : ops[i]? with
      | none => rw [ho] at hd; cases hd
      | some o =>
        rw [ho] at hd
        simp only [Option.map_some, Option.getD_some] at hd
        obtain ⟨j, hj, h2⟩ := Array.any_eq_true.1 hd
        simp only [Bool.and_eq_true, beq_iff_eq] at h2
        have := hlo i o ho _ (Array.getElem_mem hj)
        omega
    refine wpOp_mono ?_ (hstep i him T' w1 hO hb hdeps)
    rintro a2 w2 ⟨rfl, hb2⟩
    have hT : sl i < T'.size := by rw [hO.1]; exact hsl i him
    refine ⟨by simp [hsz], _, rfl, ⟨by simp [hO.1], fun k hk => ?_⟩, chain hb hb2, fun j hj hlj => ?_⟩
    · rw [Array.getElem?_setIfInBounds_ne (hk i him)]; exact hO.2 k hk
    · by_cases e : j = i
      · rw [e]; exact got _ hT
      · rw [getD_set (by omega), if_neg e] at hlj
        rw [Array.getElem?_setIfInBounds_ne (fun h => e (hinj _ _ him hj h).symm)]
        exact hf j hj hlj
  · rintro l a w1 ⟨hsz, T', rfl, hO, hb, hf⟩ hr
    have hall := all_listed hlo (by rw [hsz, hos]) hr
    rw [hos] at hall
    exact hQ T' w1 hO (fun j hj => hf j hj (hall j hj)) hb
  · refine ⟨by simp [hos], T, rfl, ⟨rfl, fun _ _ => rfl⟩, Below.refl _ _, fun j hj h => ?_⟩
    exfalso
    revert h
    rw [Array.getD_eq_getD_getElem?]
    simp [hos, hj]
  · rw [toCome_new]; exact Nat.le_refl _

section
variable {o : Oper} {a : Act} {w : World} {K : Act → World → Prop} {Q : Exit → Act → World → Prop}
theorem opVal (v : Value) (h : (execOp a.eval o).run Try.prog w = .ok (.value v) w) (hk : K (a.put o.dst v) w) : o.wp Try.prog a w K Q := by
  unfold Oper.wp; rw [h]; exact hk
theorem opNot (x : Operand) (t : TypeId) (ho : o.op = .unOp .not t x) (b : Bool) (hx : a.eval x = .bool b) (hk : K (a.put o.dst (.bool !b)) w) : o.wp Try.prog a w K Q :=
  opVal _ (by unfold execOp; simp only [ho, hx]; simp [go_sem]) hk
theorem opPick (x y z : Operand) (ho : o.op = .pick x y z) (v : Value) (hx : a.eval x = .bool false) (hz : a.eval z = v) (hk : K (a.put o.dst v) w) : o.wp Try.prog a w K Q :=
  opVal _ (by unfold execOp; simp only [ho, hx, hz]; simp [go_sem]) hk
theorem opIndex24 (x y : Operand) (ho : o.op = .indexAddr 24 x y) (b off n c j : Nat) (hx : a.eval x = .slice (some ⟨b, off, none⟩) n c) (hy : a.eval y = .int .i64 j) (hj : j < n) (hk : K (a.put o.dst (.pointer (some ⟨b, off + j * 3, none⟩))) w) : o.wp Try.prog a w K Q :=
  opVal _ (by
    have h0 : (0 : Int) ≤ (j : Int) := by omega
    have h1 : (j : Int) < (n : Int) := by omega
    unfold execOp; simp only [ho, hx, hy]; simp [go_sem, h0, h1]) hk
theorem opField47 (x : Operand) (f : Nat) (ho : o.op = .fieldAddr 47 x f) (b off : Nat) (hx : a.eval x = .pointer (some ⟨b, off, none⟩)) (hf : f = 1 ∨ f = 2) (hk : K (a.put o.dst (.pointer (some ⟨b, off + f, none⟩))) w) : o.wp Try.prog a w K Q := by
  rcases hf with rfl | rfl
  · exact opVal _ (by unfold execOp; simp only [ho, hx]; simp [go_sem]) hk
  · exact opVal _ (by unfold execOp; simp only [ho, hx]; simp [go_sem]) hk
theorem opField45 (x : Operand) (ho : o.op = .fieldAddr 45 x 6) (b : Nat) (hx : a.eval x = .pointer (some ⟨b, 0, none⟩)) (hk : K (a.put o.dst (.pointer (some ⟨b, 6, none⟩))) w) : o.wp Try.prog a w K Q :=
  opVal _ (by unfold execOp; simp only [ho, hx]; simp [go_sem]) hk
theorem opLoad3 (x : Operand) (ho : o.op = .load 3 x) (p : Addr) (v : Value) (hx : a.eval x = .pointer (some p)) (hc : w.cell? p = some v) (hk : K (a.put o.dst v) w) : o.wp Try.prog a w K Q :=
  opVal _ (by unfold execOp; simp only [ho, hx]; simp [go_sem, hc]) hk
theorem opLoad43 (x : Operand) (ho : o.op = .load 43 x) (p : Addr) (v : Value) (hx : a.eval x = .pointer (some p)) (hc : w.cell? p = some v) (hk : K (a.put o.dst v) w) : o.wp Try.prog a w K Q :=
  opVal _ (by unfold execOp; simp only [ho, hx]; simp [go_sem, hc]) hk
theorem opNeq (x y : Operand) (ho : o.op = .binOp .neq 3 x y 3) (i j : Int) (hx : a.eval x = .int .i64 i) (hy : a.eval y = .int .i64 j) (hk : K (a.put o.dst (.bool (i != j))) w) : o.wp Try.prog a w K Q :=
  opVal _ (by unfold execOp; simp only [ho, hx, hy]; simp [go_sem]) hk
end
def IsOpG (o : Oper) (d : Option Nat) (p : Op) (g : Option (Nat × Bool)) : Prop := o.dst = d ∧ o.op = p ∧ o.guard = g
theorem cf24 (vs : Array Value) (w : World) : (callFunc 24 vs).run Try.prog w = .ok (.enter 24 vs) w := by kernel_rfl
theorem cf16 (vs : Array Value) (w : World) : (callFunc 16 vs).run Try.prog w = .ok (.enter 16 vs) w := by kernel_rfl
theorem wantN {ops : Array Oper} {o : Oper} {T : Array Value} (hg : o.guard = none) : Region.wanted o (yielded ops T) = true := by simp only [Region.wanted, hg]
theorem wantG {ops : Array Oper} {o og : Oper} {T : Array Value} {gi d : Nat} {b : Bool} (hg : o.guard = some (gi, b)) (ho : ops[gi]? = some og) (hd : og.dst = some d) (hT : T[d]? = some (.bool b)) : Region.wanted o (yielded ops T) = true := by
  simp only [Region.wanted, hg, yielded, ho, hd, hT, Option.bind_some]
  simp
theorem wpOp_of {ops : Array Oper} {Q : Exit → Act → World → Prop} {i : Nat} {K : Act → World → Prop} {T : Array Value} {df : List Deferred} {w : World} (o : Oper) (ho : ops[i]? = some o) (hw : Region.wanted o (yielded ops T) = true) (h : o.wp Try.prog { tmps := T, defers := df } w K Q) : wpOp Try.prog ops Q i K { tmps := T, defers := df } w := by
  unfold wpOp
  rw [ho]
  simp only [hw, if_true]
  exact Or.inl h
/-- The frame behind such a region, written out. -/
theorem out_putL {s m : Nat} {T T' : Array Value} {L : List Value} (h : Out (fun i => s + i) m T T') (hL : L.length = m) (hs : s + m ≤ T.size) (hv : ∀ j, j < m → T'[s + j]? = some (L.getD j undef)) : T' = putL T s L := by
  apply Array.ext_getElem?
  intro k
  by_cases hk : k < s ∨ s + m ≤ k
  · rw [putL_out _ _ _ _ (by omega), h.2 k (fun i hi => by show s + i ≠ k; omega)]
  · obtain ⟨f, rfl⟩ : ∃ f, k = s + f := ⟨k - s, by omega⟩
    rw [putL_in _ _ _ _ (by omega) (by omega), hv f (by omega), List.getElem?_eq_getElem (by omega)]
    simp [List.getD, show f < L.length by omega]
theorem ecell {w : World} {g : Nat} {e : Ent} {s : Sl} (hg : w.heap[g]? = some (.cells (entCells e s).toArray 45 (0, 0))) :
    w.cell? ⟨g, 0, none⟩ = some (.string e.key) ∧ w.cell? ⟨g, 1, none⟩ = some (.string e.req) ∧ w.cell? ⟨g, 2, none⟩ = some (.int .i64 e.aid) ∧ w.cell? ⟨g, 3, none⟩ = some (.int .i64 e.tid) ∧ w.cell? ⟨g, 4, none⟩ = some (.int .i64 e.bid) ∧ w.cell? ⟨g, 5, none⟩ = some (.int .i64 e.delta) ∧
    w.cell? ⟨g, 6, none⟩ = some (.int .i64 e.status) ∧ w.cell? ⟨g, 7, none⟩ = some (.string e.body) ∧ w.cell? ⟨g, 8, none⟩ = some (.slice s.a s.l s.c) ∧ w.cell? ⟨g, 9, none⟩ = some (.bool e.replayed) ∧ w.cell? ⟨g, 10, none⟩ = some (.int .i64 e.tries) ∧ w.cell? ⟨g, 11, none⟩ = some (.string e.url) :=
  ⟨cellB hg 0, cellB hg 1, cellB hg 2, cellB hg 3, cellB hg 4, cellB hg 5, cellB hg 6, cellB hg 7, cellB hg 8, cellB hg 9, cellB hg 10, cellB hg 11⟩
theorem zzSameBody' (s : Sl) (ob : Option (List UInt8)) (e : Ent) (t : Sl) (o : Option (List UInt8)) (w : World) (q : Bool) (hq : (ob.getD [] == o.getD e.body.data.toList) = q) (hn : s.l ≤ 1048576) (hs : BytesAt w s ob) (ht : BytesAt w t o) :
    Calls Try.prog 24 #[.slice s.a s.l s.c, .agg (entCells e t).toArray] w fun r w' => r = .returned (.bool q) ∧ Below w.heap.size w w' := by
  subst hq; exact zzSameBody s ob e t o w hn hs ht
/-- What the slots 59 to 80 hold behind the test, where the key has a reply, of the entry's own status. -/
def vals13 (rb ro nr rcap j : Nat) (st : Int) (rs : Sl) (g : Nat) (e : Ent) (s : Sl) (q : Bool) : List Value :=
  [.bool true, .bool false, .bool false, .slice (some ⟨rb, ro, none⟩) nr rcap, .int .i64 j, .pointer (some ⟨rb, ro + j * 3, none⟩), .pointer (some ⟨rb, ro + j * 3 + 1, none⟩), .int .i64 st, .pointer (some ⟨g, 6, none⟩), .int .i64 e.status, .bool false, .bool false, .bool false, .slice (some ⟨rb, ro, none⟩) nr rcap, .int .i64 j, .pointer (some ⟨rb, ro + j * 3, none⟩), .pointer (some ⟨rb, ro + j * 3 + 2, none⟩), .slice rs.a rs.l rs.c, .agg (entCells e s).toArray, .bool q, .bool !q, .bool !q]
/-- What hangs on what. -/
def deps13 : List (Nat × Nat) := [(1, 0), (2, 1), (3, 2), (4, 2), (5, 3), (5, 4), (5, 2), (6, 5), (6, 2), (7, 6), (7, 2), (8, 2), (9, 8), (9, 2), (10, 7), (10, 9), (10, 2), (11, 2), (11, 10), (12, 11), (13, 12), (14, 12), (15, 13), (15, 14), (15, 12), (16, 15), (16, 12), (17, 16), (17, 12), (18, 12), (19, 17), (19, 18), (19, 12), (20, 19), (20, 12), (21, 12), (21, 20)]
set_option maxHeartbeats 2000000 in
/-- THE TEST '!ok || reps[j].Status != e.Status || !zzSameBody(reps[j].Body, e)', WHATEVER THE ORDER, where ok and the two are one status. -/
theorem region13 (rb ro nr rcap j : Nat) (hj : j < nr) (st : Int) (rs : Sl) (rbo : Option (List UInt8)) (g : Nat) (e : Ent) (s : Sl) (bo : Option (List UInt8)) (q : Bool) (hst : st = e.status) (hq : (rbo.getD [] == bo.getD e.body.data.toList) = q) (hrl : rs.l ≤ 1048576)
    (ops : Array Oper) (o0 o1 o2 o3 o4 o5 o6 o7 o8 o9 o10 o11 o12 o13 o14 o15 o16 o17 o18 o19 o20 o21 : Oper) (hops : ops = #[o0, o1, o2, o3, o4, o5, o6, o7, o8, o9, o10, o11, o12, o13, o14, o15, o16, o17, o18, o19, o20, o21])
    (h0 : IsOpG o0 (some 59) (.move (.tmp 15)) none)
    (h1 : IsOpG o1 (some 60) (.unOp .not 4 (.tmp 59)) none)
    (h2 : IsOpG o2 (some 61) (.move (.tmp 60)) none)
    (h3 : IsOpG o3 (some 62) (.move (.tmp 3)) (some (2, false)))
    (h4 : IsOpG o4 (some 63) (.move (.tmp 14)) (some (2, false)))
    (h5 : IsOpG o5 (some 64) (.indexAddr 24 (.tmp 62) (.tmp 63)) (some (2, false)))
    (h6 : IsOpG o6 (some 65) (.fieldAddr 47 (.tmp 64) 1) (some (2, false)))
    (h7 : IsOpG o7 (some 66) (.load 3 (.tmp 65)) (some (2, false)))
    (h8 : IsOpG o8 (some 67) (.fieldAddr 45 (.tmp 13) 6) (some (2, false)))
    (h9 : IsOpG o9 (some 68) (.load 3 (.tmp 67)) (some (2, false)))
    (h10 : IsOpG o10 (some 69) (.binOp .neq 3 (.tmp 66) (.tmp 68) 3) (some (2, false)))
    (h11 : IsOpG o11 (some 70) (.pick (.tmp 61) (.const (.bool true)) (.tmp 69)) none)
    (h12 : IsOpG o12 (some 71) (.move (.tmp 70)) none)
    (h13 : IsOpG o13 (some 72) (.move (.tmp 3)) (some (12, false)))
    (h14 : IsOpG o14 (some 73) (.move (.tmp 14)) (some (12, false)))
    (h15 : IsOpG o15 (some 74) (.indexAddr 24 (.tmp 72) (.tmp 73)) (some (12, false)))
    (h16 : IsOpG o16 (some 75) (.fieldAddr 47 (.tmp 74) 2) (some (12, false)))
    (h17 : IsOpG o17 (some 76) (.load 43 (.tmp 75)) (some (12, false)))
    (h18 : IsOpG o18 (some 77) (.load 45 (.tmp 13)) (some (12, false)))
    (h19 : IsOpG o19 (some 78) (.call { callee := .value (.func 24), args := #[.tmp 76, .tmp 77], argTypes := #[43, 45] }) (some (12, false)))
    (h20 : IsOpG o20 (some 79) (.unOp .not 4 (.tmp 78)) (some (12, false)))
    (h21 : IsOpG o21 (some 80) (.pick (.tmp 71) (.const (.bool true)) (.tmp 79)) none)
    (hd : (deps13.all (fun p => dep ops p.1 p.2) && lowB ops) = true)
    (id : Nat) (T : Array Value) (df : List Deferred) (w : World) (Q : Exit → Act → World → Prop) (hss : 81 ≤ T.size)
    (t3 : T[3]? = some (.slice (some ⟨rb, ro, none⟩) nr rcap)) (t13 : T[13]? = some (.pointer (some ⟨g, 0, none⟩))) (t14 : T[14]? = some (.int .i64 j)) (t15 : T[15]? = some (.bool true))
    (c1 : w.cell? ⟨rb, ro + j * 3 + 1, none⟩ = some (.int .i64 st)) (c2 : w.cell? ⟨rb, ro + j * 3 + 2, none⟩ = some (.slice rs.a rs.l rs.c)) (hg : w.heap[g]? = some (.cells (entCells e s).toArray 45 (0, 0))) (hB1 : BytesAt w rs rbo) (hB2 : BytesAt w s bo)
    (hQ : ∀ w', Below w.heap.size w w' → Q .normal { tmps := putL T 59 (vals13 rb ro nr rcap j st rs g e s q), defers := df } w') :
    (Code.region id ops true).wp Try.prog Q { tmps := T, defers := df } w := by
  simp only [Bool.and_eq_true] at hd
  obtain ⟨x1, x2⟩ := hd
  have D : ∀ i d : Nat, (i, d) ∈ deps13 → dep ops i d = true := fun i d h => List.all_eq_true.1 x1 (i, d) h
  refine region_val 22 ops (by rw [hops]; rfl) x2 (fun i => 59 + i) (fun i j _ _ h => by simpa using h) (fun i => (vals13 rb ro nr rcap j st rs g e s q).getD i undef) id T df w Q (fun i hi => by show 59 + i < _; omega) ?_ ?_
  · intro i hi T' w1 hO hb0 hdp
    have hb : Below w.heap.size w w1 := chain (Below.refl _ _).drew hb0
    have f3 := (hO.2 3 (fun i _ => by show 59 + i ≠ 3; omega)).trans t3
    have f13 := (hO.2 13 (fun i _ => by show 59 + i ≠ 13; omega)).trans t13
    have f14 := (hO.2 14 (fun i _ => by show 59 + i ≠ 14; omega)).trans t14
    have f15 := (hO.2 15 (fun i _ => by show 59 + i ≠ 15; omega)).trans t15
    have hcases : i = 0 ∨ i = 1 ∨ i = 2 ∨ i = 3 ∨ i = 4 ∨ i = 5 ∨ i = 6 ∨ i = 7 ∨ i = 8 ∨ i = 9 ∨ i = 10 ∨ i = 11 ∨ i = 12 ∨ i = 13 ∨ i = 14 ∨ i = 15 ∨ i = 16 ∨ i = 17 ∨ i = 18 ∨ i = 19 ∨ i = 20 ∨ i = 21 := by omega
    rcases hcases with rfl | rfl | rfl | rfl | rfl | rfl | rfl | rfl | rfl | rfl | rfl | rfl | rfl | rfl | rfl | rfl | rfl | rfl | rfl | rfl | rfl | rfl
    · refine wpOp_of o0 (by rw [hops]; rfl) (wantN h0.2.2) ?_
      refine BigFrame.wp_move _ h0.2.1 ?_
      rw [h0.1, evalAt _ _ _ f15]
      exact ⟨rfl, Below.refl _ _⟩
    · refine wpOp_of o1 (by rw [hops]; rfl) (wantN h1.2.2) ?_
      exact opNot _ _ h1.2.1 true (evalAt _ _ _ (hdp 0 (D 1 0 (by decide)))) (by rw [h1.1]; exact ⟨rfl, Below.refl _ _⟩)
    · refine wpOp_of o2 (by rw [hops]; rfl) (wantN h2.2.2) ?_
      refine BigFrame.wp_move _ h2.2.1 ?_
      rw [h2.1, evalAt _ _ _ (hdp 1 (D 2 1 (by decide)))]
      exact ⟨rfl, Below.refl _ _⟩
    · refine wpOp_of o3 (by rw [hops]; rfl) (wantG h3.2.2 (show ops[2]? = some o2 by rw [hops]; rfl) h2.1 (hdp 2 (D 3 2 (by decide)))) ?_
      refine BigFrame.wp_move _ h3.2.1 ?_
      rw [h3.1, evalAt _ _ _ f3]
      exact ⟨rfl, Below.refl _ _⟩
    · refine wpOp_of o4 (by rw [hops]; rfl) (wantG h4.2.2 (show ops[2]? = some o2 by rw [hops]; rfl) h2.1 (hdp 2 (D 4 2 (by decide)))) ?_
      refine BigFrame.wp_move _ h4.2.1 ?_
      rw [h4.1, evalAt _ _ _ f14]
      exact ⟨rfl, Below.refl _ _⟩
    · refine wpOp_of o5 (by rw [hops]; rfl) (wantG h5.2.2 (show ops[2]? = some o2 by rw [hops]; rfl) h2.1 (hdp 2 (D 5 2 (by decide)))) ?_
      exact opIndex24 _ _ h5.2.1 rb ro nr rcap j (evalAt _ _ _ (hdp 3 (D 5 3 (by decide)))) (evalAt _ _ _ (hdp 4 (D 5 4 (by decide)))) hj (by rw [h5.1]; exact ⟨rfl, Below.refl _ _⟩)
    · refine wpOp_of o6 (by rw [hops]; rfl) (wantG h6.2.2 (show ops[2]? = some o2 by rw [hops]; rfl) h2.1 (hdp 2 (D 6 2 (by decide)))) ?_
      exact opField47 _ 1 h6.2.1 rb (ro + j * 3) (evalAt _ _ _ (hdp 5 (D 6 5 (by decide)))) (Or.inl rfl) (by rw [h6.1]; exact ⟨rfl, Below.refl _ _⟩)
    · refine wpOp_of o7 (by rw [hops]; rfl) (wantG h7.2.2 (show ops[2]? = some o2 by rw [hops]; rfl) h2.1 (hdp 2 (D 7 2 (by decide)))) ?_
      exact opLoad3 _ h7.2.1 _ (.int .i64 st) (evalAt _ _ _ (hdp 6 (D 7 6 (by decide)))) (keep hb c1) (by rw [h7.1]; exact ⟨rfl, Below.refl _ _⟩)
    · refine wpOp_of o8 (by rw [hops]; rfl) (wantG h8.2.2 (show ops[2]? = some o2 by rw [hops]; rfl) h2.1 (hdp 2 (D 8 2 (by decide)))) ?_
      exact opField45 _ h8.2.1 g (evalAt _ _ _ f13) (by rw [h8.1]; exact ⟨rfl, Below.refl _ _⟩)
    · refine wpOp_of o9 (by rw [hops]; rfl) (wantG h9.2.2 (show ops[2]? = some o2 by rw [hops]; rfl) h2.1 (hdp 2 (D 9 2 (by decide)))) ?_
      exact opLoad3 _ h9.2.1 _ (.int .i64 e.status) (evalAt _ _ _ (hdp 8 (D 9 8 (by decide)))) (keep hb (ecell hg).2.2.2.2.2.2.1) (by rw [h9.1]; exact ⟨rfl, Below.refl _ _⟩)
    · refine wpOp_of o10 (by rw [hops]; rfl) (wantG h10.2.2 (show ops[2]? = some o2 by rw [hops]; rfl) h2.1 (hdp 2 (D 10 2 (by decide)))) ?_
      exact opNeq _ _ h10.2.1 st e.status (evalAt _ _ _ (hdp 7 (D 10 7 (by decide)))) (evalAt _ _ _ (hdp 9 (D 10 9 (by decide)))) (by rw [h10.1, hst, show (e.status != e.status) = false by simp]; exact ⟨rfl, Below.refl _ _⟩)
    · refine wpOp_of o11 (by rw [hops]; rfl) (wantN h11.2.2) ?_
      exact opPick _ _ _ h11.2.1 (.bool false) (evalAt _ _ _ (hdp 2 (D 11 2 (by decide)))) (evalAt _ _ _ (hdp 10 (D 11 10 (by decide)))) (by rw [h11.1]; exact ⟨rfl, Below.refl _ _⟩)
    · refine wpOp_of o12 (by rw [hops]; rfl) (wantN h12.2.2) ?_
      refine BigFrame.wp_move _ h12.2.1 ?_
      rw [h12.1, evalAt _ _ _ (hdp 11 (D 12 11 (by decide)))]
      exact ⟨rfl, Below.refl _ _⟩
    · refine wpOp_of o13 (by rw [hops]; rfl) (wantG h13.2.2 (show ops[12]? = some o12 by rw [hops]; rfl) h12.1 (hdp 12 (D 13 12 (by decide)))) ?_
      refine BigFrame.wp_move _ h13.2.1 ?_
      rw [h13.1, evalAt _ _ _ f3]
      exact ⟨rfl, Below.refl _ _⟩
    · refine wpOp_of o14 (by rw [hops]; rfl) (wantG h14.2.2 (show ops[12]? = some o12 by rw [hops]; rfl) h12.1 (hdp 12 (D 14 12 (by decide)))) ?_
      refine BigFrame.wp_move _ h14.2.1 ?_
      rw [h14.1, evalAt _ _ _ f14]
      exact ⟨rfl, Below.refl _ _⟩
    · refine wpOp_of o15 (by rw [hops]; rfl) (wantG h15.2.2 (show ops[12]? = some o12 by rw [hops]; rfl) h12.1 (hdp 12 (D 15 12 (by decide)))) ?_
      exact opIndex24 _ _ h15.2.1 rb ro nr rcap j (evalAt _ _ _ (hdp 13 (D 15 13 (by decide)))) (evalAt _ _ _ (hdp 14 (D 15 14 (by decide)))) hj (by rw [h15.1]; exact ⟨rfl, Below.refl _ _⟩)
    · refine wpOp_of o16 (by rw [hops]; rfl) (wantG h16.2.2 (show ops[12]? = some o12 by rw [hops]; rfl) h12.1 (hdp 12 (D 16 12 (by decide)))) ?_
      exact opField47 _ 2 h16.2.1 rb (ro + j * 3) (evalAt _ _ _ (hdp 15 (D 16 15 (by decide)))) (Or.inr rfl) (by rw [h16.1]; exact ⟨rfl, Below.refl _ _⟩)
    · refine wpOp_of o17 (by rw [hops]; rfl) (wantG h17.2.2 (show ops[12]? = some o12 by rw [hops]; rfl) h12.1 (hdp 12 (D 17 12 (by decide)))) ?_
      exact opLoad43 _ h17.2.1 _ (.slice rs.a rs.l rs.c) (evalAt _ _ _ (hdp 16 (D 17 16 (by decide)))) (keep hb c2) (by rw [h17.1]; exact ⟨rfl, Below.refl _ _⟩)
    · refine wpOp_of o18 (by rw [hops]; rfl) (wantG h18.2.2 (show ops[12]? = some o12 by rw [hops]; rfl) h12.1 (hdp 12 (D 18 12 (by decide)))) ?_
      refine wp_load_row 45 (.tmp 13) h18.2.1 g (evalAt _ _ _ f13) 45 _ (0, 0) _ (blk hb hg) Try.underlying45 rfl (by kernel_rfl) ?_
      rw [h18.1]
      exact ⟨rfl, Below.refl _ _⟩
    · refine wpOp_of o19 (by rw [hops]; rfl) (wantG h19.2.2 (show ops[12]? = some o12 by rw [hops]; rfl) h12.1 (hdp 12 (D 19 12 (by decide)))) ?_
      refine opCall 24 cf24 _ _ h19.2.1 #[.slice rs.a rs.l rs.c, .agg (entCells e s).toArray] ?_ ?_
      · simp only [List.map_toArray, List.map_cons, List.map_nil]
        rw [evalAt _ _ _ (hdp 17 (D 19 17 (by decide))), evalAt _ _ _ (hdp 18 (D 19 18 (by decide)))]
        rfl
      · refine (zzSameBody' rs rbo e s bo w1 q hq hrl (hB1.keep hb) (hB2.keep hb)).mono ?_
        rintro r w' ⟨rfl, hbw⟩
        refine ⟨_, rfl, ?_⟩
        rw [h19.1]
        exact ⟨rfl, hbw⟩
    · refine wpOp_of o20 (by rw [hops]; rfl) (wantG h20.2.2 (show ops[12]? = some o12 by rw [hops]; rfl) h12.1 (hdp 12 (D 20 12 (by decide)))) ?_
      exact opNot _ _ h20.2.1 q (evalAt _ _ _ (hdp 19 (D 20 19 (by decide)))) (by rw [h20.1]; exact ⟨rfl, Below.refl _ _⟩)
    · refine wpOp_of o21 (by rw [hops]; rfl) (wantN h21.2.2) ?_
      exact opPick _ _ _ h21.2.1 (.bool !q) (evalAt _ _ _ (hdp 12 (D 21 12 (by decide)))) (evalAt _ _ _ (hdp 20 (D 21 20 (by decide)))) (by rw [h21.1]; exact ⟨rfl, Below.refl _ _⟩)
  · intro T' w' hO hv hb
    rw [out_putL hO rfl (by omega) hv]
    exact hQ w' (chain (Below.refl _ _).drew hb)
end Go.Proofs.Qxb6603057a
