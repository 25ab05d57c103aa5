/-
  THE REGION THAT CALLS 'audit.ZZCheck' (in both laws): it draws its order; by an invariant.
-/
import Derived.Test.Qxb6603057aOrders
import Derived.Test.Qxb6603057aPlain7
import Derived.Test.Qxb6603057aArgs
namespace Go.Proofs.Qxb6603057a
open Go.RowKit Go.Maps
theorem cf12 (vs : Array Value) (w : World) : (callFunc 12 vs).run Try.prog w = .ok (.enter 12 vs) w := by kernel_rfl
theorem cf13 (vs : Array Value) (w : World) : (callFunc 13 vs).run Try.prog w = .ok (.enter 13 vs) w := by kernel_rfl
theorem cf14 (vs : Array Value) (w : World) : (callFunc 14 vs).run Try.prog w = .ok (.enter 14 vs) w := by kernel_rfl
theorem cf15 (vs : Array Value) (w : World) : (callFunc 15 vs).run Try.prog w = .ok (.enter 15 vs) w := by kernel_rfl
section
variable {o : Oper} {a : Act} {w : World} {K : Act → World → Prop} {Q : Exit → Act → World → Prop}
theorem opCall (f : Nat) (hf : ∀ vs w, (callFunc f vs).run Try.prog w = .ok (.enter f vs) w) (xs : Array Operand) (ats : Array TypeId) (ho : o.op = .call { callee := .value (.func f), args := xs, argTypes := ats }) (vs : Array Value) (hv : xs.map a.eval = vs)
    (h : Calls Try.prog f vs w fun e w' => ∃ v, e = .returned v ∧ K (a.put o.dst v) w') : o.wp Try.prog a w K Q := by
  unfold Oper.wp
  simp [execOp, ho, hv, go_sem]
  rw [hf]
  refine h.mono ?_
  rintro e w' ⟨v, rfl, hk⟩
  exact hk
theorem opAlloc (ho : o.op = .alloc 34) (h : K (a.put o.dst (.pointer (some ⟨w.heap.size, 0, none⟩))) (w.alloc (.cells (rArr 0 0 0 0 0 0 false 0 0 0 0) 34))) : o.wp Try.prog a w K Q := by
  unfold Oper.wp
  simp [execOp, ho, go_sem]
  exact h
end
/-- T' is T but for the region's slots. -/
def Fr (s : Nat) (T T' : Array Value) : Prop := T'.size = T.size ∧ ∀ k, (k < s ∨ s + 9 ≤ k) → k ≠ 11 → T'[k]? = T[k]?
theorem Fr.set {s : Nat} {T T' : Array Value} (h : Fr s T T') {k : Nat} (hk : (s ≤ k ∧ k < s + 9) ∨ k = 11) (v : Value) : Fr s T (T'.setIfInBounds k v) :=
  ⟨by simp [h.1], fun j hj hj' => by rw [Array.getElem?_setIfInBounds_ne (by omega)]; exact h.2 j hj hj'⟩
theorem chain {A X Y : World} (h : Below A.heap.size A X) (hb : Below X.heap.size X Y) : Below A.heap.size A Y := h.trans (hb.mono h.size)
theorem getD_set {l : Array Bool} {i j : Nat} (hi : i < l.size) : (l.setIfInBounds i true).getD j false = if j = i then true else l.getD j false := by
  simp only [Array.getD_eq_getD_getElem?, Array.getElem?_setIfInBounds]
  by_cases e : i = j
  · subst e; simp [hi]
  · rw [if_neg e, if_neg (fun h => e h.symm)]
/-- What the region works on. -/
structure ZC where
  ea : Option Addr
  ec : Nat
  eb : Nat
  n : Nat
  ha : Option Addr
  hc : Nat
  hb : Nat
  nh : Nat
  rc : Bool
  ra : Option Addr
  rcp : Nat
  rb : Nat
  nr : Nat
  b0 : Int
  b1 : Int
  b2 : Int
  E : Nat → Ent
  S : Nat → Sl
  Bo : Nat → Option (List UInt8)
  D : Nat → Int
  R : Nat → Int
  rE : Nat → Rp
  rS : Nat → Sl
  rB : Nat → Option (List UInt8)
def ZC.rp (c : ZC) (C : Array Value) : Prop := Rpt (last c.D c.R c.nh) (fun i => (c.E i).delta) c.n (fun i => c.rc && mis c.rE c.rB c.nr (c.E i) (c.Bo i)) (!c.rc) c.b0 c.b1 c.b2 (.returned (.agg C))
theorem ZC.rp_shape {c : ZC} {C : Array Value} (h : c.rp C) : C.size = 11 ∧ C.all (·.oneCell') = true := by
  obtain ⟨_, _, _, _, _, e⟩ := Rpt.shape h
  injection e with e
  injection e with e
  rw [e]
  exact ⟨rfl, by simp [rArr, Value.oneCell']⟩
/-- What stands in the world w0 in which the region begins. -/
structure ZC.Ok (c : ZC) (w0 : World) (g9 : Nat) : Prop where
  hn : c.n ≤ 4096
  hnh : c.nh ≤ 4096
  hnr : c.nr ≤ 4096
  aE : ArgS c.ea c.eb 0 c.n c.ec
  hE : HoldsAt w0 c.eb 0 c.n 12 fun i => entCells (c.E i) (c.S i)
  hB : ∀ i, i < c.n → BytesAt w0 (c.S i) (c.Bo i)
  wE : ∀ i, i < c.n → (Lit.int .i64 (c.E i).delta).wf = true ∧ (c.E i).key.size ≤ maxLen
  aH : ArgS c.ha c.hb 0 c.nh c.hc
  hH : HoldsAt w0 c.hb 0 c.nh 2 fun i => rowCells (c.D i) (c.R i)
  wH : ∀ i, i < c.nh → (Lit.int .i64 (c.D i)).wf = true ∧ (Lit.int .i64 (c.R i)).wf = true
  aR : ArgS c.ra c.rb 0 c.nr c.rcp
  hR : HoldsAt w0 c.rb 0 c.nr 3 fun i => repCells (c.rE i) (c.rS i)
  hrB : ∀ i, i < c.nr → BytesAt w0 (c.rS i) (c.rB i)
  wR : ∀ i, i < c.nr → (c.rE i).key.size ≤ maxLen
  bal : w0.heap[g9]? = some (.cells #[.int .i64 c.b0, .int .i64 c.b1, .int .i64 c.b2] 25 (0, 0))
/-- What operation i has left. -/
def ZC.fact (c : ZC) (s : Nat) (w0 : World) (l : Array Bool) (T : Array Value) (w : World) : Nat → Prop
  | 0 => T[s]? = some (.slice c.ea c.n c.ec)
  | 1 => l.getD 8 false = false → ∃ (a5 : Option Addr) (b5 c5 : Nat), T[s + 1]? = some (.slice a5 c.n c5) ∧ ArgS a5 b5 0 c.n c5 ∧ HoldsAt w b5 0 c.n 12 fun i => entCells (c.E i) (c.S i)
  | 2 => T[s + 2]? = some (.slice c.ha c.nh c.hc)
  | 3 => l.getD 8 false = false → ∃ (ho : Option Nat) (Dm : DataW Unit), T[s + 3]? = some (.map ho) ∧ MapO ho c.nh Dm w ∧ IntMap Dm (last c.D c.R c.nh)
  | 4 => T[s + 4]? = some (.bool c.rc)
  | 5 => T[s + 5]? = some (.slice c.ra c.nr c.rcp)
  | 6 => l.getD 8 false = false → ∃ (a7 : Option Addr) (b7 c7 : Nat), T[s + 6]? = some (.slice a7 c.nr c7) ∧ ArgS a7 b7 0 c.nr c7 ∧ HoldsAt w b7 0 c.nr 3 fun i => repCells (c.rE i) (c.rS i)
  | 7 => T[s + 7]? = some (.agg #[.int .i64 c.b0, .int .i64 c.b1, .int .i64 c.b2])
  | 8 => ∃ C, T[s + 8]? = some (.agg C) ∧ c.rp C
  | 9 => l.getD 10 false = false → ∃ (g : Nat) (C : Array Value), T[11]? = some (.pointer (some ⟨g, 0, none⟩)) ∧ w0.heap.size ≤ g ∧ w.heap[g]? = some (.cells C 34 (0, 0)) ∧ C.size = 11
  | _ => ∃ (g : Nat) (C : Array Value), T[11]? = some (.pointer (some ⟨g, 0, none⟩)) ∧ w0.heap.size ≤ g ∧ w.heap[g]? = some (.cells C 34 (0, 0)) ∧ c.rp C
def slotOf (s : Nat) (j : Nat) : Nat := if j < 9 then s + j else 11
theorem ZC.fact_mono {c : ZC} {s : Nat} {w0 : World} {l l' : Array Bool} {T T' : Array Value} {w w' : World} {j : Nat} (h : c.fact s w0 l T w j) (hT : T'[slotOf s j]? = T[slotOf s j]?) (hb : Below w.heap.size w w')
    (h8 : l'.getD 8 false = false → l.getD 8 false = false) (h10 : l'.getD 10 false = false → l.getD 10 false = false) : c.fact s w0 l' T' w' j := by
  match j, h, hT with
  | 0, h, hT => exact hT.trans h
  | 1, h, hT => exact fun h0 => by obtain ⟨a5, b5, c5, e1, e2, e3⟩ := h (h8 h0); exact ⟨a5, b5, c5, hT.trans e1, e2, e3.keep (fun _ _ => rfl) hb⟩
  | 2, h, hT => exact hT.trans h
  | 3, h, hT => exact fun h0 => by obtain ⟨ho, Dm, e1, e2, e3⟩ := h (h8 h0); exact ⟨ho, Dm, hT.trans e1, e2.keep hb, e3⟩
  | 4, h, hT => exact hT.trans h
  | 5, h, hT => exact hT.trans h
  | 6, h, hT => exact fun h0 => by obtain ⟨a5, b5, c5, e1, e2, e3⟩ := h (h8 h0); exact ⟨a5, b5, c5, hT.trans e1, e2, e3.keep (fun _ _ => rfl) hb⟩
  | 7, h, hT => exact hT.trans h
  | 8, h, hT => obtain ⟨C, e1, e2⟩ := h; exact ⟨C, hT.trans e1, e2⟩
  | 9, h, hT => exact fun h0 => by obtain ⟨g, C, e1, e2, e3, e4⟩ := h (h10 h0); exact ⟨g, C, hT.trans e1, e2, blk hb e3, e4⟩
  | k + 10, h, hT =>
    have e : slotOf s (k + 10) = 11 := if_neg (by omega)
    rw [e] at hT
    obtain ⟨g, C, e1, e2, e3, e4⟩ := h
    exact ⟨g, C, hT.trans e1, e2, blk hb e3, e4⟩

def IsOp (o : Oper) (d : Option Nat) (p : Op) : Prop := o.dst = d ∧ o.op = p ∧ o.guard = none
/-- The invariant. -/
def ZC.J (c : ZC) (s : Nat) (w0 : World) (T : Array Value) (df : List Deferred) (l : Array Bool) (a : Act) (w : World) : Prop :=
  l.size = 11 ∧ (l.getD 10 false = true → l.getD 9 false = true ∧ l.getD 8 false = true) ∧ ∃ T', a = { tmps := T', defers := df } ∧ Fr s T T' ∧ Below w0.heap.size w0 w ∧ ∀ j, j < 11 → l.getD j false = true → c.fact s w0 l T' w j
/-- One step that leaves a value v in slot i and a later world. -/
theorem ZC.J_step {c : ZC} {s : Nat} {w0 : World} {T : Array Value} {df : List Deferred} {l : Array Bool} {T' : Array Value} {w : World} (hs : 11 < s) (hsz : l.size = 11) (h10 : l.getD 10 false = true → l.getD 9 false = true ∧ l.getD 8 false = true) (hF : Fr s T T') (hb : Below w0.heap.size w0 w) (hf : ∀ j, j < 11 → l.getD j false = true → c.fact s w0 l T' w j)
    {i : Nat} (hi : i < 10) (hni : l.getD i true = false) {v : Value} {w' : World} (hb' : Below w.heap.size w w') (hnew : c.fact s w0 (l.setIfInBounds i true) (T'.setIfInBounds (slotOf s i) v) w' i) :
    c.J s w0 T df (l.setIfInBounds i true) { tmps := T'.setIfInBounds (slotOf s i) v, defers := df } w' := by
  have hnf : l.getD i false = false := by
    rw [← hni]; simp only [Array.getD, show i < l.size by omega, dif_pos]
  refine ⟨by simp [hsz], fun h => ?_, _, rfl, hF.set (by unfold slotOf; split <;> omega) _, chain hb hb', fun j hj hlj => ?_⟩
  · rw [getD_set (by omega), if_neg (by omega)] at h
    have := h10 h
    rw [getD_set (by omega), getD_set (by omega)]
    refine ⟨by split <;> simp_all, by split <;> simp_all⟩
  · by_cases e : j = i
    · rw [e]; exact hnew
    · rw [getD_set (by omega), if_neg e] at hlj
      refine ZC.fact_mono (hf j hj hlj) ?_ hb' (fun h => ?_) (fun h => ?_)
      · rw [Array.getElem?_setIfInBounds_ne]
        unfold slotOf
        split
        · split
          · omega
          · omega
        · rename_i h9
          have hi9 : i = 9 := by omega
          split
          · omega
          · have hj10 : j = 10 := by omega
            rw [hj10] at hlj
            rw [hi9] at hnf
            rw [(h10 hlj).1] at hnf
            cases hnf
      · rw [getD_set (by omega)] at h
        split at h
        · cases h
        · exact h
      · rw [getD_set (by omega)] at h
        split at h
        · cases h
        · exact h

theorem evalAt (T : Array Value) (df : List Deferred) (k : Nat) {v : Value} (h : T[k]? = some v) : (Act.mk T df).eval (.tmp k) = v := by
  show T.getD k undef = v
  simp [Array.getD_eq_getD_getElem?, h]
theorem got {T : Array Value} {k : Nat} (v : Value) (h : k < T.size) : (T.setIfInBounds k v)[k]? = some v := by
  rw [Array.getElem?_setIfInBounds_self, if_pos h]
theorem below_setRow {w0 w : World} {g : Nat} (h : Below w0.heap.size w0 w) (hg : w0.heap.size ≤ g) (C : Array Value) : Below w0.heap.size w0 (w.setRow g C) :=
  ⟨h.os, h.tape, h.output, by rw [setRow_size]; exact h.size, fun k hk => by rw [setRow_other w g k C (by omega)]; exact h.block k hk⟩
/-- Operation i hangs on operation d. -/
def dep (ops : Array Oper) (i d : Nat) : Bool := ((ops[i]?).map fun o => o.after.any fun e => Region.binds .any e && e.on == d).getD false
theorem dep_listed {ops : Array Oper} {i d : Nat} {l : Array Bool} (h : dep ops i d = true) (hi : i ∈ Region.ready .any ops l) : l.getD d false = true := by
  have h1 := (List.mem_filter.1 hi).2
  unfold dep at h
  cases ho : ops[i]? with
  | none => rw [ho] at h; cases h
  | some o =>
    rw [ho] at h h1
    simp only [Option.map_some, Option.getD_some, Bool.and_eq_true] at h h1
    obtain ⟨j, hj, h2⟩ := Array.any_eq_true.1 h
    obtain ⟨e, he', rfl⟩ : ∃ e, e ∈ o.after ∧ o.after[j] = e := ⟨_, Array.getElem_mem hj, rfl⟩
    have he := he'
    have h3 := Array.all_eq_true_iff_forall_mem.1 h1.2 _ he
    simp only [Bool.and_eq_true, beq_iff_eq] at h2
    rw [h2.1, h2.2] at h3
    simpa using h3
def lowB (ops : Array Oper) : Bool := (List.range ops.size).all fun i => ((ops[i]?).map fun o => o.after.all fun e => decide (e.on < i)).getD true
theorem low_of {ops : Array Oper} (h : lowB ops = true) : ∀ (i : Nat) (o : Oper), ops[i]? = some o → ∀ e ∈ o.after, e.on < i := by
  intro i o ho e he
  have hi : i < ops.size := (Array.getElem?_eq_some_iff.1 ho).1
  have h1 := List.all_eq_true.1 h i (List.mem_range.2 hi)
  rw [ho] at h1
  simp only [Option.map_some, Option.getD_some] at h1
  simpa using Array.all_eq_true_iff_forall_mem.1 h1 e he
set_option maxHeartbeats 1000000 in
/-- THE REGION 'got := audit.ZZCheck(zzEntries(es), zzHistory(hist), recorded, zzReps(reps), balances)', WHATEVER THE ORDER. -/
theorem region_zz (c : ZC) (s : Nat) (hs : 11 < s) (ops : Array Oper) (o0 o1 o2 o3 o4 o5 o6 o7 o8 o9 o10 : Oper) (hops : ops = #[o0, o1, o2, o3, o4, o5, o6, o7, o8, o9, o10])
    (h0 : IsOp o0 (some s) (.move (.tmp 0))) (h1 : IsOp o1 (some (s + 1)) (.call { callee := .value (.func 13), args := #[.tmp s], argTypes := #[22] }))
    (h2 : IsOp o2 (some (s + 2)) (.move (.tmp 1))) (h3 : IsOp o3 (some (s + 3)) (.call { callee := .value (.func 14), args := #[.tmp (s + 2)], argTypes := #[23] }))
    (h4 : IsOp o4 (some (s + 4)) (.move (.tmp 2))) (h5 : IsOp o5 (some (s + 5)) (.move (.tmp 3))) (h6 : IsOp o6 (some (s + 6)) (.call { callee := .value (.func 15), args := #[.tmp (s + 5)], argTypes := #[24] }))
    (h7 : IsOp o7 (some (s + 7)) (.load 25 (.tmp 9))) (h8 : IsOp o8 (some (s + 8)) (.call { callee := .value (.func 12), args := #[.tmp (s + 1), .tmp (s + 3), .tmp (s + 4), .tmp (s + 6), .tmp (s + 7)], argTypes := #[36, 38, 4, 40, 25] }))
    (h9 : IsOp o9 (some 11) (.alloc 34)) (h10 : IsOp o10 none (.store 34 (.tmp 11) (.tmp (s + 8))))
    (hd : (dep ops 1 0 && dep ops 3 2 && dep ops 6 5 && dep ops 8 1 && dep ops 8 3 && dep ops 8 4 && dep ops 8 6 && dep ops 8 7 && dep ops 10 8 && dep ops 10 9 && lowB ops) = true)
    (id : Nat) (T : Array Value) (df : List Deferred) (w : World) (Q : Exit → Act → World → Prop) (hss : s + 9 ≤ T.size) (g9 : Nat)
    (t0 : T[0]? = some (.slice c.ea c.n c.ec)) (t1 : T[1]? = some (.slice c.ha c.nh c.hc)) (t2 : T[2]? = some (.bool c.rc)) (t3 : T[3]? = some (.slice c.ra c.nr c.rcp)) (t9 : T[9]? = some (.pointer (some ⟨g9, 0, none⟩)))
    (ok : c.Ok w.drew g9)
    (hQ : ∀ (T' : Array Value) (w' : World) (g : Nat) (C : Array Value), Fr s T T' → Below w.drew.heap.size w.drew w' → T'[11]? = some (.pointer (some ⟨g, 0, none⟩)) → w.drew.heap.size ≤ g → w'.heap[g]? = some (.cells C 34 (0, 0)) → c.rp C → Q .normal { tmps := T', defers := df } w') :
    (Code.region id ops true).wp Try.prog Q { tmps := T, defers := df } w := by
  simp only [Bool.and_eq_true] at hd
  obtain ⟨⟨⟨⟨⟨⟨⟨⟨⟨⟨x1, x2⟩, x3⟩, x4⟩, x5⟩, x6⟩, x7⟩, x8⟩, x9⟩, x10⟩, x11⟩ := hd
  have hlow := low_of x11
  have hos : ops.size = 11 := by rw [hops]; rfl
  refine wp_region_any (by kernel_rfl) (wpAny_inv (c.J s w.drew T df) (fun l a w h => by rw [h.1, hos]) ?_ ?_ _ _ _ _ ?_ ?_)
  · intro l a w1 ⟨hsz, h10', T', ha, hF, hb, hf⟩ i hi
    subst ha
    obtain ⟨hi11, hni⟩ := ready_lt hi
    rw [hos] at hi11
    have d1 : i = 1 → l.getD 0 false = true := fun e => by subst e; exact dep_listed x1 hi
    have d3 : i = 3 → l.getD 2 false = true := fun e => by subst e; exact dep_listed x2 hi
    have d6 : i = 6 → l.getD 5 false = true := fun e => by subst e; exact dep_listed x3 hi
    have d8 : i = 8 → l.getD 1 false = true ∧ l.getD 3 false = true ∧ l.getD 4 false = true ∧ l.getD 6 false = true ∧ l.getD 7 false = true := fun e => by
      subst e; exact ⟨dep_listed x4 hi, dep_listed x5 hi, dep_listed x6 hi, dep_listed x7 hi, dep_listed x8 hi⟩
    have d10 : i = 10 → l.getD 8 false = true ∧ l.getD 9 false = true := fun e => by subst e; exact ⟨dep_listed x9 hi, dep_listed x10 hi⟩
    have hsT : T'.size = T.size := hF.1
    have f0 : T'[0]? = some (.slice c.ea c.n c.ec) := (hF.2 0 (by omega) (by omega)).trans t0
    have f1 : T'[1]? = some (.slice c.ha c.nh c.hc) := (hF.2 1 (by omega) (by omega)).trans t1
    have f2 : T'[2]? = some (.bool c.rc) := (hF.2 2 (by omega) (by omega)).trans t2
    have f3 : T'[3]? = some (.slice c.ra c.nr c.rcp) := (hF.2 3 (by omega) (by omega)).trans t3
    have f9 : T'[9]? = some (.pointer (some ⟨g9, 0, none⟩)) := (hF.2 9 (by omega) (by omega)).trans t9
    have hstep := fun (i : Nat) (hi : i < 10) (hni : l.getD i true = false) (v : Value) (w' : World) (hb' : Below w1.heap.size w1 w') (hnew) => ZC.J_step (c := c) (df := df) hs hsz h10' hF hb hf hi hni (v := v) hb' hnew
    have hop : ∀ o, ops[i]? = some o → o.guard = none → o.wp Try.prog { tmps := T', defers := df } w1 (c.J s w.drew T df (l.setIfInBounds i true)) Q → wpOp Try.prog ops Q i (c.J s w.drew T df (l.setIfInBounds i true)) { tmps := T', defers := df } w1 := fun o ho hg h => by
      unfold wpOp
      rw [ho]
      simp only [Region.wanted, hg, if_true]
      exact Or.inl h
    have hl8 : i = 8 → l.getD 8 false = false := fun e => by subst e; rw [← hni]; simp only [Array.getD, show 8 < l.size by omega, dif_pos]
    have hl10 : i = 10 → l.getD 10 false = false := fun e => by subst e; rw [← hni]; simp only [Array.getD, show 10 < l.size by omega, dif_pos]
    have hcases : i = 0 ∨ i = 1 ∨ i = 2 ∨ i = 3 ∨ i = 4 ∨ i = 5 ∨ i = 6 ∨ i = 7 ∨ i = 8 ∨ i = 9 ∨ i = 10 := by omega
    rcases hcases with rfl | rfl | rfl | rfl | rfl | rfl | rfl | rfl | rfl | rfl | rfl
    · refine hop o0 (by rw [hops]; rfl) h0.2.2 (BigFrame.wp_move _ h0.2.1 ?_)
      rw [h0.1, evalAt _ _ _ f0]
      exact hstep 0 (by omega) hni _ _ (Below.refl _ _) (got (k := s) _ (by omega))
    · refine hop o1 (by rw [hops]; rfl) h1.2.2 (opCall 13 cf13 _ _ h1.2.1 #[.slice c.ea c.n c.ec] ?_ ?_)
      · simp only [List.map_toArray, List.map_cons, List.map_nil]
        rw [evalAt _ _ _ (hf 0 (by omega) (d1 rfl))]
      · refine (entriesA ok.aE w1 ok.hn c.E c.S (ok.hE.keep (fun _ _ => rfl) hb)).mono ?_
        rintro e w' ⟨a5, b5, c5, rfl, e1, e2, e3⟩
        refine ⟨_, rfl, ?_⟩
        rw [h1.1]
        exact hstep 1 (by omega) hni _ _ e3 (fun _ => ⟨a5, b5, c5, got (k := s + 1) _ (by omega), e1, e2⟩)
    · refine hop o2 (by rw [hops]; rfl) h2.2.2 (BigFrame.wp_move _ h2.2.1 ?_)
      rw [h2.1, evalAt _ _ _ f1]
      exact hstep 2 (by omega) hni _ _ (Below.refl _ _) (got (k := s + 2) _ (by omega))
    · refine hop o3 (by rw [hops]; rfl) h3.2.2 (opCall 14 cf14 _ _ h3.2.1 #[.slice c.ha c.nh c.hc] ?_ ?_)
      · simp only [List.map_toArray, List.map_cons, List.map_nil]
        rw [evalAt _ _ _ (hf 2 (by omega) (d3 rfl))]
      · refine (historyA ok.aH w1 ok.hnh c.D c.R (ok.hH.keep (fun _ _ => rfl) hb) ok.wH).mono ?_
        rintro e w' ⟨ho, Dm, rfl, e1, e2, e3⟩
        refine ⟨_, rfl, ?_⟩
        rw [h3.1]
        exact hstep 3 (by omega) hni _ _ e3 (fun _ => ⟨ho, Dm, got (k := s + 3) _ (by omega), e1, e2⟩)
    · refine hop o4 (by rw [hops]; rfl) h4.2.2 (BigFrame.wp_move _ h4.2.1 ?_)
      rw [h4.1, evalAt _ _ _ f2]
      exact hstep 4 (by omega) hni _ _ (Below.refl _ _) (got (k := s + 4) _ (by omega))
    · refine hop o5 (by rw [hops]; rfl) h5.2.2 (BigFrame.wp_move _ h5.2.1 ?_)
      rw [h5.1, evalAt _ _ _ f3]
      exact hstep 5 (by omega) hni _ _ (Below.refl _ _) (got (k := s + 5) _ (by omega))
    · refine hop o6 (by rw [hops]; rfl) h6.2.2 (opCall 15 cf15 _ _ h6.2.1 #[.slice c.ra c.nr c.rcp] ?_ ?_)
      · simp only [List.map_toArray, List.map_cons, List.map_nil]
        rw [evalAt _ _ _ (hf 5 (by omega) (d6 rfl))]
      · refine (repsA ok.aR w1 ok.hnr c.rE c.rS (ok.hR.keep (fun _ _ => rfl) hb)).mono ?_
        rintro e w' ⟨a5, b5, c5, rfl, e1, e2, e3⟩
        refine ⟨_, rfl, ?_⟩
        rw [h6.1]
        exact hstep 6 (by omega) hni _ _ e3 (fun _ => ⟨a5, b5, c5, got (k := s + 6) _ (by omega), e1, e2⟩)
    · refine hop o7 (by rw [hops]; rfl) h7.2.2 (wp_load_row 25 (.tmp 9) h7.2.1 g9 (evalAt _ _ _ f9) 25 _ (0, 0) _ (blk hb ok.bal) Try.underlying25 rfl (by kernel_rfl) ?_)
      rw [h7.1]
      exact hstep 7 (by omega) hni _ _ (Below.refl _ _) (got (k := s + 7) _ (by omega))
    · obtain ⟨l1, l3, l4, l6, l7⟩ := d8 rfl
      obtain ⟨a5, b5, c5, p1, p2, p3⟩ := hf 1 (by omega) l1 (hl8 rfl)
      obtain ⟨ho, Dm, p4, p5, p6⟩ := hf 3 (by omega) l3 (hl8 rfl)
      obtain ⟨a7, b7, c7, p7, p8, p9⟩ := hf 6 (by omega) l6 (hl8 rfl)
      refine hop o8 (by rw [hops]; rfl) h8.2.2 (opCall 12 cf12 _ _ h8.2.1 #[.slice a5 c.n c5, .map ho, .bool c.rc, .slice a7 c.nr c7, .agg #[.int .i64 c.b0, .int .i64 c.b1, .int .i64 c.b2]] ?_ ?_)
      · simp only [List.map_toArray, List.map_cons, List.map_nil]
        rw [evalAt _ _ _ p1, evalAt _ _ _ p4, evalAt _ _ _ p7, evalAt _ _ _ (hf 4 (by omega) l4), evalAt _ _ _ (hf 7 (by omega) l7)]
      · refine (zzCheck a5 b5 0 c.n c5 ho c.rc a7 b7 0 c.nr c7 c.b0 c.b1 c.b2 w1 ok.hn ok.hnr c.nh Dm (last c.D c.R c.nh) p5 p6 (last_bound (fun i hi => (ok.wH i hi).2)) p2.at c.E c.S c.Bo p3 (fun i hi => (ok.hB i hi).keep hb) ok.wE p8.at c.rE c.rS c.rB p9 (fun i hi => (ok.hrB i hi).keep hb) ok.wR (fun i => c.rc && mis c.rE c.rB c.nr (c.E i) (c.Bo i)) (fun i => rfl)).mono ?_
        rintro e w' ⟨hR, hb8⟩
        obtain ⟨vH, vD, vL, vO, vS, rfl⟩ := hR.shape
        refine ⟨_, rfl, ?_⟩
        rw [h8.1]
        exact hstep 8 (by omega) hni _ _ hb8 ⟨_, got (k := s + 8) _ (by omega), hR⟩
    · refine hop o9 (by rw [hops]; rfl) h9.2.2 (opAlloc h9.2.1 ?_)
      rw [h9.1]
      exact hstep 9 (by omega) hni _ _ (below_new w1 _) (fun _ => ⟨w1.heap.size, _, got (k := 11) _ (by omega), hb.size, newB _ _ _, rfl⟩)
    · obtain ⟨l8, l9⟩ := d10 rfl
      obtain ⟨C, e1, e2⟩ := hf 8 (by omega) l8
      obtain ⟨g, C', e3, e4, e5, e6⟩ := hf 9 (by omega) l9 (hl10 rfl)
      obtain ⟨hC1, hC2⟩ := c.rp_shape e2
      refine hop o10 (by rw [hops]; rfl) h10.2.2 (wp_store_row 34 (.tmp 11) (.tmp (s + 8)) h10.2.1 g C (evalAt _ _ _ e3) (evalAt _ _ _ e1) 34 C' e5 (by rw [hC1]; kernel_rfl) (by omega) hC2 ?_)
      rw [h10.1]
      have hl' : ∀ j, j < 11 → j ≠ 10 → (l.setIfInBounds 10 true).getD j false = true → l.getD j false = true := fun j _ hj h => by
        rw [getD_set (by omega), if_neg hj] at h; exact h
      have hl8' : (l.setIfInBounds 10 true).getD 8 false = true := by rw [getD_set (by omega), if_neg (by omega)]; exact l8
      have hl10' : (l.setIfInBounds 10 true).getD 10 false = true := by rw [getD_set (by omega), if_pos rfl]
      refine ⟨by simp [hsz], fun _ => ⟨by rw [getD_set (by omega), if_neg (by omega)]; exact l9, hl8'⟩, T', rfl, hF, below_setRow hb e4 C, fun j hj hlj => ?_⟩
      match j, hj, hlj with
      | 0, hj, hlj => exact hf 0 hj (hl' 0 hj (by omega) hlj)
      | 1, _, _ => exact fun h => by rw [hl8'] at h; cases h
      | 2, hj, hlj => exact hf 2 hj (hl' 2 hj (by omega) hlj)
      | 3, _, _ => exact fun h => by rw [hl8'] at h; cases h
      | 4, hj, hlj => exact hf 4 hj (hl' 4 hj (by omega) hlj)
      | 5, hj, hlj => exact hf 5 hj (hl' 5 hj (by omega) hlj)
      | 6, _, _ => exact fun h => by rw [hl8'] at h; cases h
      | 7, hj, hlj => exact hf 7 hj (hl' 7 hj (by omega) hlj)
      | 8, hj, hlj => exact hf 8 hj (hl' 8 hj (by omega) hlj)
      | 9, _, _ => exact fun h => by rw [hl10'] at h; cases h
      | 10, _, _ => exact ⟨g, C, e3, e4, setRow_heap _ _ _ _ _ _ e5, e2⟩
      | k + 11, hj, _ => omega
  · intro l a w1 ⟨hsz, h10', T', ha, hF, hb, hf⟩ hr
    subst ha
    have hall := all_listed hlow (by rw [hsz, hos]) hr
    rw [hos] at hall
    obtain ⟨g, C, e1, e2, e3, e4⟩ := hf 10 (by omega) (hall 10 (by omega))
    exact hQ T' w1 g C hF hb e1 e2 e3 e4
  · refine ⟨by rw [hos]; rfl, fun h => ?_, T, rfl, ⟨rfl, fun _ _ _ => rfl⟩, Below.refl _ _, fun j hj h => ?_⟩
    · rw [hos] at h; exact absurd h (by decide)
    · rw [hos] at h
      exfalso
      revert h
      rw [Array.getD_eq_getD_getElem?]
      simp [hj]
  · rw [toCome_new]; exact Nat.le_refl _
/-- The frame behind the region, written out. -/
theorem Fr.lit {s : Nat} {T T' : Array Value} {p : Value} (h : Fr s T T') (hp : T'[11]? = some p) : ∃ u0 u1 u2 u3 u4 u5 u6 u7 u8 : Value,
    T' = (((((((((T.setIfInBounds s u0).setIfInBounds (s + 1) u1).setIfInBounds (s + 2) u2).setIfInBounds (s + 3) u3).setIfInBounds (s + 4) u4).setIfInBounds (s + 5) u5).setIfInBounds (s + 6) u6).setIfInBounds (s + 7) u7).setIfInBounds (s + 8) u8).setIfInBounds 11 p := by
  refine ⟨T'.getD s undef, T'.getD (s + 1) undef, T'.getD (s + 2) undef, T'.getD (s + 3) undef, T'.getD (s + 4) undef, T'.getD (s + 5) undef, T'.getD (s + 6) undef, T'.getD (s + 7) undef, T'.getD (s + 8) undef, ?_⟩
  apply Array.ext_getElem?
  intro k
  have hsz := h.1
  by_cases hk : k < T.size
  · have hget : ∀ j, j < T.size → T'[j]? = some (T'[j]?.getD undef) := fun j hj => by
      rw [Array.getElem?_eq_getElem (by omega)]; rfl
    simp only [Array.getElem?_setIfInBounds, Array.size_setIfInBounds, Array.getD_eq_getD_getElem?]
    by_cases e11 : k = 11
    · subst e11
      rw [if_pos rfl, if_pos hk]; exact hp
    · rw [if_neg (fun e => e11 e.symm)]
      by_cases hr : k < s ∨ s + 9 ≤ k
      · rw [if_neg (by omega), if_neg (by omega), if_neg (by omega), if_neg (by omega), if_neg (by omega), if_neg (by omega), if_neg (by omega), if_neg (by omega), if_neg (by omega)]
        exact h.2 k hr e11
      · have hc : k = s ∨ k = s + 1 ∨ k = s + 2 ∨ k = s + 3 ∨ k = s + 4 ∨ k = s + 5 ∨ k = s + 6 ∨ k = s + 7 ∨ k = s + 8 := by omega
        rcases hc with rfl | rfl | rfl | rfl | rfl | rfl | rfl | rfl | rfl <;> simp [hk] <;> exact hget _ hk
  · rw [Array.getElem?_eq_none (by omega), Array.getElem?_eq_none (by simp; omega)]
end Go.Proofs.Qxb6603057a
