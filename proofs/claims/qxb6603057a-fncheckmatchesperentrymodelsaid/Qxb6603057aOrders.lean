/-
  A REGION THAT DRAWS ITS ORDER, BY AN INVARIANT: one proof an operation, whatever the order.
-/
import Derived.Orders
import Derived.Tactics
namespace Go.Proofs.Qxb6603057a
open Go

/-- How many operations are still to come. -/
def toCome (l : Array Bool) : Nat := l.toList.countP fun b => !b
theorem toCome_set {l : Array Bool} {i : Nat} (hi : i < l.size) (h : l.getD i true = false) : toCome (l.setIfInBounds i true) + 1 = toCome l := by
  obtain ⟨L⟩ := l
  unfold toCome
  simp only [List.size_toArray] at hi
  have h' : L[i] = false := by
    simpa [Array.getD, hi] using h
  simp only [List.setIfInBounds_toArray]
  clear h
  induction L generalizing i with
  | nil => simp at hi
  | cons b L ih =>
    cases i with
    | zero => simp at h'; simp [h']
    | succ i =>
      simp only [List.length_cons] at hi
      have hi' : i < L.length := by omega
      have := ih hi' (by simpa using h')
      simp only [List.set_cons_succ, List.countP_cons]
      omega
section
variable {P : Program} {ops : Array Oper} {Q : Exit → Act → World → Prop} {md : Region.Mode}
theorem ready_lt {l : Array Bool} {i : Nat} (h : i ∈ Region.ready md ops l) : i < ops.size ∧ l.getD i true = false := by
  have h1 := List.mem_filter.1 h
  refine ⟨List.mem_range.1 h1.1, ?_⟩
  have h2 := h1.2
  cases hq : l.getD i true with
  | false => rfl
  | true => rw [hq] at h2; simp at h2
theorem none_come {l : Array Bool} (hs : l.size = ops.size) (h : toCome l = 0) : Region.ready md ops l = [] := by
  apply List.eq_nil_iff_forall_not_mem.2
  intro i hi
  obtain ⟨h1, h2⟩ := ready_lt hi
  have := toCome_set (by omega) h2
  omega
/-- THE RULE. -/
theorem wpAny_inv (J : Array Bool → Act → World → Prop) (hsz : ∀ l a w, J l a w → l.size = ops.size)
    (hstep : ∀ l a w, J l a w → ∀ i ∈ Region.ready md ops l, wpOp P ops Q i (J (l.setIfInBounds i true)) a w)
    (hend : ∀ l a w, J l a w → Region.ready md ops l = [] → Q .normal a w) :
    ∀ (fuel : Nat) (l : Array Bool) (a : Act) (w : World), J l a w → toCome l ≤ fuel → wpAny P md ops Q fuel l a w
  | 0, l, a, w, hJ, hf => by
    have h0 : Region.ready md ops l = [] := none_come (hsz _ _ _ hJ) (by omega)
    exact ⟨h0, hend l a w hJ h0⟩
  | fuel + 1, l, a, w, hJ, hf => by
    refine ⟨fun h0 => hend l a w hJ h0, fun i hi => ?_⟩
    refine wpOp_mono (fun a' w' hJ' => wpAny_inv J hsz hstep hend fuel _ a' w' hJ' ?_) (hstep l a w hJ i hi)
    obtain ⟨h1, h2⟩ := ready_lt hi
    have := toCome_set (by rw [hsz _ _ _ hJ]; exact h1) h2
    omega
theorem toCome_new (n : Nat) : toCome (Array.replicate n false) = n := by
  unfold toCome
  rw [Array.toList_replicate]
  induction n with
  | zero => rfl
  | succ n ih => rw [List.replicate_succ, List.countP_cons, ih]; simp
/-- Where every operation hangs on earlier ones alone: none ready, all listed. -/
theorem all_listed {l : Array Bool} (hlt : ∀ (i : Nat) (o : Oper), ops[i]? = some o → ∀ e ∈ o.after, e.on < i) (hs : l.size = ops.size) (hr : Region.ready md ops l = []) : ∀ i, i < ops.size → l.getD i false = true := by
  intro i
  induction i using Nat.strongRecOn with
  | _ i ih =>
    intro hi
    by_cases hq : l.getD i false = true
    · exact hq
    · exfalso
      have hq' : l.getD i true = false := by
        have e : l.getD i true = l.getD i false := by simp only [Array.getD, show i < l.size by omega, dif_pos]
        rw [e]; simpa using hq
      have hm : i ∈ Region.ready md ops l := by
        refine List.mem_filter.2 ⟨List.mem_range.2 hi, ?_⟩
        rw [hq', Array.getElem?_eq_getElem hi]
        simp only [Bool.not_false, Bool.true_and, Option.map_some, Option.getD_some]
        rw [Array.all_eq_true_iff_forall_mem]
        intro e he
        have h1 := hlt i _ (Array.getElem?_eq_getElem hi) e he
        rw [ih e.on h1 (by omega)]
        simp
      rw [hr] at hm
      cases hm
end
end Go.Proofs.Qxb6603057a
