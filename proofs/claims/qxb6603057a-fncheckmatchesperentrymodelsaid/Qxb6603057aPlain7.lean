/-
  PLAIN LAWS, for FnCheckCountsBounded: the counts' bounds.
-/
import Derived.Test.Qxb6603057aZzcheck
import Derived.Test.Qxb6603057aBounds
namespace Go.Proofs.Qxb6603057a
open Go.RowKit Go.Maps

theorem sumA_add (f g : Int → Int) (K : List Int) : sumA (fun x => f x + g x) K = sumA f K + sumA g K := by
  induction K with
  | nil => rfl
  | cons x K ih => simp only [sumA]; rw [ih]; omega
theorem sumA_mono {f g : Int → Int} {K : List Int} (h : ∀ x ∈ K, f x ≤ g x) : sumA f K ≤ sumA g K := by
  induction K with
  | nil => exact Int.le_refl _
  | cons x K ih =>
    simp only [sumA]
    have h1 := h x (List.mem_cons_self ..)
    have h2 := ih (fun y hy => h y (List.mem_cons_of_mem _ hy))
    omega
theorem sumA_zero {f : Int → Int} {K : List Int} (h : ∀ x ∈ K, f x = 0) : sumA f K = 0 := by
  induction K with
  | nil => rfl
  | cons x K ih =>
    simp only [sumA]
    rw [h x (List.mem_cons_self ..), ih (fun y hy => h y (List.mem_cons_of_mem _ hy))]
    rfl
theorem sumA_one (d : Int) (c : Int) (K : List Int) (hn : K.Nodup) (hd : d ∈ K) : sumA (fun x => if d = x then c else 0) K = c := by
  rw [sumA_erase _ d K hd, if_pos rfl, sumA_zero (fun x hx => ?_), Int.add_zero]
  have : x ≠ d := ((List.Nodup.mem_erase_iff hn).1 hx).1
  exact if_neg (fun e => this e.symm)
theorem cnt_pos (D : Nat → Int) (n i : Nat) (h : i < n) : cnt D n (D i) ≠ 0 := by
  induction n with
  | zero => omega
  | succ n ih =>
    rw [cnt]
    by_cases e : i = n
    · subst e; simp
    · have := ih (by omega); split <;> omega
theorem sum_cnt_of (D : Nat → Int) (n : Nat) (K : List Int) (hn : K.Nodup) (h : ∀ i, i < n → D i ∈ K) : sumA (fun x => (cnt D n x : Int)) K = n := by
  induction n with
  | zero => exact sumA_zero (fun x _ => rfl)
  | succ n ih =>
    have e : sumA (fun x => (cnt D (n + 1) x : Int)) K = sumA (fun x => (cnt D n x : Int) + (if D n = x then 1 else 0)) K := sumA_congr (fun x _ => by
      rw [cnt]; split <;> simp)
    rw [e, sumA_add, ih (fun i hi => h i (by omega)), sumA_one _ _ _ hn (h n (by omega))]
    simp
theorem sum_cnt (D : Nat → Int) (n : Nat) (K : List Int) (hn : K.Nodup) (hm : ∀ x, x ∈ K ↔ cnt D n x ≠ 0) : sumA (fun x => (cnt D n x : Int)) K = n :=
  sum_cnt_of D n K hn (fun i hi => (hm _).2 (cnt_pos D n i hi))
theorem wrap_id {a : Int} (h0 : -9223372036854775808 ≤ a) (h1 : a ≤ 9223372036854775807) : wrap64 a = a := by unfold wrap64; omega
theorem g_bounds (c : Nat) (r : Int) : 0 ≤ (if (c : Int) < r then min (c : Int) (r - c) else 0) ∧ (if (c : Int) < r then min (c : Int) (r - c) else 0) ≤ c ∧ 0 ≤ (if (c : Int) < r then 0 else (c : Int) - r) ∧ (0 ≤ r → (if (c : Int) < r then min (c : Int) (r - c) else 0) + (if (c : Int) < r then 0 else (c : Int) - r) ≤ c) := by
  split <;> omega
theorem rpt_bounds {fh : Int → Option Int} {D : Nat → Int} {n : Nat} {M : Nat → Bool} {nrec : Bool} {b0 b1 b2 : Int} {e : Ending} (h : Rpt fh D n M nrec b0 b1 b2 e) (hn : n ≤ 4096) :
    ∃ vH vD vL vO vS : Int, e = .returned (.agg (rArr n vH vD vL vO (mcnt M n : Nat) nrec b0 b1 b2 vS)) ∧ 0 ≤ vD ∧ vD ≤ n ∧ ((∀ x, 0 ≤ (fh x).getD 0) → 0 ≤ vL ∧ vD + vL ≤ n) := by
  obtain ⟨KH, KS, h1, h2, h3, h4, h5⟩ := h
  have hs := sum_cnt D n KS h3 h4
  have hd0 : 0 ≤ sumA (fun x => if (cnt D n x : Int) < (fh x).getD 0 then min (cnt D n x : Int) ((fh x).getD 0 - cnt D n x) else 0) KS := by
    have := sumA_mono (f := fun _ => 0) (g := fun x => if (cnt D n x : Int) < (fh x).getD 0 then min (cnt D n x : Int) ((fh x).getD 0 - cnt D n x) else 0) (K := KS) (fun x _ => (g_bounds _ _).1)
    rw [sumA_zero (f := fun _ => 0) (fun _ _ => rfl)] at this
    exact this
  have hd1 : sumA (fun x => if (cnt D n x : Int) < (fh x).getD 0 then min (cnt D n x : Int) ((fh x).getD 0 - cnt D n x) else 0) KS ≤ n := by
    rw [← hs]
    exact sumA_mono (fun x _ => (g_bounds _ _).2.1)
  refine ⟨_, _, _, _, _, h5, ?_, ?_, fun hp => ?_⟩
  · rw [wrap_id (by omega) (by omega)]; exact hd0
  · rw [wrap_id (by omega) (by omega)]; exact hd1
  · have hl0 : 0 ≤ sumA (fun x => if (cnt D n x : Int) < (fh x).getD 0 then 0 else (cnt D n x : Int) - (fh x).getD 0) KS := by
      have := sumA_mono (f := fun _ => 0) (g := fun x => if (cnt D n x : Int) < (fh x).getD 0 then 0 else (cnt D n x : Int) - (fh x).getD 0) (K := KS) (fun x _ => (g_bounds _ _).2.2.1)
      rw [sumA_zero (f := fun _ => 0) (fun _ _ => rfl)] at this
      exact this
    have hl1 : sumA (fun x => if (cnt D n x : Int) < (fh x).getD 0 then min (cnt D n x : Int) ((fh x).getD 0 - cnt D n x) else 0) KS + sumA (fun x => if (cnt D n x : Int) < (fh x).getD 0 then 0 else (cnt D n x : Int) - (fh x).getD 0) KS ≤ n := by
      rw [← hs, ← sumA_add]
      exact sumA_mono (fun x _ => (g_bounds _ _).2.2.2 (hp x))
    rw [wrap_id (by omega) (by omega), wrap_id (by omega) (by omega)]
    exact ⟨hl0, hl1⟩
theorem mcnt_none {M : Nat → Bool} (h : ∀ i, M i = false) (n : Nat) : mcnt M n = 0 := by
  induction n with
  | zero => rfl
  | succ n ih => rw [mcnt, h, ih]; rfl
/-- A held row is the last of its delta. -/
theorem last_live {D R : Nat → Int} {n : Nat} (h : ∀ i, i < n → R i < 0 → supB D n i = true) (x : Int) : 0 ≤ (last D R n x).getD 0 := by
  have key : ∀ k, k ≤ n → (∀ j, k ≤ j → j < n → D j ≠ x) → 0 ≤ (last D R k x).getD 0 := by
    intro k
    induction k with
    | zero => intro _ _; exact Int.le_refl _
    | succ k ih =>
      intro hk hj
      rw [last]
      by_cases e : D k = x
      · rw [if_pos e]
        show 0 ≤ R k
        by_cases hr : R k < 0
        · obtain ⟨j, h1, h2, h3⟩ := supB_iff.1 (h k (by omega) hr)
          exact absurd (h3.trans e) (hj j (by omega) h1)
        · omega
      · rw [if_neg e]
        exact ih (by omega) (fun j h1 h2 => by
          by_cases ej : j = k
          · rw [ej]; exact e
          · exact hj j (by omega) h2)
  exact key n (Nat.le_refl _) (fun j h1 h2 => by omega)
theorem last_bound {D R : Nat → Int} {n : Nat} (h : ∀ i, i < n → (Lit.int .i64 (R i)).wf = true) (x : Int) : -9223372036854775808 ≤ (last D R n x).getD 0 ∧ (last D R n x).getD 0 ≤ 9223372036854775807 := by
  induction n with
  | zero => exact ⟨by show (_ : Int) ≤ 0; decide, by show (0 : Int) ≤ _; decide⟩
  | succ n ih =>
    rw [last]
    split
    · have := h n (by omega)
      simp [Lit.wf, IntKind.min, IntKind.max, IntKind.signed, IntKind.bits] at this
      exact this
    · exact ih (fun i hi => h i (by omega))
end Go.Proofs.Qxb6603057a
