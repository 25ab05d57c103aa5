/-
  PLAIN LAWS, for FnCheckMatchesPerEntryModel: the model's sums over the live rows and its counts entry by entry are the Report's.
-/
import Derived.Test.Qxb6603057aPlain7
namespace Go.Proofs.Qxb6603057a
open Go.RowKit Go.Maps

/-- The sum of g over those of the first k rows that no later row supersedes. -/
def lsum (D : Nat → Int) (n : Nat) (g : Nat → Int) : Nat → Int
  | 0 => 0
  | k + 1 => lsum D n g k + if supB D n k then 0 else g k
theorem lsum_congr {D : Nat → Int} {n : Nat} {g g' : Nat → Int} (k : Nat) (h : ∀ i, i < k → supB D n i = false → g i = g' i) : lsum D n g k = lsum D n g' k := by
  induction k with
  | zero => rfl
  | succ k ih =>
    rw [lsum, lsum, ih (fun i hi => h i (by omega))]
    cases hs : supB D n k with
    | true => rfl
    | false => rw [h k (by omega) hs]
/-- The deltas of the live rows. -/
def liveK (D : Nat → Int) (n : Nat) : Nat → List Int
  | 0 => []
  | k + 1 => if supB D n k then liveK D n k else D k :: liveK D n k
theorem mem_liveK {D : Nat → Int} {n : Nat} (k : Nat) (x : Int) : x ∈ liveK D n k ↔ ∃ i, i < k ∧ D i = x ∧ supB D n i = false := by
  induction k with
  | zero => simp [liveK]
  | succ k ih =>
    rw [liveK]
    cases hs : supB D n k with
    | true =>
      rw [if_pos rfl, ih]
      constructor
      · rintro ⟨i, h1, h2, h3⟩; exact ⟨i, by omega, h2, h3⟩
      · rintro ⟨i, h1, h2, h3⟩
        have : i ≠ k := fun e => by rw [e, hs] at h3; cases h3
        exact ⟨i, by omega, h2, h3⟩
    | false =>
      rw [if_neg (by decide), List.mem_cons, ih]
      constructor
      · rintro (h | ⟨i, h1, h2, h3⟩)
        · exact ⟨k, by omega, h.symm, hs⟩
        · exact ⟨i, by omega, h2, h3⟩
      · rintro ⟨i, h1, h2, h3⟩
        by_cases e : i = k
        · subst e; exact Or.inl h2.symm
        · exact Or.inr ⟨i, by omega, h2, h3⟩
theorem nodup_liveK {D : Nat → Int} {n : Nat} (k : Nat) (hk : k ≤ n) : (liveK D n k).Nodup := by
  induction k with
  | zero => exact List.nodup_nil
  | succ k ih =>
    rw [liveK]
    cases hs : supB D n k with
    | true => rw [if_pos rfl]; exact ih (by omega)
    | false =>
      rw [if_neg (by decide), List.nodup_cons]
      refine ⟨fun hm => ?_, ih (by omega)⟩
      obtain ⟨i, h1, h2, h3⟩ := (mem_liveK k _).1 hm
      have := supB_iff (D := D) (n := n) (i := i) |>.2 ⟨k, by omega, h1, h2.symm⟩
      rw [h3] at this
      cases this
theorem sum_liveK (D : Nat → Int) (n : Nat) (G : Int → Int) (k : Nat) : sumA G (liveK D n k) = lsum D n (fun i => G (D i)) k := by
  induction k with
  | zero => rfl
  | succ k ih =>
    rw [liveK, lsum]
    cases hs : supB D n k with
    | true => rw [if_pos rfl, if_pos rfl, ih]; omega
    | false => rw [if_neg (by decide), if_neg (by decide), sumA, ih]; omega
theorem last_of_live {D R : Nat → Int} {n i : Nat} (hs : supB D n i = false) (hi : i < n) : last D R n (D i) = some (R i) := by
  have key : ∀ m, i < m → m ≤ n → last D R m (D i) = some (R i) := by
    intro m
    induction m with
    | zero => intro h; omega
    | succ m ih =>
      intro h1 h2
      rw [last]
      by_cases e : i = m
      · subst e; rw [if_pos rfl]
      · have hne : D m ≠ D i := fun h => by
          have := supB_iff (D := D) (n := n) (i := i) |>.2 ⟨m, by omega, by omega, h⟩
          rw [hs] at this
          cases this
        rw [if_neg hne]
        exact ih (by omega) (by omega)
  exact key n hi (Nat.le_refl _)
theorem last_some {D R : Nat → Int} {n : Nat} (x : Int) : (last D R n x).isSome = true ↔ ∃ i, i < n ∧ D i = x ∧ supB D n i = false := by
  constructor
  · have key : ∀ k, k ≤ n → (∀ j, k ≤ j → j < n → D j ≠ x) → (last D R k x).isSome = true → ∃ i, i < n ∧ D i = x ∧ supB D n i = false := by
      intro k
      induction k with
      | zero => intro _ _ h; cases h
      | succ k ih =>
        intro hk hj h
        by_cases e : D k = x
        · refine ⟨k, by omega, e, supB_false (fun j h1 h2 => ?_)⟩
          rw [e]; exact hj j (by omega) h1
        · rw [last, if_neg e] at h
          refine ih (by omega) (fun j h1 h2 => ?_) h
          by_cases ej : j = k
          · rw [ej]; exact e
          · exact hj j (by omega) h2
    exact key n (Nat.le_refl _) (fun j h1 h2 => by omega)
  · rintro ⟨i, h1, rfl, h3⟩
    rw [last_of_live h3 h1]; rfl
/-- A sum over the keys of the history is a sum over its live rows. -/
theorem sum_live {D R : Nat → Int} {n : Nat} {K : List Int} (hK : K.Nodup) (hm : ∀ x, x ∈ K ↔ (last D R n x).isSome = true) (G : Int → Int) (g : Nat → Int) (hg : ∀ i, i < n → supB D n i = false → G (D i) = g i) : sumA G K = lsum D n g n := by
  rw [sumA_same G K (liveK D n n) hK (nodup_liveK n (Nat.le_refl _)) (fun x => by rw [hm, last_some, mem_liveK]), sum_liveK]
  exact lsum_congr n hg

/-- Counts entry by entry, and delta by delta. -/
theorem mcnt_split (D : Nat → Int) (T : Int → Nat → Bool) (m : Nat) (K : List Int) (hn : K.Nodup) (h : ∀ i, i < m → D i ∈ K) :
    (mcnt (fun i => T (D i) (cnt D (i + 1) (D i))) m : Int) = sumA (fun x => (mcnt (fun k => T x (k + 1)) (cnt D m x) : Int)) K := by
  induction m with
  | zero => exact (sumA_zero (fun x _ => rfl)).symm
  | succ m ih =>
    have e : sumA (fun x => (mcnt (fun k => T x (k + 1)) (cnt D (m + 1) x) : Int)) K = sumA (fun x => (mcnt (fun k => T x (k + 1)) (cnt D m x) : Int) + (if D m = x then (if T (D m) (cnt D m (D m) + 1) then 1 else 0) else 0)) K := sumA_congr (fun x _ => by
      rw [cnt]
      by_cases hx : D m = x
      · subst hx
        rw [if_pos rfl, if_pos rfl, mcnt]
        split <;> simp
      · rw [if_neg hx, if_neg hx]; simp)
    rw [e, sumA_add, ← ih (fun i hi => h i (by omega)), sumA_one _ _ _ hn (h m (by omega)), mcnt]
    rw [show cnt D (m + 1) (D m) = cnt D m (D m) + 1 by rw [cnt, if_pos rfl]]
    split <;> simp
theorem mcnt_dup (c : Nat) (r : Int) (m : Nat) : (mcnt (fun k => decide ((c : Int) + ((k + 1 : Nat) : Int) ≤ r)) m : Int) = if (c : Int) < r then min (m : Int) (r - c) else 0 := by
  induction m with
  | zero => simp only [mcnt]; split <;> omega
  | succ m ih =>
    simp only [mcnt]
    by_cases h : (c : Int) + ((m + 1 : Nat) : Int) ≤ r
    · rw [if_pos (by simpa using h)]
      rw [if_pos (by omega)] at ih ⊢
      omega
    · rw [if_neg (by simpa using h)]
      by_cases hc : (c : Int) < r
      · rw [if_pos hc] at ih ⊢
        omega
      · rw [if_neg hc] at ih ⊢
        omega
theorem mcnt_lost (r : Int) (hr : 0 ≤ r) (m : Nat) : (mcnt (fun k => decide (r < ((k + 1 : Nat) : Int))) m : Int) = if (m : Int) < r then 0 else (m : Int) - r := by
  induction m with
  | zero => simp only [mcnt]; split <;> omega
  | succ m ih =>
    simp only [mcnt]
    by_cases h : r < ((m + 1 : Nat) : Int)
    · rw [if_pos (by simpa using h)]
      rw [if_neg (by omega)] at ih ⊢
      omega
    · rw [if_neg (by simpa using h)]
      by_cases hc : (m : Int) < r
      · rw [if_pos hc] at ih
        by_cases h2 : ((m + 1 : Nat) : Int) < r
        · rw [if_pos h2]; omega
        · rw [if_neg h2]; omega
      · omega

/-- Entry i is duplicated, lost: as the model says. -/
def dupB (D Dh R : Nat → Int) (n nh i : Nat) : Bool := decide ((cnt D n (D i) : Int) + (cnt D (i + 1) (D i) : Int) ≤ (last Dh R nh (D i)).getD 0)
def lostB (D Dh R : Nat → Int) (nh i : Nat) : Bool := decide ((last Dh R nh (D i)).getD 0 < (cnt D (i + 1) (D i) : Int))
/-- The model's Report. -/
def mArr (D Dh R : Nat → Int) (n nh : Nat) (M : Nat → Bool) (nrec : Bool) (b0 b1 b2 : Int) : Array Value :=
  rArr n (wrap64 (lsum Dh nh R nh)) (mcnt (dupB D Dh R n nh) n : Nat) (mcnt (lostB D Dh R nh) n : Nat) (wrap64 (lsum Dh nh (fun i => if cnt D n (Dh i) = 0 then R i else 0) nh)) (mcnt M n : Nat) nrec b0 b1 b2 (wrap64 (lsum Dh nh (fun i => Dh i * R i) nh))
theorem rpt_model {D Dh R : Nat → Int} {n nh : Nat} {M : Nat → Bool} {nrec : Bool} {b0 b1 b2 : Int} {e : Ending} (h : Rpt (last Dh R nh) D n M nrec b0 b1 b2 e) (hn : n ≤ 4096) (hl : ∀ i, i < nh → R i < 0 → supB Dh nh i = true) :
    e = .returned (.agg (mArr D Dh R n nh M nrec b0 b1 b2)) := by
  obtain ⟨KH, KS, h1, h2, h3, h4, h5⟩ := h
  have hin : ∀ i, i < n → D i ∈ KS := fun i hi => (h4 _).2 (cnt_pos D n i hi)
  have eH : sumA (fun x => (last Dh R nh x).getD 0) KH = lsum Dh nh R nh := sum_live h1 h2 _ _ (fun i hi hs => by rw [last_of_live hs hi]; rfl)
  have eO : sumA (fun x => if cnt D n x = 0 then (last Dh R nh x).getD 0 else 0) KH = lsum Dh nh (fun i => if cnt D n (Dh i) = 0 then R i else 0) nh := sum_live h1 h2 _ _ (fun i hi hs => by rw [last_of_live hs hi]; rfl)
  have eS : sumA (fun x => x * (last Dh R nh x).getD 0) KH = lsum Dh nh (fun i => Dh i * R i) nh := sum_live h1 h2 _ _ (fun i hi hs => by rw [last_of_live hs hi]; rfl)
  have eD : sumA (fun x => if (cnt D n x : Int) < (last Dh R nh x).getD 0 then min (cnt D n x : Int) ((last Dh R nh x).getD 0 - cnt D n x) else 0) KS = (mcnt (dupB D Dh R n nh) n : Nat) := by
    have := mcnt_split D (fun x k => decide ((cnt D n x : Int) + (k : Int) ≤ (last Dh R nh x).getD 0)) n KS h3 hin
    refine Eq.trans ?_ this.symm
    exact sumA_congr (fun x _ => (mcnt_dup _ _ _).symm)
  have eL : sumA (fun x => if (cnt D n x : Int) < (last Dh R nh x).getD 0 then 0 else (cnt D n x : Int) - (last Dh R nh x).getD 0) KS = (mcnt (lostB D Dh R nh) n : Nat) := by
    have := mcnt_split D (fun x k => decide ((last Dh R nh x).getD 0 < (k : Int))) n KS h3 hin
    refine Eq.trans ?_ this.symm
    exact sumA_congr (fun x _ => (mcnt_lost _ (last_live hl x) _).symm)
  have b1' := mcnt_le (dupB D Dh R n nh) n
  have b2' := mcnt_le (lostB D Dh R nh) n
  rw [eH, eO, eS, eD, eL, wrap_id (a := (mcnt (dupB D Dh R n nh) n : Nat)) (by omega) (by omega), wrap_id (a := (mcnt (lostB D Dh R nh) n : Nat)) (by omega) (by omega)] at h5
  exact h5
end Go.Proofs.Qxb6603057a
