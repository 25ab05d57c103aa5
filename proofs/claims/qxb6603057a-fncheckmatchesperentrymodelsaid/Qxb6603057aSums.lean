/-
  PLAIN LEAN: sums over the keys of a map that are no longer to come ('sumD'), sums that wrap; the keys of a map of integers as a list without repeats.
-/
import Derived.Test.Qxb6603057aSpec
namespace Go.Proofs.Qxb6603057a
open Go.RowKit Go.Maps

/-- The sum of g over those of the keys that are no longer to come. -/
def sumD (g : Int → Int) (left : Lit → Bool) : List Int → Int
  | [] => 0
  | x :: r => (if left (.int .i64 x) then 0 else g x) + sumD g left r
/-- The sum of g over all keys. -/
def sumA (g : Int → Int) : List Int → Int
  | [] => 0
  | x :: r => g x + sumA g r
theorem sumD_start (g : Int → Int) (left : Lit → Bool) (K : List Int) (h : ∀ x ∈ K, left (.int .i64 x) = true) : sumD g left K = 0 := by
  induction K with
  | nil => rfl
  | cons x r ih => rw [sumD, if_pos (h x List.mem_cons_self), ih (fun y hy => h y (List.mem_cons_of_mem _ hy))]; rfl
theorem sumD_end (g : Int → Int) (left : Lit → Bool) (K : List Int) (h : ∀ kl, left kl = false) : sumD g left K = sumA g K := by
  induction K with
  | nil => rfl
  | cons x r ih => rw [sumD, sumA, if_neg (by rw [h]; decide), ih]
theorem sumD_congr (g : Int → Int) (left left' : Lit → Bool) (K : List Int) (h : ∀ x ∈ K, left (.int .i64 x) = left' (.int .i64 x)) : sumD g left K = sumD g left' K := by
  induction K with
  | nil => rfl
  | cons x r ih => rw [sumD, sumD, h x List.mem_cons_self, ih (fun y hy => h y (List.mem_cons_of_mem _ hy))]
theorem same_int (x y : Int) : (Lit.int .i64 x).sameKey (.int .i64 y) = decide (x = y) := by
  rw [Bool.eq_iff_iff, WideAt.sameKey_iff (show WideAt.IsKeyLit (.int .i64 y) from trivial)]
  simp
theorem sumD_step (g : Int → Int) (left : Lit → Bool) (x : Int) (hl : left (.int .i64 x) = true) (K : List Int) (hn : K.Nodup) (hx : x ∈ K) :
    sumD g (fun z => left z && !z.sameKey (.int .i64 x)) K = sumD g left K + g x := by
  induction K with
  | nil => cases hx
  | cons y r ih =>
    obtain ⟨h1, h2⟩ := List.nodup_cons.1 hn
    rw [sumD, sumD]
    by_cases e : x = y
    · subst e
      have hr : sumD g (fun z => left z && !z.sameKey (.int .i64 x)) r = sumD g left r := sumD_congr _ _ _ _ (fun z hz => by
        have : z ≠ x := fun e => h1 (e ▸ hz)
        rw [same_int]; simp [this])
      rw [hr, hl, same_int]
      simp
      omega
    · have hx' : x ∈ r := by
        rcases List.mem_cons.1 hx with h | h
        · exact absurd h e
        · exact h
      have e' : y ≠ x := fun h => e h.symm
      rw [ih h2 hx', same_int]
      simp [e']
      omega
theorem sumA_congr {g g' : Int → Int} {K : List Int} (h : ∀ x ∈ K, g x = g' x) : sumA g K = sumA g' K := by
  induction K with
  | nil => rfl
  | cons x r ih => rw [sumA, sumA, h x List.mem_cons_self, ih (fun y hy => h y (List.mem_cons_of_mem _ hy))]
/-- Lists without repeats that hold the same: one sum. -/
theorem sumA_erase (g : Int → Int) (x : Int) (K : List Int) (hx : x ∈ K) : sumA g K = g x + sumA g (K.erase x) := by
  induction K with
  | nil => cases hx
  | cons y r ih =>
    by_cases e : y = x
    · subst e; simp [sumA]
    · have hx' : x ∈ r := by
        rcases List.mem_cons.1 hx with h | h
        · exact absurd h.symm e
        · exact h
      rw [List.erase_cons_tail (by simpa using e), sumA, sumA, ih hx']
      omega
theorem sumA_same (g : Int → Int) : ∀ (K L : List Int), K.Nodup → L.Nodup → (∀ x, x ∈ K ↔ x ∈ L) → sumA g K = sumA g L := by
  intro K
  induction K with
  | nil =>
    intro L _ _ h
    cases L with
    | nil => rfl
    | cons y r => exact absurd ((h y).2 List.mem_cons_self) (by simp)
  | cons x r ih =>
    intro L hK hL h
    obtain ⟨h1, h2⟩ := List.nodup_cons.1 hK
    have hx : x ∈ L := (h x).1 List.mem_cons_self
    rw [sumA_erase g x L hx, sumA, ih (L.erase x) h2 (hL.erase x)]
    intro y
    rw [hL.mem_erase_iff]
    constructor
    · intro hy
      exact ⟨fun e => h1 (e ▸ hy), (h y).1 (List.mem_cons_of_mem _ hy)⟩
    · rintro ⟨hne, hy⟩
      rcases List.mem_cons.1 ((h y).2 hy) with e | e
      · exact absurd e hne
      · exact e

theorem wrap_add (a b : Int) : wrap64 (wrap64 a + b) = wrap64 (a + b) := by unfold wrap64; omega
theorem wrap_add2 (a b : Int) : wrap64 (wrap64 a + wrap64 b) = wrap64 (a + b) := by unfold wrap64; omega
theorem wrap_zero : wrap64 0 = 0 := by unfold wrap64; omega

/-- The keys of a map of integers. -/
def keysI (es : List (Lit × DataW Unit)) : List Int := es.filterMap fun p => match p.1 with | .int .i64 x => some x | _ => none
theorem keys_of (D : DataW Unit) (h : Tidy D) : ∃ K : List Int, K.Nodup ∧ ∀ x, x ∈ K ↔ Maps.has D (.int .i64 x) = true := by
  obtain ⟨es, rfl, hp⟩ := h
  refine ⟨keysI es, ?_, fun x => ?_⟩
  · unfold keysI
    refine List.Pairwise.filterMap _ (fun a a' hne b hb b' hb' => ?_) hp
    intro e
    subst e
    apply hne
    split at hb <;> cases hb
    split at hb' <;> cases hb'
    simp_all
  · rw [has_eq, List.any_eq_true]
    unfold keysI
    rw [List.mem_filterMap]
    constructor
    · rintro ⟨p, hp1, hp2⟩
      refine ⟨p, hp1, ?_⟩
      split at hp2 <;> cases hp2
      rename_i h
      rw [h, same_int]; simp
    · rintro ⟨p, hp1, hp2⟩
      refine ⟨p, hp1, ?_⟩
      rw [WideAt.sameKey_eq hp2]
end Go.Proofs.Qxb6603057a
