/-
  PLAIN LEAN, no Go in sight: the decimal numeral ('Lib.itoa', the shelf's own word) names one number; it is neither "yes" nor "no".
-/
import Derived.Lib.ItoaNum
namespace Go.Proofs.Qxb6600896aDoor.Plain
open Go.Lib

/-- The number that a row of digits names. -/
def val (l : List UInt8) : Nat := l.foldl (fun a c => a * 10 + (c.toNat - 48)) 0
theorem digit (i : Nat) (h : i < 10) : (UInt8.ofNat (48 + i)).toNat = 48 + i := by
  simp only [UInt8.toNat_ofNat']; omega
theorem val_dec (u : Nat) : val (decDigits u) = u := by
  induction u using Nat.strongRecOn with
  | _ u ih =>
    rw [decDigits]
    by_cases h : u < 10
    · rw [dif_pos h]
      simp only [val, List.foldl_cons, List.foldl_nil]
      rw [digit u h]; omega
    · rw [dif_neg h]
      have := ih (u / 10) (by omega)
      unfold val at this ⊢
      rw [List.foldl_append, this]
      simp only [List.foldl_cons, List.foldl_nil]
      rw [digit (u % 10) (by omega)]; omega
theorem head_dec (u : Nat) : ∃ c l, decDigits u = c :: l ∧ 48 ≤ c.toNat ∧ c.toNat ≤ 57 := by
  induction u using Nat.strongRecOn with
  | _ u ih =>
    rw [decDigits]
    by_cases h : u < 10
    · rw [dif_pos h]
      exact ⟨_, _, rfl, by rw [digit u h]; omega, by rw [digit u h]; omega⟩
    · rw [dif_neg h]
      obtain ⟨c, l, e, h1, h2⟩ := ih (u / 10) (by omega)
      rw [e]
      exact ⟨c, _, rfl, h1, h2⟩
theorem itoa_inj {a b : Int} (h : itoa a = itoa b) : a = b := by
  unfold itoa at h
  by_cases ha : a < 0 <;> by_cases hb : b < 0
  · rw [if_pos ha, if_pos hb] at h
    have e := congrArg val (List.cons.inj h).2
    rw [val_dec, val_dec] at e
    omega
  · rw [if_pos ha, if_neg hb] at h
    obtain ⟨c, l, e, h1, h2⟩ := head_dec b.toNat
    rw [e] at h
    have e2 := (List.cons.inj h).1
    rw [← e2] at h1
    exact absurd h1 (by decide)
  · rw [if_neg ha, if_pos hb] at h
    obtain ⟨c, l, e, h1, h2⟩ := head_dec a.toNat
    rw [e] at h
    have e2 := (List.cons.inj h).1
    rw [e2] at h1
    exact absurd h1 (by decide)
  · rw [if_neg ha, if_neg hb] at h
    have e := congrArg val h
    rw [val_dec, val_dec] at e
    omega
theorem itoa_head (n : Int) : ∃ c l, itoa n = c :: l ∧ c.toNat ≤ 57 := by
  unfold itoa
  by_cases h : n < 0
  · rw [if_pos h]; exact ⟨_, _, rfl, by decide⟩
  · rw [if_neg h]
    obtain ⟨c, l, e, h1, h2⟩ := head_dec n.toNat
    exact ⟨c, l, e, h2⟩
theorem itoa_ne_yes (n : Int) : itoa n ≠ [121, 101, 115] := by
  intro e
  obtain ⟨c, l, e1, h⟩ := itoa_head n
  rw [e1] at e
  rw [(List.cons.inj e).1] at h
  exact absurd h (by decide)
theorem itoa_ne_no (n : Int) : itoa n ≠ [110, 111] := by
  intro e
  obtain ⟨c, l, e1, h⟩ := itoa_head n
  rw [e1] at e
  rw [(List.cons.inj e).1] at h
  exact absurd h (by decide)
end Go.Proofs.Qxb6600896aDoor.Plain
