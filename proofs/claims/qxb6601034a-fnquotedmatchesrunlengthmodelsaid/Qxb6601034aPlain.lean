/-
  PLAIN LEAN, no Go in sight: what 'quoted' computes ('scan'), what the run-length model computes ('close', 'dec'), and the two laws.
-/
namespace Go.Proofs.Qxb6601034a.Plain

/-- 'quoted' behind the opening quote q: what stands before the closing quote, decoded, and what follows it. -/
def scan (q : UInt8) : List UInt8 → Option (List UInt8 × List UInt8)
  | [] => none
  | [c] => if c = q then some ([], []) else none
  | c :: d :: r =>
    if c = q then some ([], d :: r)
    else if q = 34 ∧ c = 92 ∧ (d = 34 ∨ d = 92) then (scan q r).map fun p => (d :: p.1, p.2)
    else (scan q (d :: r)).map fun p => (c :: p.1, p.2)

theorem scan_quote (q : UInt8) (r : List UInt8) : scan q (q :: r) = some ([], r) := by
  cases r with
  | nil => simp [scan]
  | cons d r => simp [scan]
theorem scan_esc (q d : UInt8) (r : List UInt8) (h : q = 34) (hd : d = 34 ∨ d = 92) : scan q (92 :: d :: r) = (scan q r).map fun p => (d :: p.1, p.2) := by
  rw [scan, if_neg (by rw [h]; decide), if_pos ⟨h, rfl, hd⟩]
/-- An ordinary byte: neither the quote nor a backslash that escapes. -/
theorem scan_plain (q c : UInt8) (r : List UInt8) (hc : c ≠ q) (hn : ¬ (q = 34 ∧ c = 92 ∧ (r.head? = some 34 ∨ r.head? = some 92))) : scan q (c :: r) = (scan q r).map fun p => (c :: p.1, p.2) := by
  cases r with
  | nil => simp [scan, hc]
  | cons d r =>
    rw [scan, if_neg hc, if_neg (by simpa using hn)]

/-- The bytes that stand between the quotes for v. -/
def enc (q : UInt8) (v : List UInt8) : List UInt8 := v.flatMap fun c => if q = 34 ∧ (c = 34 ∨ c = 92) then [92, c] else [c]
theorem enc_nil (q : UInt8) : enc q [] = [] := rfl
theorem enc_cons (q c : UInt8) (v : List UInt8) : enc q (c :: v) = (if q = 34 ∧ (c = 34 ∨ c = 92) then [92, c] else [c]) ++ enc q v := by simp [enc]
theorem enc_snoc (q c : UInt8) (v : List UInt8) : enc q (v ++ [c]) = enc q v ++ if q = 34 ∧ (c = 34 ∨ c = 92) then [92, c] else [c] := by simp [enc]
theorem enc_length (q : UInt8) (v : List UInt8) : (enc q v).length ≤ 2 * v.length := by
  induction v with
  | nil => simp [enc]
  | cons c v ih => rw [enc_cons]; split <;> simp <;> omega

/-- THE FIRST LAW: quoting, then 'quoted', gives back v and the rest. -/
theorem scan_enc (q : UInt8) (v rest : List UInt8) (h : q = 34 ∨ ∀ c ∈ v, c ≠ q) : scan q (enc q v ++ q :: rest) = some (v, rest) := by
  induction v with
  | nil => simp [enc_nil, scan_quote]
  | cons c v ih =>
    have ih' := ih (h.imp id fun hc d hd => hc d (List.mem_cons_of_mem _ hd))
    rw [enc_cons]
    by_cases he : q = 34 ∧ (c = 34 ∨ c = 92)
    · rw [if_pos he]
      simp only [List.cons_append, List.nil_append]
      rw [scan_esc q c _ he.1 he.2, ih']
      rfl
    · rw [if_neg he]
      simp only [List.cons_append, List.nil_append]
      have hcq : c ≠ q := by
        rcases h with h | h
        · intro e; exact he ⟨h, Or.inl (e.trans h)⟩
        · exact h c List.mem_cons_self
      rw [scan_plain q c _ hcq (fun hx => he ⟨hx.1, Or.inr hx.2.1⟩), ih']
      rfl

/-- The run-length model at the double quote: the place of the closing quote, 'run' backslashes standing right before. -/
def close (run : Nat) : List UInt8 → Option Nat
  | [] => none
  | c :: r => if c = 92 then (close (run + 1) r).map (· + 1) else if c = 34 ∧ run % 2 = 0 then some 0 else (close 0 r).map (· + 1)
/-- zzDecodeRuns, k backslashes standing right before. -/
def dec (k : Nat) : List UInt8 → List UInt8
  | [] => List.replicate ((k + 1) / 2) 92
  | c :: r => if c = 92 then dec (k + 1) r
    else if 0 < k ∧ c = 34 then List.replicate ((k - 1) / 2) 92 ++ 34 :: dec 0 r
    else List.replicate ((k + 1) / 2) 92 ++ c :: dec 0 r

theorem parity (k : Nat) : ∃ m, k = 2 * m ∨ k = 2 * m + 1 := ⟨k / 2, by omega⟩
theorem scan_pairs (r : List UInt8) : ∀ m : Nat, scan 34 (List.replicate (2 * m) 92 ++ r) = (scan 34 r).map fun p => (List.replicate m 92 ++ p.1, p.2)
  | 0 => by simp
  | m + 1 => by
    have e : List.replicate (2 * (m + 1)) (92 : UInt8) ++ r = 92 :: 92 :: (List.replicate (2 * m) 92 ++ r) := by
      rw [show 2 * (m + 1) = 2 * m + 1 + 1 by omega, List.replicate_succ, List.replicate_succ]; rfl
    rw [e, scan_esc 34 92 _ rfl (Or.inr rfl), scan_pairs r m]
    cases scan 34 r <;> simp [List.replicate_succ]

/-- THE SECOND LAW: 'quoted' and the run-length reading are one at the double quote. -/
theorem scan_runs (l : List UInt8) : ∀ k : Nat, scan 34 (List.replicate k 92 ++ l) = (close k l).map fun j => (dec k (l.take j), l.drop (j + 1)) := by
  induction l with
  | nil =>
    intro k
    obtain ⟨m, rfl | rfl⟩ := parity k
    · rw [scan_pairs]; simp [scan, close]
    · rw [show List.replicate (2 * m + 1) (92 : UInt8) ++ [] = List.replicate (2 * m) 92 ++ [92] by simp [List.replicate_succ'], scan_pairs]
      simp [scan, close]
  | cons c r ih =>
    intro k
    by_cases h92 : c = 92
    · subst h92
      have := ih (k + 1)
      rw [show List.replicate k (92 : UInt8) ++ 92 :: r = List.replicate (k + 1) 92 ++ r by simp [List.replicate_succ'], this, close, if_pos rfl]
      cases close (k + 1) r with
      | none => rfl
      | some j => simp [dec]
    · have ih0 := ih 0
      simp only [List.replicate_zero, List.nil_append] at ih0
      by_cases h34 : c = 34
      · subst h34
        obtain ⟨m, rfl | rfl⟩ := parity k
        · rw [scan_pairs, scan_quote, close, if_neg h92, if_pos ⟨rfl, by omega⟩]
          simp [dec]
          omega
        · rw [show List.replicate (2 * m + 1) (92 : UInt8) ++ 34 :: r = List.replicate (2 * m) 92 ++ 92 :: 34 :: r by simp [List.replicate_succ'], scan_pairs,
            scan_esc 34 34 _ rfl (Or.inl rfl), ih0, close, if_neg h92, if_neg (by omega)]
          cases close 0 r with
          | none => rfl
          | some j => simp [dec]
      · obtain ⟨m, rfl | rfl⟩ := parity k
        · rw [scan_pairs, scan_plain 34 c r h34 (fun h => h92 h.2.1), ih0, close, if_neg h92, if_neg (fun h => h34 h.1)]
          cases close 0 r with
          | none => rfl
          | some j =>
            simp [dec, h92, h34]
            omega
        · rw [show List.replicate (2 * m + 1) (92 : UInt8) ++ c :: r = List.replicate (2 * m) 92 ++ 92 :: c :: r by simp [List.replicate_succ'], scan_pairs,
            scan_plain 34 92 (c :: r) (by decide) (fun h => by simp [h34, h92] at h), scan_plain 34 c r h34 (fun h => h92 h.2.1), ih0, close, if_neg h92, if_neg (fun h => h34 h.1)]
          cases close 0 r with
          | none => rfl
          | some j =>
            have e : (2 * m + 1 + 1) / 2 = m + 1 := by omega
            simp [dec, h92, h34, e, List.replicate_succ']

/-- At another quote: the first occurrence. -/
theorem scan_first (q : UInt8) (hq : q ≠ 34) (l : List UInt8) : ∀ j : Nat, (∀ i, i < j → l[i]? ≠ some q) → l[j]? = some q → scan q l = some (l.take j, l.drop (j + 1)) := by
  induction l with
  | nil => intro j _ h; simp at h
  | cons c r ih =>
    intro j hn hj
    cases j with
    | zero =>
      simp at hj
      subst hj
      rw [scan_quote]; simp
    | succ j =>
      have hc : c ≠ q := fun e => hn 0 (by omega) (by simp [e])
      rw [scan_plain q c r hc (fun h => hq h.1), ih j (fun i hi => by have := hn (i + 1) (by omega); simpa using this) (by simpa using hj)]
      simp
theorem scan_never (q : UInt8) (hq : q ≠ 34) (l : List UInt8) (hn : ∀ i : Nat, l[i]? ≠ some q) : scan q l = none := by
  induction l with
  | nil => rfl
  | cons c r ih =>
    have hc : c ≠ q := fun e => hn 0 (by simp [e])
    rw [scan_plain q c r hc (fun h => hq h.1), ih (fun i => by have := hn (i + 1); simpa using this)]
    rfl
end Go.Proofs.Qxb6601034a.Plain
