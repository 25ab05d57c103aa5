/-
  Slices that are nil or laid ('ArgS'): the clones and conversions by one contract each.
-/
import Derived.Test.Qxb6603057aConvs
import Derived.Test.Qxb6603057aRanges
namespace Go.Proofs.Qxb6603057a
open Go.RowKit Go.Maps

/-- A slice value is nil, or lies at (b, o). -/
def ArgS (a : Option Addr) (b o l c : Nat) : Prop := (a = none ∧ l = 0 ∧ c = 0) ∨ ∃ sp, a = some ⟨b, o, sp⟩ ∧ (0 < l → sp = none)
theorem ArgS.at {a : Option Addr} {b o l c : Nat} (h : ArgS a b o l c) (hl : 0 < l) : a = some ⟨b, o, none⟩ := by
  rcases h with ⟨_, e, _⟩ | ⟨sp, e, hs⟩
  · omega
  · rw [e, hs hl]
theorem ArgS.new (b l : Nat) : ArgS (some ⟨b, 0, none⟩) b 0 l l := Or.inr ⟨none, rfl, fun _ => rfl⟩
theorem holds0 (w : World) (b o s : Nat) (F : Nat → List Value) : HoldsAt w b o 0 s F := fun i hi => by omega
variable {a : Option Addr} {b o n c : Nat}
theorem cloneEntsA (h : ArgS a b o n c) (w : World) (hn : n ≤ 4096) (E : Nat → Ent) (S : Nat → Sl) (Bo : Nat → Option (List UInt8)) (hc : HoldsAt w b o n 12 fun i => entCells (E i) (S i)) (hB : ∀ i, i < n → BytesAt w (S i) (Bo i)) (hl : ∀ i, i < n → (S i).l ≤ 4294967296) :
    Calls Try.prog 9 #[.slice a n c] w fun e w' => ∃ (a' : Option Addr) (b' c' : Nat) (S' : Nat → Sl), e = .returned (.slice a' n c') ∧ ArgS a' b' 0 n c' ∧ HoldsAt w' b' 0 n 12 (fun i => entCells (E i) (S' i)) ∧ (∀ i, i < n → BytesAt w' (S' i) (Bo i)) ∧ Below w.heap.size w w' := by
  rcases h with ⟨rfl, rfl, rfl⟩ | ⟨sp, rfl, hs⟩
  · refine (cloneEnts_nil w).mono ?_
    rintro e w' ⟨rfl, rfl⟩
    exact ⟨none, 0, 0, S, rfl, Or.inl ⟨rfl, rfl, rfl⟩, holds0 _ _ _ _ _, fun i hi => by omega, Below.refl _ _⟩
  · refine (cloneEnts_some b o n c sp hs E S Bo w hn hc hB hl).mono ?_
    rintro e w' ⟨S', rfl, h1, h2, h3⟩
    exact ⟨_, w.heap.size, n, S', rfl, ArgS.new _ _, h1, fun i hi => (h2 i hi).1, h3⟩
theorem cloneRepsA (h : ArgS a b o n c) (w : World) (hn : n ≤ 4096) (E : Nat → Rp) (S : Nat → Sl) (Bo : Nat → Option (List UInt8)) (hc : HoldsAt w b o n 3 fun i => repCells (E i) (S i)) (hB : ∀ i, i < n → BytesAt w (S i) (Bo i)) (hl : ∀ i, i < n → (S i).l ≤ 4294967296) :
    Calls Try.prog 11 #[.slice a n c] w fun e w' => ∃ (a' : Option Addr) (b' c' : Nat) (S' : Nat → Sl), e = .returned (.slice a' n c') ∧ ArgS a' b' 0 n c' ∧ HoldsAt w' b' 0 n 3 (fun i => repCells (E i) (S' i)) ∧ (∀ i, i < n → BytesAt w' (S' i) (Bo i)) ∧ Below w.heap.size w w' := by
  rcases h with ⟨rfl, rfl, rfl⟩ | ⟨sp, rfl, hs⟩
  · refine (cloneReps_nil w).mono ?_
    rintro e w' ⟨rfl, rfl⟩
    exact ⟨none, 0, 0, S, rfl, Or.inl ⟨rfl, rfl, rfl⟩, holds0 _ _ _ _ _, fun i hi => by omega, Below.refl _ _⟩
  · refine (cloneReps_some b o n c sp hs E S Bo w hn hc hB hl).mono ?_
    rintro e w' ⟨S', rfl, h1, h2, h3⟩
    exact ⟨_, w.heap.size, n, S', rfl, ArgS.new _ _, h1, fun i hi => (h2 i hi).1, h3⟩
theorem cloneRowsA (h : ArgS a b o n c) (w : World) (hn : n ≤ 4096) (D R : Nat → Int) (hc : HoldsAt w b o n 2 fun i => rowCells (D i) (R i)) :
    Calls Try.prog 10 #[.slice a n c] w fun e w' => ∃ (a' : Option Addr) (b' c' : Nat), e = .returned (.slice a' n c') ∧ ArgS a' b' 0 n c' ∧ HoldsAt w' b' 0 n 2 (fun i => rowCells (D i) (R i)) ∧ Below w.heap.size w w' := by
  rcases h with ⟨rfl, rfl, rfl⟩ | ⟨sp, rfl, hs⟩
  · refine (cloneRows_nil w).mono ?_
    rintro e w' ⟨rfl, rfl⟩
    exact ⟨none, 0, 0, rfl, Or.inl ⟨rfl, rfl, rfl⟩, holds0 _ _ _ _ _, Below.refl _ _⟩
  · refine (cloneRows b o n c sp hs D R w hn hc).mono ?_
    rintro e w' ⟨rfl, h1, h3⟩
    exact ⟨_, w.heap.size, n, rfl, ArgS.new _ _, h1, h3⟩
theorem entriesA (h : ArgS a b o n c) (w : World) (hn : n ≤ 4096) (E : Nat → Ent) (S : Nat → Sl) (hc : HoldsAt w b o n 12 fun i => entCells (E i) (S i)) :
    Calls Try.prog 13 #[.slice a n c] w fun e w' => ∃ (a' : Option Addr) (b' c' : Nat), e = .returned (.slice a' n c') ∧ ArgS a' b' 0 n c' ∧ HoldsAt w' b' 0 n 12 (fun i => entCells (E i) (S i)) ∧ Below w.heap.size w w' := by
  rcases h with ⟨rfl, rfl, rfl⟩ | ⟨sp, rfl, hs⟩
  · refine (entries_nil w).mono ?_
    rintro e w' ⟨rfl, rfl⟩
    exact ⟨none, 0, 0, rfl, Or.inl ⟨rfl, rfl, rfl⟩, holds0 _ _ _ _ _, Below.refl _ _⟩
  · refine (entries_some b o n c sp hs E S w hn hc).mono ?_
    rintro e w' ⟨rfl, h1, h3⟩
    exact ⟨_, w.heap.size, n, rfl, ArgS.new _ _, h1, h3⟩
theorem repsA (h : ArgS a b o n c) (w : World) (hn : n ≤ 4096) (E : Nat → Rp) (S : Nat → Sl) (hc : HoldsAt w b o n 3 fun i => repCells (E i) (S i)) :
    Calls Try.prog 15 #[.slice a n c] w fun e w' => ∃ (a' : Option Addr) (b' c' : Nat), e = .returned (.slice a' n c') ∧ ArgS a' b' 0 n c' ∧ HoldsAt w' b' 0 n 3 (fun i => repCells (E i) (S i)) ∧ Below w.heap.size w w' := by
  rcases h with ⟨rfl, rfl, rfl⟩ | ⟨sp, rfl, hs⟩
  · refine (reps_nil w).mono ?_
    rintro e w' ⟨rfl, rfl⟩
    exact ⟨none, 0, 0, rfl, Or.inl ⟨rfl, rfl, rfl⟩, holds0 _ _ _ _ _, Below.refl _ _⟩
  · refine (reps_some b o n c sp hs E S w hn hc).mono ?_
    rintro e w' ⟨rfl, h1, h3⟩
    exact ⟨_, w.heap.size, n, rfl, ArgS.new _ _, h1, h3⟩
theorem historyA (h : ArgS a b o n c) (w : World) (hn : n ≤ 4096) (D R : Nat → Int) (hc : HoldsAt w b o n 2 fun i => rowCells (D i) (R i)) (hwf : ∀ i, i < n → (Lit.int .i64 (D i)).wf = true ∧ (Lit.int .i64 (R i)).wf = true) :
    Calls Try.prog 14 #[.slice a n c] w fun e w' => ∃ (ho : Option Nat) (Dm : DataW Unit), e = .returned (.map ho) ∧ MapO ho n Dm w' ∧ IntMap Dm (last D R n) ∧ Below w.heap.size w w' := by
  rcases h with ⟨rfl, rfl, rfl⟩ | ⟨sp, rfl, hs⟩
  · refine (history_nil w).mono ?_
    rintro e w' ⟨rfl, rfl⟩
    exact ⟨none, _, rfl, Or.inl ⟨rfl, rfl⟩, intMap_empty, Below.refl _ _⟩
  · refine (history_some b o n c sp hs D R w hn hc hwf).mono ?_
    rintro e w' ⟨Dm, rfl, h1, h2, h3⟩
    exact ⟨_, Dm, rfl, Or.inr ⟨_, rfl, h1⟩, h2, h3⟩
end Go.Proofs.Qxb6603057a
