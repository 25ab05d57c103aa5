/-
  THE FIVE PARAMETERS, OPENED: []Ent, []Row, []Rep, [3]int64.
-/
import Derived.Test.Qxb6603057aArgs
import Derived.ProofKit
import Derived.OpenShut
import Derived.ShutString
import Derived.Deep.Slices
import Derived.DataReads
namespace Go.Proofs.Qxb6603057a
open Go.RowKit Go.Maps
theorem spot_none {w : World} {a : Addr} {v : Value} (h : w.cell? a = some v) : a.spot = none := by
  unfold World.cell? at h
  split at h
  · split at h
    · cases h
    · rename_i hs; simpa using hs
  · cases h
theorem add_cell {w : World} {a : Addr} {k : Nat} {v : Value} (h : w.cell? (a.add k) = some v) : w.cell? ⟨a.block, a.off + k, none⟩ = some v := by
  have hs := spot_none h
  have e : a.add k = ⟨a.block, a.off + k, none⟩ := by
    unfold Addr.add at hs ⊢
    split
    · rename_i hk
      rw [if_pos hk] at hs
      subst hk
      cases a
      simp at hs
      subst hs
      rfl
    · rfl
  rw [← e]; exact h
theorem c2 : Try.prog.cellsOf 2 = 1 := by kernel_rfl
theorem c3 : Try.prog.cellsOf 3 = 1 := by kernel_rfl
theorem c4 : Try.prog.cellsOf 4 = 1 := by kernel_rfl
theorem c5 : Try.prog.cellsOf 5 = 1 := by kernel_rfl
theorem c9 : Try.prog.cellsOf 9 = 1 := by kernel_rfl
theorem c43 : Try.prog.cellsOf 43 = 1 := by kernel_rfl
theorem c45 : Try.prog.cellsOf 45 = 12 := by kernel_rfl
theorem c47 : Try.prog.cellsOf 47 = 3 := by kernel_rfl
theorem c51 : Try.prog.cellsOf 51 = 2 := by kernel_rfl
section
variable {H : Type} {enc : TypeId × Value → H} {w : World} {base : Nat} {spare : Nat → Bool} {held : Bool} {fuel : Nat}
theorem open_bytes {cs : List Value} {x : DataW H × List MemPlace} (h : DataW.trod enc Try.prog w base spare held fuel 43 cs = some x) : ∃ (s : Sl) (o : Option (List UInt8)), cs = [.slice s.a s.l s.c] ∧ BytesAt w s o := by
  rcases Deep.open_slice1 Try.underlying43 c5 h with ⟨rfl, _⟩ | ⟨a, len, cap, m, n, V, D, Pl, rfl, hb, hl, hm, hmm, _, hx⟩
  · exact ⟨⟨none, 0, 0⟩, none, rfl, Or.inl ⟨rfl, rfl⟩⟩
  · have hlm : len ≤ m := by rw [hmm]; split <;> omega
    have hz : ∀ i, i < len → ∃ b : UInt8, V i = .int .u8 (b.toNat : Int) := fun i hi => by
      obtain ⟨z, e, _, hwf⟩ := DataW.trod_int Try.underlying5 (hx i (by omega)).2
      injection e with e
      have e1 : IntKind.u8.min = 0 := rfl
      have e2 : IntKind.u8.max = 255 := rfl
      simp [Lit.wf, e1, e2] at hwf
      refine ⟨UInt8.ofNat z.toNat, ?_⟩
      rw [e]
      congr 1
      simp
      omega
    obtain ⟨B, hB⟩ := Deep.choose_lt (α := UInt8) hz
    refine ⟨⟨some a, len, cap⟩, some ((List.range len).map B), rfl, Or.inr ⟨a.block, a.off, a.spot, _, rfl, rfl, by simp, fun h0 => ?_, fun j hj => ?_⟩⟩
    · have h1 : 0 < len := h0
      have := (hx 0 (by omega)).1
      exact spot_none (a := a) this
    · have hj' : j < len := by simpa using hj
      have h1 := add_cell (hx j (by omega)).1
      rw [hB j hj'] at h1
      simpa using h1
theorem open_ent {cs : List Value} {y : DataW H × List MemPlace} (h : DataW.trod enc Try.prog w base spare held fuel 45 cs = some y) : ∃ (e : Ent) (s : Sl) (o : Option (List UInt8)), cs = entCells e s ∧ BytesAt w s o ∧ (Lit.int .i64 e.delta).wf = true := by
  obtain ⟨xs, n, _, _, hl, hlen, hf⟩ := DataW.trod_struct Try.underlying45 h
  rw [c45] at hl
  simp at hlen
  have g : ∀ i, i < 12 → xs[i]? = some (xs.getD i (.nil, [])) := fun i hi => by
    rw [List.getD_eq_getElem?_getD, List.getElem?_eq_getElem (by omega)]; rfl
  match cs, hl with
  | [a0, a1, a2, a3, a4, a5, a6, a7, a8, a9, a10, a11], _ =>
    obtain ⟨v0, e0, _⟩ := DataW.trod_string Try.underlying9 ((hf 0 _ rfl).trans (g 0 (by omega)))
    obtain ⟨v1, e1, _⟩ := DataW.trod_string Try.underlying9 ((hf 1 _ rfl).trans (g 1 (by omega)))
    obtain ⟨v2, e2, _⟩ := DataW.trod_int Try.underlying2 ((hf 2 _ rfl).trans (g 2 (by omega)))
    obtain ⟨v3, e3, _⟩ := DataW.trod_int Try.underlying2 ((hf 3 _ rfl).trans (g 3 (by omega)))
    obtain ⟨v4, e4, _⟩ := DataW.trod_int Try.underlying2 ((hf 4 _ rfl).trans (g 4 (by omega)))
    obtain ⟨v5, e5, _, w5⟩ := DataW.trod_int Try.underlying2 ((hf 5 _ rfl).trans (g 5 (by omega)))
    obtain ⟨v6, e6, _⟩ := DataW.trod_int Try.underlying3 ((hf 6 _ rfl).trans (g 6 (by omega)))
    obtain ⟨v7, e7, _⟩ := DataW.trod_string Try.underlying9 ((hf 7 _ rfl).trans (g 7 (by omega)))
    obtain ⟨s, o, e8, hB⟩ := open_bytes ((hf 8 _ rfl).trans (g 8 (by omega)))
    obtain ⟨v9, e9, _⟩ := DataW.trod_bool Try.underlying4 ((hf 9 _ rfl).trans (g 9 (by omega)))
    obtain ⟨v10, e10, _⟩ := DataW.trod_int Try.underlying3 ((hf 10 _ rfl).trans (g 10 (by omega)))
    obtain ⟨v11, e11, _⟩ := DataW.trod_string Try.underlying9 ((hf 11 _ rfl).trans (g 11 (by omega)))
    simp [c2, c3, c4, c9, c43] at e0 e1 e2 e3 e4 e5 e6 e7 e8 e9 e10 e11
    subst e0 e1 e2 e3 e4 e5 e6 e7 e8 e9 e10 e11
    exact ⟨⟨v0, v1, v2, v3, v4, v5, v6, v7, v9, v10, v11⟩, s, o, rfl, hB, w5⟩
theorem open_row {cs : List Value} {y : DataW H × List MemPlace} (h : DataW.trod enc Try.prog w base spare held fuel 51 cs = some y) : ∃ d r : Int, cs = rowCells d r ∧ (Lit.int .i64 d).wf = true ∧ (Lit.int .i64 r).wf = true := by
  obtain ⟨xs, n, _, _, hl, hlen, hf⟩ := DataW.trod_struct Try.underlying51 h
  rw [c51] at hl
  simp at hlen
  have g : ∀ i, i < 2 → xs[i]? = some (xs.getD i (.nil, [])) := fun i hi => by
    rw [List.getD_eq_getElem?_getD, List.getElem?_eq_getElem (by omega)]; rfl
  match cs, hl with
  | [a0, a1], _ =>
    obtain ⟨v0, e0, _, w0⟩ := DataW.trod_int Try.underlying2 ((hf 0 _ rfl).trans (g 0 (by omega)))
    obtain ⟨v1, e1, _, w1⟩ := DataW.trod_int Try.underlying2 ((hf 1 _ rfl).trans (g 1 (by omega)))
    simp [c2] at e0 e1
    subst e0 e1
    exact ⟨v0, v1, rfl, w0, w1⟩
theorem open_rep {cs : List Value} {y : DataW H × List MemPlace} (h : DataW.trod enc Try.prog w base spare held fuel 47 cs = some y) : ∃ (e : Rp) (s : Sl) (o : Option (List UInt8)), cs = repCells e s ∧ BytesAt w s o := by
  obtain ⟨xs, n, _, _, hl, hlen, hf⟩ := DataW.trod_struct Try.underlying47 h
  rw [c47] at hl
  simp at hlen
  have g : ∀ i, i < 3 → xs[i]? = some (xs.getD i (.nil, [])) := fun i hi => by
    rw [List.getD_eq_getElem?_getD, List.getElem?_eq_getElem (by omega)]; rfl
  match cs, hl with
  | [a0, a1, a2], _ =>
    obtain ⟨v0, e0, _⟩ := DataW.trod_string Try.underlying9 ((hf 0 _ rfl).trans (g 0 (by omega)))
    obtain ⟨v1, e1, _⟩ := DataW.trod_int Try.underlying3 ((hf 1 _ rfl).trans (g 1 (by omega)))
    obtain ⟨s, o, e2, hB⟩ := open_bytes ((hf 2 _ rfl).trans (g 2 (by omega)))
    simp [c3, c9, c43] at e0 e1 e2
    subst e0 e1 e2
    exact ⟨⟨v0, v1⟩, s, o, rfl, hB⟩
/-- A slice of structs of sz cells. -/
theorem open_sl {t e : TypeId} {sz : Nat} (ht : Try.prog.underlying t = some (.slice e)) (hc : Try.prog.cellsOf e = sz) (hs : 0 < sz) {cs : List Value} {x : DataW H × List MemPlace} (h : DataW.trod enc Try.prog w base spare held fuel t cs = some x) :
    ∃ (a : Option Addr) (b o n c : Nat), cs = [.slice a n c] ∧ ArgS a b o n c ∧ ∀ i, i < n → ∃ (cs' : List Value) (m : Nat) (y : DataW H × List MemPlace), cs'.length = sz ∧ (∀ f, f < sz → w.cell? ⟨b, o + i * sz + f, none⟩ = cs'[f]?) ∧ DataW.trod enc Try.prog w base spare held m e cs' = some y := by
  rcases Deep.open_slice ht h with ⟨rfl, _⟩ | ⟨a, len, cap, m, n, D, Pl, rfl, hb, hl, hm, hmm, _, hx⟩
  · exact ⟨none, 0, 0, 0, 0, rfl, Or.inl ⟨rfl, rfl, rfl⟩, fun i hi => by omega⟩
  · have hlm : len ≤ m := by rw [hmm]; split <;> omega
    have key : ∀ i, i < len → ∃ (cs' : List Value) (y : DataW H × List MemPlace), cs'.length = sz ∧ (∀ f, f < sz → w.cell? (a.add (i * sz + f)) = cs'[f]?) ∧ DataW.trod enc Try.prog w base spare held n e cs' = some y := fun i hi => by
      obtain ⟨cs', h1, h2⟩ := hx i (by omega)
      rw [hc] at h1
      obtain ⟨_, h3, h4⟩ := World.cells?_some h1
      exact ⟨cs', _, h3, fun f hf => by rw [← Deep.add_add]; exact h4 f hf, h2⟩
    refine ⟨some a, a.block, a.off, len, cap, rfl, Or.inr ⟨a.spot, rfl, fun h0 => ?_⟩, fun i hi => ?_⟩
    · obtain ⟨cs', y, h1, h2, _⟩ := key 0 h0
      have h3 := h2 0 hs
      rw [List.getElem?_eq_getElem (by omega)] at h3
      have := spot_none h3
      unfold Addr.add at this
      simpa using this
    · obtain ⟨cs', y, h1, h2, h3⟩ := key i hi
      refine ⟨cs', n, y, h1, fun f hf => ?_, h3⟩
      have h4 := h2 f hf
      rw [List.getElem?_eq_getElem (by omega)] at h4 ⊢
      rw [Nat.add_assoc]
      exact add_cell h4
theorem open_ents {cs : List Value} {x : DataW H × List MemPlace} (h : DataW.trod enc Try.prog w base spare held fuel 22 cs = some x) :
    ∃ (a : Option Addr) (b o n c : Nat) (E : Nat → Ent) (S : Nat → Sl) (Bo : Nat → Option (List UInt8)), cs = [.slice a n c] ∧ ArgS a b o n c ∧ (HoldsAt w b o n 12 fun i => entCells (E i) (S i)) ∧ (∀ i, i < n → BytesAt w (S i) (Bo i)) ∧ ∀ i, i < n → (Lit.int .i64 (E i).delta).wf = true := by
  obtain ⟨a, b, o, n, c, rfl, hA, hx⟩ := open_sl Try.underlying22 c45 (by omega) h
  obtain ⟨F, hF⟩ := @Deep.choose_lt (Ent × Sl × Option (List UInt8)) ⟨⟨.empty, .empty, 0, 0, 0, 0, 0, .empty, false, 0, .empty⟩, ⟨none, 0, 0⟩, none⟩ n (fun i y => (∀ f, f < 12 → w.cell? ⟨b, o + i * 12 + f, none⟩ = (entCells y.1 y.2.1)[f]?) ∧ BytesAt w y.2.1 y.2.2 ∧ (Lit.int .i64 y.1.delta).wf = true) (fun i hi => by
    obtain ⟨cs', m, y, h1, h2, h3⟩ := hx i hi
    obtain ⟨e, s, bo, rfl, h4, h5⟩ := open_ent h3
    exact ⟨(e, s, bo), h2, h4, h5⟩)
  exact ⟨a, b, o, n, c, fun i => (F i).1, fun i => (F i).2.1, fun i => (F i).2.2, rfl, hA, fun i hi f hf => (hF i hi).1 f hf, fun i hi => (hF i hi).2.1, fun i hi => (hF i hi).2.2⟩
theorem open_reps {cs : List Value} {x : DataW H × List MemPlace} (h : DataW.trod enc Try.prog w base spare held fuel 24 cs = some x) :
    ∃ (a : Option Addr) (b o n c : Nat) (E : Nat → Rp) (S : Nat → Sl) (Bo : Nat → Option (List UInt8)), cs = [.slice a n c] ∧ ArgS a b o n c ∧ (HoldsAt w b o n 3 fun i => repCells (E i) (S i)) ∧ ∀ i, i < n → BytesAt w (S i) (Bo i) := by
  obtain ⟨a, b, o, n, c, rfl, hA, hx⟩ := open_sl Try.underlying24 c47 (by omega) h
  obtain ⟨F, hF⟩ := @Deep.choose_lt (Rp × Sl × Option (List UInt8)) ⟨⟨.empty, 0⟩, ⟨none, 0, 0⟩, none⟩ n (fun i y => (∀ f, f < 3 → w.cell? ⟨b, o + i * 3 + f, none⟩ = (repCells y.1 y.2.1)[f]?) ∧ BytesAt w y.2.1 y.2.2) (fun i hi => by
    obtain ⟨cs', m, y, h1, h2, h3⟩ := hx i hi
    obtain ⟨e, s, bo, rfl, h4⟩ := open_rep h3
    exact ⟨(e, s, bo), h2, h4⟩)
  exact ⟨a, b, o, n, c, fun i => (F i).1, fun i => (F i).2.1, fun i => (F i).2.2, rfl, hA, fun i hi f hf => (hF i hi).1 f hf, fun i hi => (hF i hi).2⟩
theorem open_rows {cs : List Value} {x : DataW H × List MemPlace} (h : DataW.trod enc Try.prog w base spare held fuel 23 cs = some x) :
    ∃ (a : Option Addr) (b o n c : Nat) (D R : Nat → Int), cs = [.slice a n c] ∧ ArgS a b o n c ∧ (HoldsAt w b o n 2 fun i => rowCells (D i) (R i)) ∧ ∀ i, i < n → (Lit.int .i64 (D i)).wf = true ∧ (Lit.int .i64 (R i)).wf = true := by
  obtain ⟨a, b, o, n, c, rfl, hA, hx⟩ := open_sl Try.underlying23 c51 (by omega) h
  obtain ⟨F, hF⟩ := Deep.choose_lt (α := Int × Int) (n := n) (p := fun i y => (∀ f, f < 2 → w.cell? ⟨b, o + i * 2 + f, none⟩ = (rowCells y.1 y.2)[f]?) ∧ (Lit.int .i64 y.1).wf = true ∧ (Lit.int .i64 y.2).wf = true) (fun i hi => by
    obtain ⟨cs', m, y, h1, h2, h3⟩ := hx i hi
    obtain ⟨d, r, rfl, h4, h5⟩ := open_row h3
    exact ⟨(d, r), h2, h4, h5⟩)
  exact ⟨a, b, o, n, c, fun i => (F i).1, fun i => (F i).2, rfl, hA, fun i hi f hf => (hF i hi).1 f hf, fun i hi => (hF i hi).2⟩
theorem open_bal {v : Value} {x : DataW H × List MemPlace} (h : DataW.trod enc Try.prog w base spare held fuel 25 v.cells.toList = some x) : ∃ b0 b1 b2 : Int, v = .agg #[.int .i64 b0, .int .i64 b1, .int .i64 b2] := by
  obtain ⟨xs, m, _, _, hl, hlen, hf⟩ := DataW.trod_array Try.underlying25 h
  have c25 : Try.prog.cellsOf 25 = 3 := by kernel_rfl
  rw [c25] at hl
  have g : ∀ i, i < 3 → xs[i]? = some (xs.getD i (.nil, [])) := fun i hi => by
    rw [List.getD_eq_getElem?_getD, List.getElem?_eq_getElem (by omega)]; rfl
  obtain ⟨cs, rfl, hcs⟩ : ∃ cs : List Value, v = .agg cs.toArray ∧ cs.length = 3 := by
    cases v
    case agg cs => exact ⟨cs.toList, rfl, by simpa [Value.cells] using hl⟩
    all_goals (simp [Value.cells] at hl)
  match cs, hcs with
  | [a0, a1, a2], _ =>
    obtain ⟨v0, e0, _⟩ := DataW.trod_int Try.underlying2 ((hf 0 (by omega)).trans (g 0 (by omega)))
    obtain ⟨v1, e1, _⟩ := DataW.trod_int Try.underlying2 ((hf 1 (by omega)).trans (g 1 (by omega)))
    obtain ⟨v2, e2, _⟩ := DataW.trod_int Try.underlying2 ((hf 2 (by omega)).trans (g 2 (by omega)))
    simp [c2, Value.cells] at e0 e1 e2
    subst e0 e1 e2
    exact ⟨v0, v1, v2, rfl⟩
end
end Go.Proofs.Qxb6603057a
