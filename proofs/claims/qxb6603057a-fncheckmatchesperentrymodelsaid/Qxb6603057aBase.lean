/-
  ROWS OF STRUCTS AND OF BYTES, at this program: what a slice's cells hold ('HoldsAt', 'BytesAt'), carried from world to world; 'make([]T, n)'; a row that the call fills element by element ('Filled').
-/
import Derived.Test.Qxb6603057aRows
import Derived.WalkKit
import Derived.WalkSpells
namespace Go.Proofs.Qxb6603057a
open Go.RowKit

/-! ### worlds -/
theorem keep {w w' : World} (hb : Below w.heap.size w w') {p : Addr} {v : Value} (h : w.cell? p = some v) : w'.cell? p = some v :=
  (hb.cell (World.block_lt_of_cell? w _ h)).trans h
theorem cellB {w : World} {b : Nat} {cs : Array Value} {T : TypeId} {fr : Nat × Nat} (hb : w.heap[b]? = some (.cells cs T fr)) (j : Nat) : w.cell? ⟨b, j, none⟩ = cs[j]? := by
  simp [World.cell?, hb]
theorem frozenB {w : World} {b : Nat} {cs : Array Value} {T : TypeId} (hb : w.heap[b]? = some (.cells cs T (0, 0))) (j : Nat) : w.frozen? ⟨b, j, none⟩ = false := by
  simp [World.frozen?, hb]
theorem someAt {cs : Array Value} {j : Nat} (h : j < cs.size) : ∃ v, cs[j]? = some v := ⟨cs[j], by simp [h]⟩
theorem put1 {w : World} {g : Nat} {C : Array Value} {t : TypeId} {fr : Nat × Nat} (h : w.heap[g]? = some (.cells C t fr)) (o : Nat) (v : Value) : (w.setCell ⟨g, o, none⟩ v).heap[g]? = some (.cells (C.setIfInBounds o v) t fr) := by
  simp [World.setCell, Array.getElem?_modify, h]
theorem put1_other {w : World} {g g' : Nat} {x : Option Obj} (h : w.heap[g']? = x) (hne : g' ≠ g) (o : Nat) (v : Value) : (w.setCell ⟨g, o, none⟩ v).heap[g']? = x := by
  rw [Below.heap_setCell _ _ _ _ (by simpa using hne)]; exact h

/-! ### a row filled element by element -/
/-- The cells vs, laid into C from place o on. -/
def putL (C : Array Value) (o : Nat) : List Value → Array Value
  | [] => C
  | v :: r => putL (C.setIfInBounds o v) (o + 1) r
theorem putL_size (vs : List Value) : ∀ (C : Array Value) (o : Nat), (putL C o vs).size = C.size := by
  induction vs with
  | nil => intro C o; rfl
  | cons v r ih => intro C o; rw [putL, ih]; simp
theorem putL_out (vs : List Value) : ∀ (C : Array Value) (o j : Nat), (j < o ∨ o + vs.length ≤ j) → (putL C o vs)[j]? = C[j]? := by
  induction vs with
  | nil => intro C o j _; rfl
  | cons v r ih =>
    intro C o j h
    rw [putL, ih _ _ _ (by simp at h; omega)]
    rw [Array.getElem?_setIfInBounds, if_neg (by simp at h; omega)]
theorem putL_in (vs : List Value) : ∀ (C : Array Value) (o f : Nat), o + vs.length ≤ C.size → f < vs.length → (putL C o vs)[o + f]? = vs[f]? := by
  induction vs with
  | nil => intro C o f _ h; simp at h
  | cons v r ih =>
    intro C o f hs h
    rw [putL]
    cases f with
    | zero =>
      have e := putL_out r (C.setIfInBounds o v) (o + 1) o (Or.inl (by omega))
      have hs' : o < C.size := by simp at hs; omega
      show (putL (C.setIfInBounds o v) (o + 1) r)[o]? = some v
      rw [e, Array.getElem?_setIfInBounds]
      simp [hs']
    | succ f =>
      rw [show o + (f + 1) = o + 1 + f by omega, ih _ _ _ (by simp at hs ⊢; omega) (by simpa using h)]
      rfl
/-- The first k elements (s cells each) of the row C are as F says. -/
def Filled (C : Array Value) (n s k : Nat) (F : Nat → List Value) : Prop := C.size = n * s ∧ ∀ i, i < k → ∀ f, f < s → C[i * s + f]? = (F i)[f]?
theorem mul_lt {i k s : Nat} (h : i < k) : i * s + s ≤ k * s := by
  have := Nat.mul_le_mul_right s (show i + 1 ≤ k from h)
  rw [Nat.add_mul] at this; omega
theorem Filled.step {C : Array Value} {n s k : Nat} {F : Nat → List Value} (h : Filled C n s k F) (hk : k < n) (hl : (F k).length = s) : Filled (putL C (k * s) (F k)) n s (k + 1) F := by
  refine ⟨by rw [putL_size]; exact h.1, fun i hi f hf => ?_⟩
  have hkn := mul_lt (s := s) hk
  rcases Nat.lt_or_ge i k with hlt | hge
  · have := mul_lt (s := s) hlt
    rw [putL_out _ _ _ _ (Or.inl (by omega))]
    exact h.2 i hlt f hf
  · obtain rfl : i = k := by omega
    exact putL_in _ _ _ _ (by rw [h.1]; omega) (by omega)
theorem Filled.congr {C : Array Value} {n s k : Nat} {F G : Nat → List Value} (h : Filled C n s k F) (hFG : ∀ i, i < k → F i = G i) : Filled C n s k G :=
  ⟨h.1, fun i hi f hf => by rw [← hFG i hi]; exact h.2 i hi f hf⟩
/-- n elements of s cells each lie in block b from place o on, as F says. -/
def HoldsAt (w : World) (b o n s : Nat) (F : Nat → List Value) : Prop := ∀ i, i < n → ∀ f, f < s → w.cell? ⟨b, o + i * s + f, none⟩ = (F i)[f]?
theorem HoldsAt.keep {w w' : World} {b o n s : Nat} {F : Nat → List Value} (h : HoldsAt w b o n s F) (hl : ∀ i, i < n → (F i).length = s) (hb : Below w.heap.size w w') : HoldsAt w' b o n s F := fun i hi f hf => by
  have h1 := h i hi f hf
  have hlt : f < (F i).length := by rw [hl i hi]; exact hf
  rw [List.getElem?_eq_getElem hlt] at h1 ⊢
  exact Qxb6603057a.keep hb h1
theorem HoldsAt.of_filled {w : World} {g n s : Nat} {C : Array Value} {t : TypeId} {F : Nat → List Value} (hg : w.heap[g]? = some (.cells C t (0, 0))) (h : Filled C n s n F) : HoldsAt w g 0 n s F := fun i hi f hf => by
  rw [cellB hg, Nat.zero_add]; exact h.2 i hi f hf

/-- 'make([]T, n)'. -/
theorem makeN {ops : Array Oper} {rest : List Oper} {o : Oper} {a : Act} {Q : Exit → Act → World → Prop} (W : World) (hg : o.guard = none) (l c : Operand) (t e : TypeId) (ho : o.op = Op.makeSlice t l c)
    (z : Value) (size bytes : Nat) (ht : Try.prog.underlying t = some (.slice e)) (hinfo : (Try.prog.info? e).map (fun i => (i.zero, i.size, i.bytes)) = some (some z, size, bytes))
    (L C : Int) (n : Nat) (hl : a.eval l = .int .i64 L) (hc : a.eval c = .int .i64 C) (hL : L = n) (hC : C = n) (hn : bytes * n ≤ 281474976710656) (hn2 : n ≤ maxLen)
    (h : ∀ w' cur, w'.heap[W.heap.size]? = some (.cells cur e (0, 0)) → cur.size = n * size → Below W.heap.size W w' → wpList Try.prog ops Q rest (a.put o.dst (.slice (some ⟨W.heap.size, 0, none⟩) n n)) w') :
    wpList Try.prog ops Q (o :: rest) a W := by
  obtain ⟨i0, hi, hz0, hz1, hz2⟩ := info_parts hinfo
  refine wpList_make_full _ hg l c t ho W.heap.size e i0 z size ht hi hz0 hz1 .i64 .i64 L C n hl hc hL hC (by rw [hz2]; exact hn) hn2 (Nat.le_refl _) ?_
  intro w' hown hgrow
  rcases hown.2 with ⟨hv, _⟩ | ⟨g, cap, cur, hv, _, hh, h1, h2, h3, _⟩
  · cases hv
  · cases hv
    exact h w' cur hh h3 ((Below.refl _ _).grown hgrow (Nat.le_refl _) (fun k hk => by cases hk))

/-! ### bytes -/
/-- A slice's header. -/
structure Sl where
  a : Option Addr
  l : Nat
  c : Nat
def Sl.v (s : Sl) : Value := .slice s.a s.l s.c
/-- The slice s is nil (o = none), or holds the bytes o. -/
def BytesAt (w : World) (s : Sl) (o : Option (List UInt8)) : Prop :=
  (s = ⟨none, 0, 0⟩ ∧ o = none) ∨
  ∃ (b off : Nat) (sp : Option Nat) (l : List UInt8), s.a = some ⟨b, off, sp⟩ ∧ o = some l ∧ l.length = s.l ∧ (0 < s.l → sp = none) ∧ ∀ j (h : j < l.length), w.cell? ⟨b, off + j, none⟩ = some (.int .u8 (l[j].toNat : Int))
theorem BytesAt.keep {w w' : World} {s : Sl} {o : Option (List UInt8)} (h : BytesAt w s o) (hb : Below w.heap.size w w') : BytesAt w' s o := by
  rcases h with h | ⟨b, off, sp, l, h1, h2, h3, h4, h5⟩
  · exact Or.inl h
  · exact Or.inr ⟨b, off, sp, l, h1, h2, h3, h4, fun j hj => Qxb6603057a.keep hb (h5 j hj)⟩

/-! ### the three structs -/
/-- An Ent, but for its BodyBase64. -/
structure Ent where
  key : ByteArray
  req : ByteArray
  aid : Int
  tid : Int
  bid : Int
  delta : Int
  status : Int
  body : ByteArray
  replayed : Bool
  tries : Int
  url : ByteArray
def entCells (e : Ent) (s : Sl) : List Value := [.string e.key, .string e.req, .int .i64 e.aid, .int .i64 e.tid, .int .i64 e.bid, .int .i64 e.delta, .int .i64 e.status, .string e.body, .slice s.a s.l s.c, .bool e.replayed, .int .i64 e.tries, .string e.url]
def rowCells (d r : Int) : List Value := [.int .i64 d, .int .i64 r]
/-- A Rep, but for its Body. -/
structure Rp where
  key : ByteArray
  status : Int
def repCells (r : Rp) (s : Sl) : List Value := [.string r.key, .int .i64 r.status, .slice s.a s.l s.c]
theorem entCells_length (e : Ent) (s : Sl) : (entCells e s).length = 12 := rfl
theorem rowCells_length (d r : Int) : (rowCells d r).length = 2 := rfl
theorem repCells_length (r : Rp) (s : Sl) : (repCells r s).length = 3 := rfl
end Go.Proofs.Qxb6603057a
