/-
  A map[int64]int64 THAT IS nil OR A BLOCK ('MapO'): looked up and ranged over by one law each.
-/
import Derived.Test.Qxb6603057aSums
import Derived.Maps.RangeWalk
import Derived.Laws.IdiomRangeMap
namespace Go.Proofs.Qxb6603057a
open Go.RowKit Go.Maps

theorem lookInt {w : World} {b n : Nat} {D : DataW Unit} {f : Int → Option Int} (h : w.ownsMap Try.prog 2 (plainElem Try.prog 2) b n D) (hI : IntMap D f) (x : Int) (hx : (Lit.int .i64 x).wf = true) :
    (Instr.lookup 38 (.map (some b)) (.int .i64 x) false).run Try.prog w = .ok (.int .i64 ((f x).getD 0)) w := by
  obtain ⟨c, hrun, hat, _⟩ := h.lookup_int (t := 38) keyed2 Try.underlying38 Try.underlying2 (zero2 w) (keyOf_int_mk Try.underlying2 hx)
  rw [hrun]
  rw [(hI.2 x).2] at hat
  cases hq : f x with
  | none => rw [hq] at hat; injection hat with h1; injection h1 with _ h2; rw [← h2]; rfl
  | some v => rw [hq] at hat; injection hat with h1; injection h1 with _ h2; rw [← h2]; rfl
/-- The map value '.map ho' reads as D: nil, or a block. -/
def MapO (ho : Option Nat) (nh : Nat) (D : DataW Unit) (X : World) : Prop := (ho = none ∧ D = .map []) ∨ ∃ b, ho = some b ∧ X.ownsMap Try.prog 2 (plainElem Try.prog 2) b nh D
theorem MapO.keep {ho : Option Nat} {nh : Nat} {D : DataW Unit} {X Y : World} (h : MapO ho nh D X) (hb : Below X.heap.size X Y) : MapO ho nh D Y := by
  rcases h with h | ⟨b, e, h⟩
  · exact Or.inl h
  · exact Or.inr ⟨b, e, ownsMap_keep h hb⟩
theorem MapO.tidy {ho : Option Nat} {nh : Nat} {D : DataW Unit} {X : World} (h : MapO ho nh D X) : Tidy D := by
  rcases h with ⟨_, rfl⟩ | ⟨b, _, h⟩
  · exact tidy_empty
  · exact h.tidy keyed2
theorem MapO.look {ho : Option Nat} {nh : Nat} {D : DataW Unit} {X : World} {f : Int → Option Int} (h : MapO ho nh D X) (hI : IntMap D f) (x : Int) (hx : (Lit.int .i64 x).wf = true) :
    (Instr.lookup 38 (.map ho) (.int .i64 x) false).run Try.prog X = .ok (.int .i64 ((f x).getD 0)) X := by
  rcases h with ⟨rfl, rfl⟩ | ⟨b, rfl, h⟩
  · have e := Maps.look_nil (P := Try.prog) (w := X) (t := 38) (k := 2) (e := 2) false keyed2 Try.underlying38 (zero2 X) (keyOf_int_mk Try.underlying2 hx)
    rw [e]
    have h0 : f x = none := by
      have := (hI.2 x).1
      cases hq : f x with
      | none => rfl
      | some v => rw [hq] at this; cases this
    rw [h0]; rfl
  · exact lookInt h hI x hx
/-- An iterator (block r) over '.map ho'; 'left': which keys are still to come. -/
def RO (ho : Option Nat) (r nh : Nat) (D : DataW Unit) (left : Lit → Bool) (cnt : Nat) (X : World) : Prop :=
  (ho = none ∧ (∃ a s c, X.heap[r]? = some (.mapIter none a s c)) ∧ ∀ kl, left kl = false) ∨ ∃ b, ho = some b ∧ X.ranges Try.prog 2 (plainElem Try.prog 2) b r nh D left cnt
theorem RO.kept {ho : Option Nat} {r nh : Nat} {D : DataW Unit} {left : Lit → Bool} {cnt : Nat} {X Y : World} {row : Option Nat} (h : RO ho r nh D left cnt X) (hg : X.grownBy Y row) (hb : ∀ b, ho = some b → some b ≠ row) (hr : some r ≠ row) : RO ho r nh D left cnt Y := by
  rcases h with ⟨e, ⟨a, s, c, h1⟩, h2⟩ | ⟨b, e, h⟩
  · exact Or.inl ⟨e, ⟨a, s, c, (hg.block r (Array.getElem?_eq_some_iff.1 h1).1 hr).trans h1⟩, h2⟩
  · exact Or.inr ⟨b, e, h.kept hg (hb b e) hr⟩
theorem RO.left_eq {ho : Option Nat} {r nh : Nat} {D : DataW Unit} {left : Lit → Bool} {cnt : Nat} {X : World} {b : Nat} (h : RO ho r nh D left cnt X) (hb : ho = some b) : X.rangeLeft b r = cnt := by
  rcases h with ⟨e, _⟩ | ⟨b', e, h⟩
  · rw [e] at hb; cases hb
  · rw [e] at hb; cases hb; exact h.left_eq
theorem run_next_nil_at (w : World) (ty : TypeId) (r a b : Nat) (s : Array Nat) (h : w.heap[r]? = some (.mapIter none a s b)) :
    (Instr.next (.pointer (some ⟨r, 0, none⟩)) false ty).run Try.prog w = .ok (.tuple #[.bool false]) w := by
  simp only [Instr.next, getObj, Sem.run_bind, Sem.run, h, Result.andThen]
  rfl
section
variable (w : World) {ops : Array Oper} {rest : List Oper} {o : Oper} {a : Act} {Q : Exit → Act → World → Prop}
/-- 'range m'. -/
theorem wpList_rangeO (hg : o.guard = none) (m : Operand) (hop : o.op = Op.range 38 m) (ho : Option Nat) (nh : Nat) (D : DataW Unit) (hm : a.eval m = .map ho) (hown : MapO ho nh D w)
    (hK : ∀ w', RO ho w.heap.size nh D (Maps.has D) (Maps.size D) w' → w.grownBy w' none → w'.heap.size = w.heap.size + 1 → wpList Try.prog ops Q rest (a.put o.dst (.pointer (some ⟨w.heap.size, 0, none⟩))) w') :
    wpList Try.prog ops Q (o :: rest) a w := by
  rcases hown with ⟨rfl, rfl⟩ | ⟨b, rfl, h⟩
  · refine wpList_plain hg fun K' hK' => ?_
    have hrun := run_range_nilMap (P := Try.prog) w 38 2 2 Try.underlying38
    unfold Oper.wp
    simp [execOp, hop, hm, hrun, Result.andThen]
    refine hK' _ _ (hK _ (Or.inl ⟨rfl, ⟨0, #[], 0, by show (w.heap.push _)[w.heap.size]? = _; simp⟩, fun kl => rfl⟩) (World.grownBy_alloc w _ none) (by simp))
  · refine wpList_range_own w hg m 38 hop 2 2 keyed2 Try.underlying38 _ b nh D hm h ?_
    intro w' h1 h2 h3
    exact hK w' (Or.inr ⟨b, rfl, h1⟩) h2 h3
/-- THE STEP. -/
theorem wpList_nextO (hg : o.guard = none) (it : Operand) (hop : o.op = Op.next it false) (ho : Option Nat) (r nh : Nat) (D : DataW Unit) (left : Lit → Bool) (cnt : Nat) (hit : a.eval it = .pointer (some ⟨r, 0, none⟩)) (h : RO ho r nh D left cnt w)
    (hDone : (∀ kl, left kl = false) → wpList Try.prog ops Q rest (a.put o.dst (.tuple #[.bool false])) w)
    (hMore : ∀ (b : Nat) (x c : Int) (w' : World) (cnt' : Nat), ho = some b → (Lit.int .i64 x).wf = true → (Lit.int .i64 c).wf = true → left (.int .i64 x) = true → (∀ zd, D.atKey (.int .i64 x) zd = .lit (.int .i64 c)) → RO ho r nh D (fun z => left z && !z.sameKey (.int .i64 x)) cnt' w' → cnt' < cnt →
      w.grownBy w' (some r) → w'.heap.size = w.heap.size → (Instr.entry (.pointer (some ⟨r, 0, none⟩))).run Try.prog w' = .ok (.tuple #[.int .i64 x, .int .i64 c]) w' → wpList Try.prog ops Q rest (a.put o.dst (.tuple #[.bool true, .int .i64 x, .int .i64 c])) w') :
    wpList Try.prog ops Q (o :: rest) a w := by
  rcases h with ⟨rfl, ⟨p, s, c, h1⟩, h2⟩ | ⟨b, rfl, h⟩
  · refine wpList_plain hg fun K' hK' => ?_
    have hrun := run_next_nil_at w o.type r p c s h1
    unfold Oper.wp
    simp [execOp, hop, hit, hrun, Result.andThen]
    exact hK' _ _ (hDone h2)
  · refine wpList_next_ranges_ii w hg it hop 2 2 .i64 .i64 keyed2 Try.underlying2 Try.underlying2 b r nh D left cnt hit h (fun _ h0 => hDone h0) ?_
    intro x c w' cnt' h1 h2 h3 h4 h5 h6 h7 h8 h9
    exact hMore b x c w' cnt' rfl h1 h2 h3 h4 (Or.inr ⟨b, rfl, h5⟩) h6 h7 h8 h9
end
end Go.Proofs.Qxb6603057a
