/-
  BYTES THAT THE CALL ITSELF GATHERS, at this program: make, append of a byte, append of a string, string(..): the kit's laws, their side conditions paid once.
-/
import Derived.Test.Qxb6601034aQuoted
import Derived.Lib.AppendStr
import Derived.Laws.BytesArg
namespace Go.Proofs.Qxb6601034a
open Go.RowKit

/-- 'append(buf, c)', buf the call's own bytes. -/
theorem app1 {ops : Array Oper} {rest : List Oper} {o : Oper} {a : Act} {Q : Exit → Act → World → Prop} (W w0 : World) (hg : o.guard = none) (s x : Operand)
    (ho : o.op = Op.call { callee := Callee.builtin Builtin.append, args := #[s, x], argTypes := #[41, 41] }) (v : Value) (l : List UInt8) (c : UInt8) (xc : Int) (hxc : xc = (c.toNat : Int))
    (hv : a.eval s = v) (hown : w0.ownsRow W.heap.size 5 1 v l.length (Lib.byteCells l)) (hb : Below W.heap.size W w0)
    (hx : a.eval x = .slice (some ⟨w0.heap.size, 0, none⟩) 1 1) (hlen : l.length + 1 ≤ 140737488355328)
    (h : ∀ v' w', w'.ownsRow W.heap.size 5 1 v' (l ++ [c]).length (Lib.byteCells (l ++ [c])) → Below W.heap.size W w' → wpList Try.prog ops Q rest (a.put o.dst v') w') :
    wpList Try.prog ops Q (o :: rest) a (w0.alloc (.cells #[.int .u8 xc] 5)) := by
  obtain ⟨i0, hi, hz0, hz1, hz2⟩ := info_parts infoByte
  subst hxc
  have hsz := hb.size
  refine wpList_append_own _ hg s x 41 ho W.heap.size 5 i0 (.int .u8 0) 1 1 Try.underlying41 hi hz0 hz1 hz2 rfl (by decide) v l.length _ hv (hown.alloc _) ⟨w0.heap.size, 0, none⟩ 1 1 [.int .u8 c.toNat] hx rfl ?_ ?_ (by unfold maxLen; omega) (by omega) (by simp; omega) ?_
  · intro j u hj
    match j, hj with
    | 0, hj => simp at hj; subst hj; simp [Addr.add]
  · intro u hu; simp at hu; subst hu; rfl
  · intro v' w' hown' hgrow _
    refine h v' w' ?_ ((hb.alloc hsz _).grown hgrow (by simp; omega) (fun k hk => (hown.lt k hk).1))
    rw [Lib.byteCells_append, List.length_append]
    exact hown'
/-- 'append(buf, s...)', s a string. -/
theorem appS {ops : Array Oper} {rest : List Oper} {o : Oper} {a : Act} {Q : Exit → Act → World → Prop} (W w0 : World) (hg : o.guard = none) (sl x : Operand)
    (ho : o.op = Op.call { callee := Callee.builtin Builtin.append, args := #[sl, x], argTypes := #[41, 9] }) (v : Value) (l : List UInt8) (s : ByteArray)
    (hv : a.eval sl = v) (hown : w0.ownsRow W.heap.size 5 1 v l.length (Lib.byteCells l)) (hb : Below W.heap.size W w0)
    (hx : a.eval x = .string s) (hlen : l.length + s.size ≤ 140737488355328)
    (h : ∀ v' w', w'.ownsRow W.heap.size 5 1 v' (l ++ s.data.toList).length (Lib.byteCells (l ++ s.data.toList)) → Below W.heap.size W w' → wpList Try.prog ops Q rest (a.put o.dst v') w') :
    wpList Try.prog ops Q (o :: rest) a w0 := by
  obtain ⟨i0, hi, hz0, hz1, hz2⟩ := info_parts infoByte
  have hsz := hb.size
  refine Lib.wpList_append_own_string _ hg sl x 41 9 ho W.heap.size 5 i0 Try.underlying41 Try.underlying9 hi hz0 hz1 hz2 v l.length _ hv hown s hx (by unfold maxLen; omega) hlen hsz ?_
  intro v' w' hown' hgrow _
  refine h v' w' ?_ (hb.grown hgrow hsz (fun k hk => (hown.lt k hk).1))
  have e : s.size = s.data.toList.length := Array.length_toList.symm
  rw [Lib.byteCells_append, List.length_append, ← e]
  exact hown'
/-- 'make([]byte, 0, n)'. -/
theorem make0 {ops : Array Oper} {rest : List Oper} {o : Oper} {a : Act} {Q : Exit → Act → World → Prop} (W : World) (hg : o.guard = none) (l c : Operand) (ho : o.op = Op.makeSlice 41 l c)
    (C : Int) (n : Nat) (hl : a.eval l = .int .i64 0) (hc : a.eval c = .int .i64 C) (hC : C = n) (hn : n ≤ 281474976710656)
    (h : ∀ v' w', w'.ownsRow W.heap.size 5 1 v' ([] : List UInt8).length (Lib.byteCells []) → Below W.heap.size W w' → wpList Try.prog ops Q rest (a.put o.dst v') w') :
    wpList Try.prog ops Q (o :: rest) a W := by
  obtain ⟨i0, hi, hz0, hz1, hz2⟩ := info_parts infoByte
  refine wpList_make_own _ hg l c 41 ho W.heap.size 5 i0 (.int .u8 0) 1 Try.underlying41 hi hz0 hz1 .i64 .i64 C n hl hc hC (by rw [hz2]; omega) (by unfold maxLen; omega) (Nat.le_refl _) ?_
  intro w' hown hgrow
  exact h _ w' hown ((Below.refl _ _).grown hgrow (Nat.le_refl _) (fun k hk => by cases hk))
/-- 'string(buf)'. -/
theorem conv_own {w : World} {B : Nat} {v : Value} {l : List UInt8} (hown : w.ownsRow B 5 1 v l.length (Lib.byteCells l)) : (convert 41 9 v).run Try.prog w = .ok (.string ⟨l.toArray⟩) w := by
  rcases hown.2 with ⟨hv, h0⟩ | ⟨g, cap, cur, hv, _⟩
  · rw [hv, run_convert_bytes_nil w 41 5 Try.underlying41 Try.underlying5 0 0 9 Try.underlying9]
    have : l = [] := List.eq_nil_of_length_eq_zero h0
    rw [this]; rfl
  · subst hv
    refine run_convert_bytes_back w 41 9 5 ⟨g, 0, none⟩ cap l Try.underlying41 Try.underlying5 Try.underlying9 ?_
    intro j hj
    exact hown.cells rfl j _ (by simp [Lib.byteCells, hj])
end Go.Proofs.Qxb6601034a
