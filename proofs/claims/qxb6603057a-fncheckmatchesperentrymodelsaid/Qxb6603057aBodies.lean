/-
  bytes.Equal, Entry.BodyBytes: THE CONTRACTS; the copy of the three balances.
-/
import Derived.Test.Qxb6603057aConvs
import Derived.Laws.BytesArg
import Derived.Laws.IdiomStrings
import Derived.Laws.CopyRow
import Derived.Deep.WholeRow
namespace Go.Proofs.Qxb6603057a
open Go.RowKit Go.Maps

/-- 'string(b)'. -/
theorem conv_bytes {w : World} {s : Sl} {o : Option (List UInt8)} (h : BytesAt w s o) : (convert 43 9 (.slice s.a s.l s.c)).run Try.prog w = .ok (.string ⟨(o.getD []).toArray⟩) w := by
  rcases h with ⟨rfl, rfl⟩ | ⟨b, off, sp, l, h1, rfl, h3, h4, h5⟩
  · rw [run_convert_bytes_nil w 43 5 Try.underlying43 Try.underlying5 0 0 9 Try.underlying9]; rfl
  · rw [h1, ← h3]
    refine run_convert_bytes_back w 43 9 5 ⟨b, off, sp⟩ s.c l Try.underlying43 Try.underlying5 Try.underlying9 ?_
    intro j hj
    obtain rfl := h4 (by omega)
    rw [Go.WideShapes.add_plain]
    exact h5 j hj
/-- bytes.Equal. -/
theorem bytesEqual (s t : Sl) (o p : Option (List UInt8)) (w : World) (hs : BytesAt w s o) (ht : BytesAt w t p) :
    Calls Try.prog 27 #[.slice s.a s.l s.c, .slice t.a t.l t.c] w fun e w' => e = .returned (.bool (o.getD [] == p.getD [])) ∧ w = w' := by
  have h1 := conv_bytes hs
  have h2 := conv_bytes ht
  go_enter Try.func27, Try.ntmps27
  go_wp2
  go_ret
  exact ⟨by simp, rfl⟩
/-- Entry.BodyBytes: BodyBase64 where it is not nil, else Body's bytes. -/
theorem bodyBytes (e : Ent) (s : Sl) (o : Option (List UInt8)) (w : World) (hs : BytesAt w s o) :
    Calls Try.prog 28 #[.agg (entCells e s).toArray] w fun r w' => ∃ t : Sl, r = .returned (.slice t.a t.l t.c) ∧ BytesAt w' t (some (o.getD e.body.data.toList)) ∧ Below w.heap.size w w' := by
  have hk := hs
  rcases hs with ⟨rfl, rfl⟩ | ⟨b, off, sp, l, h1, rfl, h3, h4, h5⟩
  · have hnil := fun wx => run_neq_slice_nil_any (P := Try.prog) wx 43 5 none 0 0 0 0 Try.underlying43
    have hcv := fun wx => run_bytes_of_string (P := Try.prog) wx 9 43 5 e.body Try.underlying9 Try.underlying43 Try.underlying5
    simp only [entCells]
    go_enter Try.func28, Try.ntmps28
    go_wp2
    go_ret
    refine ⟨⟨some ⟨w.heap.size + 1, 0, none⟩, e.body.size, _⟩, rfl, Or.inr ⟨w.heap.size + 1, 0, none, e.body.data.toList, rfl, rfl, Array.length_toList, fun _ => rfl, fun j hj => ?_⟩, ((((Below.refl _ _).alloc (Nat.le_refl _) _).alloc (by simp) _).drew)⟩
    have e1 : ∀ (C : Array Value) (fr : Nat × Nat) (o1 : Obj), (((w.alloc o1).alloc (.cells C 5 fr)).drew).cell? ⟨w.heap.size + 1, j, none⟩ = C[j]? := fun C fr o1 => by
      have hz : (w.alloc o1).heap.size = w.heap.size + 1 := by simp
      rw [← hz]; exact World.cell?_alloc_mark _ _ _ _ _
    rw [Nat.zero_add]
    refine (e1 _ _ _).trans ?_
    rw [bytesRow_at _ _ _ (by simpa using hj)]
    simp
  · have hnil := fun wx => run_neq_slice_nil_any (P := Try.prog) wx 43 5 s.a s.l s.c 0 0 Try.underlying43
    have hnn : s.a.isNone = false := by rw [h1]; rfl
    clear h1 h3 h4 h5
    simp only [entCells]
    go_enter Try.func28, Try.ntmps28
    go_wp2
    go_ret
    exact ⟨s, rfl, hk.keep ((Below.refl _ _).alloc (Nat.le_refl _) _), (Below.refl _ _).alloc (Nat.le_refl _) _⟩
theorem cellNew {w : World} {p : Addr} {v : Value} (h : w.cell? p = some v) (o : Obj) : (w.alloc o).cell? p = some v := by
  rw [World.cell?_alloc_lt _ _ _ (World.block_lt_of_cell? w _ h)]; exact h
/-- 'copy(r.Sums[:3], l.balances[:])', r the block that was made last. -/
theorem run_copy3 (w : World) (o1 : Obj) (lb : Nat) (x0 x1 x2 x3 x4 x5 x6 x7 x8 x9 x10 : Value) (b0 b1 b2 : Int)
    (l2 : w.cell? ⟨lb, 2, none⟩ = some (.int .i64 b0)) (l3 : w.cell? ⟨lb, 3, none⟩ = some (.int .i64 b1)) (l4 : w.cell? ⟨lb, 4, none⟩ = some (.int .i64 b2)) (ty : TypeId) :
    (Builtin.copy_ #[68, 68] ty #[.slice (some ⟨w.heap.size + 1, 7, none⟩) 3 4, .slice (some ⟨lb, 2, none⟩) 3 3]).run Try.prog (((w.alloc o1).alloc (.cells #[x0, x1, x2, x3, x4, x5, x6, x7, x8, x9, x10] 34)).drew) =
      .ok (.int .i64 3) (((w.alloc o1).alloc (.cells #[x0, x1, x2, x3, x4, x5, x6, .int .i64 b0, .int .i64 b1, .int .i64 b2, x10] 34)).drew) := by
  have hsz : (w.alloc o1).heap.size = w.heap.size + 1 := by simp
  have hg : ((w.alloc o1).alloc (.cells #[x0, x1, x2, x3, x4, x5, x6, x7, x8, x9, x10] 34)).drew.heap[w.heap.size + 1]? = some (.cells #[x0, x1, x2, x3, x4, x5, x6, x7, x8, x9, x10] 34 (0, 0)) := by
    rw [← hsz]; exact heap_alloc_last (w.alloc o1) _
  have := run_copy_row (P := Try.prog) (((w.alloc o1).alloc (.cells #[x0, x1, x2, x3, x4, x5, x6, x7, x8, x9, x10] 34)).drew) 68 68 ty 2 (w.heap.size + 1) 7 3 4 ⟨lb, 2, none⟩ 3 3 _ 34 [.int .i64 b0, .int .i64 b1, .int .i64 b2] Try.underlying68 (by kernel_rfl) hg rfl
    (fun j v hj => by
      match j, hj with
      | 0, hj => simp at hj; subst hj; exact cellNew (cellNew l2 _) _
      | 1, hj => simp at hj; subst hj; exact cellNew (cellNew l3 _) _
      | 2, hj => simp at hj; subst hj; exact cellNew (cellNew l4 _) _) (by simp) (fun v hv => by simp at hv; rcases hv with rfl | rfl | rfl <;> rfl)
  rw [this]
  have e : ∀ c', ((w.alloc o1).alloc (.cells #[x0, x1, x2, x3, x4, x5, x6, x7, x8, x9, x10] 34)).setRow (w.heap.size + 1) c' = (w.alloc o1).alloc (.cells c' 34) := fun c' => by rw [← hsz]; exact World.setRow_alloc_new _ _ _ _
  exact congrArg (fun z => Result.ok (Value.int .i64 3) (World.drew z)) (e _)
end Go.Proofs.Qxb6603057a
