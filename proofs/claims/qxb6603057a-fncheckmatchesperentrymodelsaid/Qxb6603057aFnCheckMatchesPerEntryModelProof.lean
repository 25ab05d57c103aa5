/-
  THE ROW of 'FnCheckMatchesPerEntryModel' PROVED: the guide's frame at this function's number and types; the walk is the prover's.
-/
import Derived.Test.Qxb6603057aRows
import Derived.Test.Qxb6603057aLaw3
import Derived.Test.Qxb6603057aOpen
import Derived.Carry
import Derived.WideKeyArr
namespace Go.Proofs.Qxb6603057a.fnCheckMatchesPerEntryModel
open Go.ChangeShapes Go.WideShapes Go.ChangeAt Go.RowKit

theorem own : ownKnob Try.prog.godebug = none := by kernel_rfl
theorem laid : laidOutB Try.prog = true := by kernel_rfl

set_option maxRecDepth 100000 in
theorem lifted (os : Os) (started : os.Started) (H : Type) (enc : TypeId × Value → H) :
    ReturnsInHanded {} Try.checked os 3 .any (Rows.fnCheckMatchesPerEntryModelSpec.pre6 enc Try.prog Try.f3 Rows.fnCheckMatchesPerEntryModelRow.domain false) (Rows.fnCheckMatchesPerEntryModelSpec.post enc Try.prog Try.f3 false true false false) := by
  refine returnsInHanded_of_change (C := Try.checked) own started (by kernel_rfl) Try.func3
    (ChangeSpec.witness6 (enc := enc) (C := Try.checked) false ⟨#[], #[.slice none 0 0, .slice none 0 0, .bool false, .slice none 0 0, .agg #[.int .i64 0, .int .i64 0, .int .i64 0]], []⟩ 8 (by kernel_rfl) (by kernel_rfl) (by kernel_rfl) (by kernel_rfl)) ?_
  intro W base args ds gs before hval0 hW hcnd _
  have hval : ∀ (j : Nat) t v, Try.f3.params[j]? = some t → args[j]? = some v → Value.okWide Try.prog W .any base t v := hval0
  have hW' := hW
  obtain ⟨p, q, hA0, hV, rfl, hfz, hnd⟩ := hW
  have hA : DataW.TrodAll enc Try.prog W 0 (fun _ => true) true Try.f3.params.toList args.toList ds p := hA0
  rw [Try.params3] at hA hval
  obtain ⟨v0, vs0, d0, ds0, p0, q0, hargs, rfl, rfl, h0, r0⟩ := trodAll_cons hA
  obtain ⟨v1, vs1, d1, ds1, p1, q1, rfl, rfl, rfl, h1, r1⟩ := trodAll_cons r0
  obtain ⟨v2, vs2, d2, ds2, p2, q2, rfl, rfl, rfl, h2, r2⟩ := trodAll_cons r1
  obtain ⟨v3, vs3, d3, ds3, p3, q3, rfl, rfl, rfl, h3, r3⟩ := trodAll_cons r2
  obtain ⟨v4, vs4, d4, ds4, p4, q4, rfl, rfl, rfl, h4, r4⟩ := trodAll_cons r3
  obtain ⟨rfl, rfl, rfl⟩ := trodAll_nil r4
  obtain rfl : args = #[v0, v1, v2, v3, v4] := by cases args; simp_all
  obtain ⟨rfl, rfl⟩ := trodVars_none hV
  clear hA0 hval0
  simp only [List.append_nil] at hW'
  have hlt : ∀ x ∈ p0 ++ (p1 ++ (p2 ++ (p3 ++ p4))), x.block < W.heap.size := fun x hx => by simpa using hW'.lt x hx
  have k0 : ∀ W' : World, Below W.heap.size W W' → DataW.Trod enc Try.prog W' 0 (fun b => decide (b < W.heap.size)) true 22 v0 d0 p0 := fun W' hn => Below.trod laid (by kernel_rfl) (of_decide_eq_true (by kernel_rfl)) h0 hn (fun x hx => hlt x (by simp [hx]))
  have k1 : ∀ W' : World, Below W.heap.size W W' → DataW.Trod enc Try.prog W' 0 (fun b => decide (b < W.heap.size)) true 23 v1 d1 p1 := fun W' hn => Below.trod laid (by kernel_rfl) (of_decide_eq_true (by kernel_rfl)) h1 hn (fun x hx => hlt x (by simp [hx]))
  have k2 : ∀ W' : World, Below W.heap.size W W' → DataW.Trod enc Try.prog W' 0 (fun b => decide (b < W.heap.size)) true 4 v2 d2 p2 := fun W' hn => Below.trod laid (by kernel_rfl) (of_decide_eq_true (by kernel_rfl)) h2 hn (fun x hx => hlt x (by simp [hx]))
  have k3 : ∀ W' : World, Below W.heap.size W W' → DataW.Trod enc Try.prog W' 0 (fun b => decide (b < W.heap.size)) true 24 v3 d3 p3 := fun W' hn => Below.trod laid (by kernel_rfl) (of_decide_eq_true (by kernel_rfl)) h3 hn (fun x hx => hlt x (by simp [hx]))
  have k4 : ∀ W' : World, Below W.heap.size W W' → DataW.Trod enc Try.prog W' 0 (fun b => decide (b < W.heap.size)) true 25 v4 d4 p4 := fun W' hn => Below.trod laid (by kernel_rfl) (of_decide_eq_true (by kernel_rfl)) h4 hn (fun x hx => hlt x (by simp [hx]))
  obtain ⟨a0, l0, cp0, rfl⟩ := okWide_slice Try.underlying22 (hval 0 22 v0 rfl rfl)
  obtain ⟨a1, l1, cp1, rfl⟩ := okWide_slice Try.underlying23 (hval 1 23 v1 rfl rfl)
  obtain ⟨rc, rfl⟩ := okWide_bool Try.underlying4 (hval 2 4 v2 rfl rfl)
  obtain ⟨a3, l3, cp3, rfl⟩ := okWide_slice Try.underlying24 (hval 3 24 v3 rfl rfl)
  obtain ⟨f0, t0⟩ := h0
  obtain ⟨f1, t1⟩ := h1
  obtain ⟨f3, t3⟩ := h3
  obtain ⟨f4, t4⟩ := h4
  obtain ⟨ea, eb, eo, n, ec, E, S, Bo, e0, aE, hE, hB, wE⟩ := open_ents t0
  obtain ⟨ha, hb, ho, nh, hc, D, R, e1, aH, hH, wH⟩ := open_rows t1
  obtain ⟨ra, rb, ro, nr, rcp, rE, rS, rB, e3, aR, hR, hrB⟩ := open_reps t3
  obtain ⟨b0, b1, b2, rfl⟩ := open_bal t4
  simp [Value.cells] at e0 e1 e3
  obtain ⟨rfl, rfl, rfl⟩ := e0
  obtain ⟨rfl, rfl, rfl⟩ := e1
  obtain ⟨rfl, rfl, rfl⟩ := e3
  refine (law3 _ eb eo _ _ _ hb ho _ _ rc _ rb ro _ _ b0 b1 b2 W aE E S Bo hE hB wE aH D R hH wH aR rE rS rB hR hrB).mono fun e W' ⟨he, hnx⟩ => ?_
  subst he
  refine ⟨_, rfl, _, _, _, [], p0 ++ (p1 ++ (p2 ++ (p3 ++ (p4 ++ [])))), [], hW', ?_, ?_, rfl, hnx.frame _, fun h => by cases h⟩
  · exact trodAll_cons_mk (shut_bool Try.underlying4 true) trodAll_mk0
  · exact trodAll_cons_mk (k0 W' hnx) (trodAll_cons_mk (k1 W' hnx) (trodAll_cons_mk (k2 W' hnx) (trodAll_cons_mk (k3 W' hnx) (trodAll_cons_mk (k4 W' hnx) trodAll_mk0))))

theorem over : Rows.fnCheckMatchesPerEntryModelRow.holds Try.pinned (OpenSpec.ofChange Rows.fnCheckMatchesPerEntryModelSpec) :=
  OpenClaim.holds_of_wide 3 Try.f3 rfl rfl rfl rfl rfl rfl rfl ⟨rfl, rfl, rfl, rfl, rfl⟩ rfl rfl rfl rfl rfl (by kernel_rfl) Try.func3 (by kernel_rfl)
    (of_decide_eq_true (by kernel_rfl)) (by unfold Func.isWrapper; first | (rw [if_pos (by decide +kernel)]; kernel_rfl) | (rw [if_neg (by decide +kernel)]; exact ⟨rfl, rfl⟩))
    (fun os started H enc _ => lifted os started H enc)
end Go.Proofs.Qxb6603057a.fnCheckMatchesPerEntryModel
namespace Go.Proofs.Qxb6603057a
/-- THE STATEMENT, under a plain name of this namespace. -/
theorem fnCheckMatchesPerEntryModel_holds : Rows.FnCheckMatchesPerEntryModelSaid := fnCheckMatchesPerEntryModel.over
end Go.Proofs.Qxb6603057a
