/-
  WHAT 'check' COUNTS, in plain words: how often a delta comes ('cnt'), the last row of a delta ('last', Convs), the last reply of a key ('lastIx'), whether an entry is mismatched ('mis'); maps of these.
-/
import Derived.Test.Qxb6603057aConvs
import Derived.StringKeys
namespace Go.Proofs.Qxb6603057a
open Go.RowKit Go.Maps

/-- How many of the first k entries have the delta x. -/
def cnt (D : Nat → Int) : Nat → Int → Nat
  | 0, _ => 0
  | k + 1, x => cnt D k x + if D k = x then 1 else 0
def cntO (D : Nat → Int) (k : Nat) (x : Int) : Option Int := if cnt D k x = 0 then none else some (cnt D k x : Int)
theorem cnt_le (D : Nat → Int) (k : Nat) (x : Int) : cnt D k x ≤ k := by
  induction k with
  | zero => exact Nat.le_refl _
  | succ k ih => rw [cnt]; split <;> omega
theorem cntO_getD (D : Nat → Int) (k : Nat) (x : Int) : (cntO D k x).getD 0 = (cnt D k x : Int) := by
  unfold cntO; split <;> simp_all
theorem cntO_step (D : Nat → Int) (k : Nat) : (fun y => if D k = y then some ((cnt D k (D k) : Int) + 1) else cntO D k y) = cntO D (k + 1) := by
  funext y
  unfold cntO
  rw [cnt]
  by_cases h : D k = y
  · subst h
    rw [if_pos rfl, if_pos rfl, if_neg (by omega)]
    simp
  · rw [if_neg h, if_neg h, Nat.add_zero]
/-- How many of the first k. -/
def mcnt (M : Nat → Bool) : Nat → Nat
  | 0 => 0
  | k + 1 => mcnt M k + if M k then 1 else 0
theorem mcnt_le (M : Nat → Bool) (k : Nat) : mcnt M k ≤ k := by
  induction k with
  | zero => exact Nat.le_refl _
  | succ k ih => rw [mcnt]; split <;> omega
/-- The last of the first k that is x. -/
def lastIx (K : Nat → List UInt8) : Nat → List UInt8 → Option Nat
  | 0, _ => none
  | k + 1, x => if K k = x then some k else lastIx K k x
theorem lastIx_lt {K : Nat → List UInt8} {k : Nat} {x : List UInt8} {i : Nat} (h : lastIx K k x = some i) : i < k := by
  induction k with
  | zero => cases h
  | succ k ih =>
    rw [lastIx] at h
    split at h
    · cases h; omega
    · have := ih h; omega
def rkeys (rE : Nat → Rp) (i : Nat) : List UInt8 := (rE i).key.data.toList
/-- An entry is mismatched: its key has no reply, or the last reply of its key has another status or another body. -/
def mis (rE : Nat → Rp) (rB : Nat → Option (List UInt8)) (nr : Nat) (e : Ent) (bo : Option (List UInt8)) : Bool :=
  match lastIx (rkeys rE) nr e.key.data.toList with
  | none => true
  | some j => (rE j).status != e.status || !((rB j).getD [] == bo.getD e.body.data.toList)

/-- What a reply is in the map. -/
def repVal (rE : Nat → Rp) (rS : Nat → Sl) (i : Nat) : Value := .agg #[.int .i64 (rE i).status, .slice (rS i).a (rS i).l (rS i).c]
/-- The datum D is the map from keys to replies: m says which reply. -/
def RepMap (rE : Nat → Rp) (rS : Nat → Sl) (D : DataW Value) (m : List UInt8 → Option Nat) : Prop :=
  IsMap D ∧ ∀ x, Maps.has D (.string x) = (m x).isSome ∧ ∀ z, D.atKey (.string x) z = ((m x).map fun i => DataW.held (repVal rE rS i)).getD z
theorem repMap_empty (rE : Nat → Rp) (rS : Nat → Sl) : RepMap rE rS (.map []) (fun _ => none) := ⟨isMap_empty, fun _ => ⟨rfl, fun _ => rfl⟩⟩
theorem RepMap.put {rE : Nat → Rp} {rS : Nat → Sl} {D : DataW Value} {k : Nat} (h : RepMap rE rS D (lastIx (rkeys rE) k)) : RepMap rE rS (D.put (.string (rkeys rE k)) (.held (repVal rE rS k))) (lastIx (rkeys rE) (k + 1)) := by
  refine ⟨h.1.put _ _, fun y => ?_⟩
  rw [lastIx]
  by_cases e : rkeys rE k = y
  · subst e
    rw [if_pos rfl]
    exact ⟨has_put_same h.1 (show WideAt.IsKeyLit (.string (rkeys rE k)) from trivial) _, fun z => atKey_put_same h.1 (show WideAt.IsKeyLit (.string (rkeys rE k)) from trivial) _ _⟩
  · have hne : (Lit.string y) ≠ (.string (rkeys rE k)) := fun h => e (by injection h with h; exact h.symm)
    rw [if_neg e]
    exact ⟨(has_put_other hne _).trans (h.2 y).1, fun z => (atKey_put_other hne _ _).trans ((h.2 y).2 z)⟩
/-- How an element of the reply map reads: as itself. -/
def asHeld (v : Value) : Option (DataW Value × List MemPlace) := some (.held v, [])
theorem keyed9 : Keyed Try.prog 9 := string_keyed Try.underlying9
theorem zero60 (w : World) : (zeroValue 60).run Try.prog w = .ok (.agg #[.int .i64 0, .slice none 0 0]) w := by kernel_rfl
theorem zero2 (w : World) : (zeroValue 2).run Try.prog w = .ok (.int .i64 0) w := by kernel_rfl
/-- What 'rec, ok := l.replies[key]' gives. -/
def lookSt (rE : Nat → Rp) (m : Option Nat) : Int := (m.map fun i => (rE i).status).getD 0
def lookSl (rS : Nat → Sl) (m : Option Nat) : Sl := (m.map rS).getD ⟨none, 0, 0⟩
theorem look_rep {rE : Nat → Rp} {rS : Nat → Sl} {D : DataW Value} {m : List UInt8 → Option Nat} {w : World} {b n : Nat} (h : w.ownsMap Try.prog 9 asHeld b n D) (hm : RepMap rE rS D m) (key : ByteArray) (hk : key.size ≤ maxLen) :
    (Instr.lookup 55 (.map (some b)) (.string key) true).run Try.prog w = .ok (.tuple #[.agg #[.int .i64 (lookSt rE (m key.data.toList)), .slice (lookSl rS (m key.data.toList)).a (lookSl rS (m key.data.toList)).l (lookSl rS (m key.data.toList)).c], .bool (m key.data.toList).isSome]) w := by
  obtain ⟨v, ps, hrun, hv⟩ := h.look_ok (t := 55) (e := 60) keyed9 Try.underlying55 (zero60 w) (zd := .held (.agg #[.int .i64 0, .slice none 0 0])) (zp := []) rfl (Go.WideMaps.keyOf_string_mk Try.underlying9 hk)
  rw [hrun, (hm.2 _).1]
  have e : DataW.held v = _ := (congrArg Prod.fst (Option.some.inj hv))
  rw [(hm.2 _).2] at e
  cases hq : m key.data.toList with
  | none =>
    rw [hq] at e
    injection e with e
    rw [e]; rfl
  | some i =>
    rw [hq] at e
    injection e with e
    rw [e]; rfl
/-- A map block stands while nothing below the heap's end turns. -/
theorem ownsMap_keep {H : Type} {P : Program} {k : TypeId} {R : Value → Option (DataW H × List MemPlace)} {w w' : World} {b n : Nat} {D : DataW H} (h : w.ownsMap P k R b n D) (hb : Below w.heap.size w w') : w'.ownsMap P k R b n D := by
  have hlt := h.lt
  obtain ⟨es, clock, hh, F, hs, hD⟩ := h
  exact ⟨es, clock, (hb.block b hlt).trans hh, F, hs, hD⟩
end Go.Proofs.Qxb6603057a
