/-
  'check' (function 22): the three loops, and the Report that comes of them.
-/
import Derived.Test.Qxb6603057aBodies
import Derived.Test.Qxb6603057aSpec
import Derived.Test.Qxb6603057aRanges
import Derived.BigRegion
import Derived.RegionTactic
import Derived.Deep.RegionWith
import Derived.Maps.RangeWalk
import Derived.BigQuiet
import Derived.Deep.QuietTactic
import Derived.Outline
import Derived.Lib.MinMax
namespace Go.Proofs.Qxb6603057a
open Go.RowKit Go.Maps

/-- The cells of a Report. -/
def rArr (a h d l o m : Int) (nr : Bool) (s0 s1 s2 s3 : Int) : Array Value := #[.int .i64 a, .int .i64 h, .int .i64 d, .int .i64 l, .int .i64 o, .int .i64 m, .bool nr, .int .i64 s0, .int .i64 s1, .int .i64 s2, .int .i64 s3]

theorem newO (w : World) (o : Obj) : (w.alloc o).heap[w.heap.size]? = some o := by
  show (w.heap.push o)[w.heap.size]? = _
  simp
theorem three0 (w : World) (o0 o1 o2 : Obj) : (((w.alloc o0).alloc o1).alloc o2).drew.heap[w.heap.size]? = some o0 := allocB (allocB (newO w o0) o1) o2
theorem three1 (w : World) (o0 o1 o2 : Obj) : (((w.alloc o0).alloc o1).alloc o2).drew.heap[w.heap.size + 1]? = some o1 := by
  have e : (w.alloc o0).heap.size = w.heap.size + 1 := by simp
  rw [← e]
  exact allocB (newO (w.alloc o0) o1) o2
theorem three2 (w : World) (o0 o1 : Obj) : (((w.alloc o0).alloc o1).alloc (.map #[] 0)).drew.ownsMap Try.prog 2 (plainElem (H := Unit) Try.prog 2) (w.heap.size + 2) 0 (.map []) := by
  have := World.ownsMap_made ((w.alloc o0).alloc o1) Try.prog 2 (plainElem (H := Unit) Try.prog 2)
  have e : ((w.alloc o0).alloc o1).heap.size = w.heap.size + 2 := by simp
  rw [e] at this
  exact this
theorem three_below (w : World) (o0 o1 o2 : Obj) : Below w.heap.size w (((w.alloc o0).alloc o1).alloc o2).drew :=
  ((((Below.refl _ _).alloc (Nat.le_refl _) _).alloc (by simp) _).alloc (by simp; omega) _).drew
/-- The cells of r, one by one. -/
theorem rcell {w : World} {g : Nat} {a h d l o m : Int} {nr : Bool} {s0 s1 s2 s3 : Int} (hg : w.heap[g]? = some (.cells (rArr a h d l o m nr s0 s1 s2 s3) 34 (0, 0))) :
    w.cell? ⟨g, 0, none⟩ = some (.int .i64 a) ∧ w.cell? ⟨g, 1, none⟩ = some (.int .i64 h) ∧ w.cell? ⟨g, 2, none⟩ = some (.int .i64 d) ∧ w.cell? ⟨g, 3, none⟩ = some (.int .i64 l) ∧ w.cell? ⟨g, 4, none⟩ = some (.int .i64 o) ∧ w.cell? ⟨g, 5, none⟩ = some (.int .i64 m) ∧ w.cell? ⟨g, 6, none⟩ = some (.bool nr) ∧
    w.cell? ⟨g, 7, none⟩ = some (.int .i64 s0) ∧ w.cell? ⟨g, 8, none⟩ = some (.int .i64 s1) ∧ w.cell? ⟨g, 9, none⟩ = some (.int .i64 s2) ∧ w.cell? ⟨g, 10, none⟩ = some (.int .i64 s3) :=
  ⟨cellB hg 0, cellB hg 1, cellB hg 2, cellB hg 3, cellB hg 4, cellB hg 5, cellB hg 6, cellB hg 7, cellB hg 8, cellB hg 9, cellB hg 10⟩
theorem grown_blk {a b : World} {r : Nat} (hg : a.grownBy b (some r)) {g : Nat} {x : Obj} (h : a.heap[g]? = some x) (hne : g ≠ r) : b.heap[g]? = some x :=
  (hg.block g (Array.getElem?_eq_some_iff.1 h).1 (fun e => hne (by cases e; rfl))).trans h
theorem newB (w : World) (C : Array Value) (t : TypeId) : (w.alloc (.cells C t)).heap[w.heap.size]? = some (.cells C t (0, 0)) := by
  show (w.heap.push (.cells C t))[w.heap.size]? = _
  simp

theorem mis_none {rE : Nat → Rp} {rB : Nat → Option (List UInt8)} {nr : Nat} {e : Ent} {bo : Option (List UInt8)} (h : lastIx (rkeys rE) nr e.key.data.toList = none) : mis rE rB nr e bo = true := by simp [mis, h]
theorem mis_some {rE : Nat → Rp} {rB : Nat → Option (List UInt8)} {nr : Nat} {e : Ent} {bo : Option (List UInt8)} {j : Nat} (h : lastIx (rkeys rE) nr e.key.data.toList = some j) : mis rE rB nr e bo = ((rE j).status != e.status || !((rB j).getD [] == bo.getD e.body.data.toList)) := by simp [mis, h]

theorem below_drewN {B : Nat} {a W : World} (h : Below B a W) (n : Nat) : Below B a (W.drewN n) := ⟨h.os, h.tape, h.output, h.size, h.block⟩
/-- At the head of the first loop's round k: the result's block, r's block, the map 'shared'. -/
def L1 (w : World) (n : Nat) (D : Nat → Int) (nrec : Bool) (b0 b1 b2 : Int) (M : Nat → Bool) (k km : Nat) (X : World) : Prop :=
  ∃ (Ds : DataW Unit) (C0 : Array Value), X.heap[w.heap.size]? = some (.cells C0 34 (0, 0)) ∧ C0.size = 11 ∧ X.heap[w.heap.size + 1]? = some (.cells (rArr n 0 0 0 0 (mcnt M k : Nat) nrec b0 b1 b2 0) 34 (0, 0)) ∧
    X.ownsMap Try.prog 2 (plainElem Try.prog 2) (w.heap.size + 2) km Ds ∧ IntMap Ds (cntO D km) ∧ Below w.heap.size w X
section
variable {w : World} {n : Nat} {D : Nat → Int} {nrec : Bool} {b0 b1 b2 : Int} {M : Nat → Bool} {k km : Nat} {X : World}
theorem L1.alloc (h : L1 w n D nrec b0 b1 b2 M k km X) (o : Obj) : L1 w n D nrec b0 b1 b2 M k km (X.alloc o) := by
  obtain ⟨Ds, C0, h1, h2, h3, h4, h5, h6⟩ := h
  exact ⟨Ds, C0, allocB h1 _, h2, allocB h3 _, h4.alloc _, h5, h6.alloc h6.size _⟩
theorem L1.drewN (h : L1 w n D nrec b0 b1 b2 M k km X) (m : Nat) : L1 w n D nrec b0 b1 b2 M k km (X.drewN m) := by
  obtain ⟨Ds, C0, h1, h2, h3, h4, h5, h6⟩ := h
  exact ⟨Ds, C0, h1, h2, h3, h4, h5, below_drewN h6 m⟩
theorem L1.drew (h : L1 w n D nrec b0 b1 b2 M k km X) : L1 w n D nrec b0 b1 b2 M k km X.drew := by
  obtain ⟨Ds, C0, h1, h2, h3, h4, h5, h6⟩ := h
  exact ⟨Ds, C0, h1, h2, h3, h4, h5, h6.drew⟩
theorem L1.keep {Y : World} (h : L1 w n D nrec b0 b1 b2 M k km X) (hb : Below X.heap.size X Y) : L1 w n D nrec b0 b1 b2 M k km Y := by
  obtain ⟨Ds, C0, h1, h2, h3, h4, h5, h6⟩ := h
  exact ⟨Ds, C0, blk hb h1, h2, blk hb h3, ownsMap_keep h4 hb, h5, h6.trans (hb.mono h6.size)⟩
theorem L1.hit (h : L1 w n D nrec b0 b1 b2 M k km X) (hM : M k = false) : L1 w n D nrec b0 b1 b2 M (k + 1) km X := by
  obtain ⟨Ds, C0, h1, h2, h3, h4, h5, h6⟩ := h
  have e : mcnt M (k + 1) = mcnt M k := by rw [mcnt, hM]; rfl
  exact ⟨Ds, C0, h1, h2, by rw [e]; exact h3, h4, h5, h6⟩
theorem L1.mis (h : L1 w n D nrec b0 b1 b2 M k km X) (hM : M k = true) : L1 w n D nrec b0 b1 b2 M (k + 1) km (X.setCell ⟨w.heap.size + 1, 5, none⟩ (.int .i64 ((mcnt M k : Nat) + 1))) := by
  obtain ⟨Ds, C0, h1, h2, h3, h4, h5, h6⟩ := h
  have e : mcnt M (k + 1) = mcnt M k + 1 := by rw [mcnt, hM]; rfl
  obtain ⟨es, clock, hh, F, hs, hD⟩ := h4
  exact ⟨Ds, C0, put1_other h1 (by omega) _ _, h2, by rw [e]; exact put1 h3 _ _, ⟨es, clock, put1_other hh (by omega) _ _, F, hs, hD⟩, h5, h6.setCell (p := ⟨w.heap.size + 1, 5, none⟩) (by simp) _⟩
end

theorem bytesEqual' (s t : Sl) (o p : Option (List UInt8)) (w : World) (q : Bool) (hq : (o.getD [] == p.getD []) = q) (hs : BytesAt w s o) (ht : BytesAt w t p) :
    Calls Try.prog 27 #[.slice s.a s.l s.c, .slice t.a t.l t.c] w fun e w' => e = .returned (.bool q) ∧ w = w' := by
  subst hq; exact bytesEqual s t o p w hs ht

/-- In the second and third loop: the result's block, r's block, the map 'shared'. -/
def L2 (w : World) (n : Nat) (Ds : DataW Unit) (nrec : Bool) (b0 b1 b2 mm H Du Lo Or S3 : Int) (X : World) : Prop :=
  ∃ C0 : Array Value, X.heap[w.heap.size]? = some (.cells C0 34 (0, 0)) ∧ C0.size = 11 ∧ X.heap[w.heap.size + 1]? = some (.cells (rArr n H Du Lo Or mm nrec b0 b1 b2 S3) 34 (0, 0)) ∧
    X.ownsMap Try.prog 2 (plainElem Try.prog 2) (w.heap.size + 2) n Ds ∧ Below w.heap.size w X
theorem L2.grown {w : World} {n : Nat} {Ds : DataW Unit} {nrec : Bool} {b0 b1 b2 mm H Du Lo Or S3 : Int} {X Y : World} {row : Option Nat} (h : L2 w n Ds nrec b0 b1 b2 mm H Du Lo Or S3 X) (hg : X.grownBy Y row) (hr : ∀ r, row = some r → w.heap.size + 2 < r) : L2 w n Ds nrec b0 b1 b2 mm H Du Lo Or S3 Y := by
  obtain ⟨C0, h1, h2, h3, h4, h5⟩ := h
  have k1 : ∀ {g : Nat} {x : Obj}, g ≤ w.heap.size + 2 → X.heap[g]? = some x → Y.heap[g]? = some x := fun hgl hx =>
    (hg.block _ (Array.getElem?_eq_some_iff.1 hx).1 (fun e => by have := hr _ e.symm; omega)).trans hx
  refine ⟨C0, k1 (by omega) h1, h2, k1 (by omega) h3, h4.kept hg (fun e => by have := hr _ e.symm; omega), h5.grown hg h5.size (fun r e => by have := hr r e; omega)⟩
theorem L2.set {w : World} {n : Nat} {Ds : DataW Unit} {nrec : Bool} {b0 b1 b2 mm H Du Lo Or S3 H' Du' Lo' Or' S3' : Int} {X : World} (h : L2 w n Ds nrec b0 b1 b2 mm H Du Lo Or S3 X) (o : Nat) (v : Value)
    (he : (rArr n H Du Lo Or mm nrec b0 b1 b2 S3).setIfInBounds o v = rArr n H' Du' Lo' Or' mm nrec b0 b1 b2 S3') : L2 w n Ds nrec b0 b1 b2 mm H' Du' Lo' Or' S3' (X.setCell ⟨w.heap.size + 1, o, none⟩ v) := by
  obtain ⟨C0, h1, h2, h3, h4, h5⟩ := h
  obtain ⟨es, clock, hh, F, hs, hD⟩ := h4
  exact ⟨C0, put1_other h1 (by omega) _ _, h2, by rw [← he]; exact put1 h3 _ _, ⟨es, clock, put1_other hh (by omega) _ _, F, hs, hD⟩, h5.setCell (p := ⟨w.heap.size + 1, o, none⟩) (by simp) _⟩
theorem grown_set (X : World) (p : Addr) (v : Value) : X.grownBy (X.setCell p v) (some p.block) :=
  ⟨rfl, rfl, rfl, by simp [World.setCell], fun k _ hk => Below.heap_setCell _ _ _ _ (fun e => hk (by rw [e]))⟩

theorem cells11 {w : World} {g : Nat} {C : Array Value} (hg : w.heap[g]? = some (.cells C 34 (0, 0))) (hs : C.size = 11) :
    w.cell? ⟨g, 0, none⟩ = some (C.getD 0 undef) ∧ w.cell? ⟨g, 1, none⟩ = some (C.getD 1 undef) ∧ w.cell? ⟨g, 2, none⟩ = some (C.getD 2 undef) ∧ w.cell? ⟨g, 3, none⟩ = some (C.getD 3 undef) ∧ w.cell? ⟨g, 4, none⟩ = some (C.getD 4 undef) ∧ w.cell? ⟨g, 5, none⟩ = some (C.getD 5 undef) ∧ w.cell? ⟨g, 6, none⟩ = some (C.getD 6 undef) ∧
    w.cell? ⟨g, 7, none⟩ = some (C.getD 7 undef) ∧ w.cell? ⟨g, 8, none⟩ = some (C.getD 8 undef) ∧ w.cell? ⟨g, 9, none⟩ = some (C.getD 9 undef) ∧ w.cell? ⟨g, 10, none⟩ = some (C.getD 10 undef) := by
  have h : ∀ j, j < 11 → w.cell? ⟨g, j, none⟩ = some (C.getD j undef) := fun j hj => by
    rw [cellB hg j, Array.getD, dif_pos (by omega)]
    exact Array.getElem?_eq_getElem _
  exact ⟨h 0 (by omega), h 1 (by omega), h 2 (by omega), h 3 (by omega), h 4 (by omega), h 5 (by omega), h 6 (by omega), h 7 (by omega), h 8 (by omega), h 9 (by omega), h 10 (by omega)⟩

theorem cntO_some (D : Nat → Int) (k : Nat) (x : Int) : (cntO D k x).isSome = true ↔ cnt D k x ≠ 0 := by
  unfold cntO
  split <;> simp_all
theorem res22 (W : World) (a : Array Value) (g : Nat) (v : Value) (ha : a.getD 4 undef = .pointer (some ⟨g, 0, none⟩)) (h : (loadVar 34 ⟨g, 0, none⟩).run Try.prog W = .ok v W) : (results Try.f22 a).run Try.prog W = .ok v W := by
  have e : a[4]?.getD undef = .pointer (some ⟨g, 0, none⟩) := by rw [← ha]; simp
  simp [results, Try.results22, e]
  exact h
theorem below11 {w : World} {B g : Nat} {w0 : World} (hb : Below B w0 w) (hg : B ≤ g) (v0 v1 v2 v3 v4 v5 v6 v7 v8 v9 v10 : Value) :
    Below B w0 (((((((((((w.setCell ⟨g, 0, none⟩ v0).setCell ⟨g, 1, none⟩ v1).setCell ⟨g, 2, none⟩ v2).setCell ⟨g, 3, none⟩ v3).setCell ⟨g, 4, none⟩ v4).setCell ⟨g, 5, none⟩ v5).setCell ⟨g, 6, none⟩ v6).setCell ⟨g, 7, none⟩ v7).setCell ⟨g, 8, none⟩ v8).setCell ⟨g, 9, none⟩ v9).setCell ⟨g, 10, none⟩ v10) :=
  ((((((((((hb.setCell (by exact hg) _).setCell (by exact hg) _).setCell (by exact hg) _).setCell (by exact hg) _).setCell (by exact hg) _).setCell (by exact hg) _).setCell (by exact hg) _).setCell (by exact hg) _).setCell (by exact hg) _).setCell (by exact hg) _).setCell (by exact hg) _
theorem put11 {w : World} {g : Nat} {C : Array Value} (hg : w.heap[g]? = some (.cells C 34 (0, 0))) (hs : C.size = 11) (a h d l o m : Int) (nr : Bool) (s0 s1 s2 s3 : Int) :
    (((((((((((w.setCell ⟨g, 0, none⟩ (.int .i64 a)).setCell ⟨g, 1, none⟩ (.int .i64 h)).setCell ⟨g, 2, none⟩ (.int .i64 d)).setCell ⟨g, 3, none⟩ (.int .i64 l)).setCell ⟨g, 4, none⟩ (.int .i64 o)).setCell ⟨g, 5, none⟩ (.int .i64 m)).setCell ⟨g, 6, none⟩ (.bool nr)).setCell ⟨g, 7, none⟩ (.int .i64 s0)).setCell ⟨g, 8, none⟩ (.int .i64 s1)).setCell ⟨g, 9, none⟩ (.int .i64 s2)).setCell ⟨g, 10, none⟩ (.int .i64 s3)).heap[g]? =
      some (.cells (rArr a h d l o m nr s0 s1 s2 s3) 34 (0, 0)) := by
  have h0 := put1 hg 0 (.int .i64 a)
  have h1 := put1 h0 1 (.int .i64 h)
  have h2 := put1 h1 2 (.int .i64 d)
  have h3 := put1 h2 3 (.int .i64 l)
  have h4 := put1 h3 4 (.int .i64 o)
  have h5 := put1 h4 5 (.int .i64 m)
  have h6 := put1 h5 6 (.bool nr)
  have h7 := put1 h6 7 (.int .i64 s0)
  have h8 := put1 h7 8 (.int .i64 s1)
  have h9 := put1 h8 9 (.int .i64 s2)
  have h10 := put1 h9 10 (.int .i64 s3)
  have e : ((((((((((C.setIfInBounds 0 (.int .i64 a)).setIfInBounds 1 (.int .i64 h)).setIfInBounds 2 (.int .i64 d)).setIfInBounds 3 (.int .i64 l)).setIfInBounds 4 (.int .i64 o)).setIfInBounds 5 (.int .i64 m)).setIfInBounds 6 (.bool nr)).setIfInBounds 7 (.int .i64 s0)).setIfInBounds 8 (.int .i64 s1)).setIfInBounds 9 (.int .i64 s2)).setIfInBounds 10 (.int .i64 s3) = rArr a h d l o m nr s0 s1 s2 s3 := by
    clear h0 h1 h2 h3 h4 h5 h6 h7 h8 h9 h10 hg
    obtain ⟨L⟩ := C
    rcases L with _ | ⟨c0, _ | ⟨c1, _ | ⟨c2, _ | ⟨c3, _ | ⟨c4, _ | ⟨c5, _ | ⟨c6, _ | ⟨c7, _ | ⟨c8, _ | ⟨c9, _ | ⟨c10, _ | ⟨c11, L⟩⟩⟩⟩⟩⟩⟩⟩⟩⟩⟩⟩
    all_goals first
      | (exfalso; simp at hs; done)
      | simp [rArr]
  rw [← e]
  exact h10

set_option maxHeartbeats 8000000 in
set_option maxRecDepth 100000 in
theorem check (ea : Option Addr) (eb eo n cap lb : Nat) (ho ro : Option Nat) (nrec : Bool) (hnr : ro.isNone = nrec) (b0 b1 b2 : Int) (w : World)
    (l0 : w.cell? ⟨lb, 0, none⟩ = some (.map ho)) (l1 : w.cell? ⟨lb, 1, none⟩ = some (.map ro)) (l2 : w.cell? ⟨lb, 2, none⟩ = some (.int .i64 b0)) (l3 : w.cell? ⟨lb, 3, none⟩ = some (.int .i64 b1)) (l4 : w.cell? ⟨lb, 4, none⟩ = some (.int .i64 b2)) (hn : n ≤ 4096)
    (nh : Nat) (Dh : DataW Unit) (fh : Int → Option Int) (hh : MapO ho nh Dh w) (hIh : IntMap Dh fh) (hrho : ∀ x, -9223372036854775808 ≤ (fh x).getD 0 ∧ (fh x).getD 0 ≤ 9223372036854775807)
    (hea : 0 < n → ea = some ⟨eb, eo, none⟩) (E : Nat → Ent) (S : Nat → Sl) (Bo : Nat → Option (List UInt8)) (hE : HoldsAt w eb eo n 12 fun i => entCells (E i) (S i)) (hBy : ∀ i, i < n → BytesAt w (S i) (Bo i))
    (hok : ∀ i, i < n → (Lit.int .i64 (E i).delta).wf = true ∧ (E i).key.size ≤ maxLen)
    (nr : Nat) (rE : Nat → Rp) (rS : Nat → Sl) (rB : Nat → Option (List UInt8)) (hrec : ∀ rb, ro = some rb → ∃ Dr, w.ownsMap Try.prog 9 asHeld rb nr Dr ∧ RepMap rE rS Dr (lastIx (rkeys rE) nr)) (hrB : ∀ i, i < nr → BytesAt w (rS i) (rB i))
    (M : Nat → Bool) (hM : ∀ i, M i = (!nrec && mis rE rB nr (E i) (Bo i))) :
    Calls Try.prog 22 #[.slice ea n cap, .pointer (some ⟨lb, 0, none⟩)] w fun e w' => ∃ KH KS : List Int, KH.Nodup ∧ (∀ x, x ∈ KH ↔ (fh x).isSome = true) ∧ KS.Nodup ∧ (∀ x, x ∈ KS ↔ cnt (fun i => (E i).delta) n x ≠ 0) ∧
      e = .returned (.agg (rArr n (wrap64 (sumA (fun x => (fh x).getD 0) KH)) (wrap64 (sumA (fun x => if (cnt (fun i => (E i).delta) n x : Int) < (fh x).getD 0 then min (cnt (fun i => (E i).delta) n x : Int) ((fh x).getD 0 - cnt (fun i => (E i).delta) n x) else 0) KS)) (wrap64 (sumA (fun x => if (cnt (fun i => (E i).delta) n x : Int) < (fh x).getD 0 then 0 else (cnt (fun i => (E i).delta) n x : Int) - (fh x).getD 0) KS)) (wrap64 (sumA (fun x => if cnt (fun i => (E i).delta) n x = 0 then (fh x).getD 0 else 0) KH)) (mcnt M n : Nat) nrec b0 b1 b2 (wrap64 (sumA (fun x => x * (fh x).getD 0) KH)))) ∧ Below w.heap.size w w' := by
  have hq1 : ∀ wx, (binOp .eql 55 (.map ro) (.map none)).run Try.prog wx = .ok (.bool nrec) wx := fun wx => by rw [← hnr]; exact run_eql_map_nil (P := Try.prog) wx 55 9 60 ro Try.underlying55
  have HNR : Hid (ro.isNone = nrec) := hnr
  clear hnr
  have hlb : lb < w.heap.size := World.block_lt_of_cell? w _ l0
  have hne0 : lb ≠ w.heap.size := by omega
  have hne1 : lb ≠ w.heap.size + 1 := by omega
  have hcp := fun o1 x0 x1 x2 x3 x4 x5 x6 x7 x8 x9 x10 ty => run_copy3 w o1 lb x0 x1 x2 x3 x4 x5 x6 x7 x8 x9 x10 b0 b1 b2 l2 l3 l4 ty
  have hmm := @run_makeMap Try.prog
  have HEA : Hid (0 < n → ea = some ⟨eb, eo, none⟩) := hea
  have HE : Hid (HoldsAt w eb eo n 12 fun i => entCells (E i) (S i)) := hE
  have HBY : Hid (∀ i, i < n → BytesAt w (S i) (Bo i)) := hBy
  have HOK : Hid (∀ i, i < n → (Lit.int .i64 (E i).delta).wf = true ∧ (E i).key.size ≤ maxLen) := hok
  have HREC : Hid (∀ rb, ro = some rb → ∃ Dr, w.ownsMap Try.prog 9 asHeld rb nr Dr ∧ RepMap rE rS Dr (lastIx (rkeys rE) nr)) := hrec
  have HRB : Hid (∀ i, i < nr → BytesAt w (rS i) (rB i)) := hrB
  have HM : Hid (∀ i, M i = (!nrec && mis rE rB nr (E i) (Bo i))) := hM
  have HMO : Hid (MapO ho nh Dh w) := hh
  have HIH : Hid (IntMap Dh fh) := hIh
  have HRHO : Hid (∀ x, -9223372036854775808 ≤ (fh x).getD 0 ∧ (fh x).getD 0 ≤ 9223372036854775807) := hrho
  clear hh hIh hrho
  clear hea hE hBy hok hrec hrB hM
  go_enter Try.func22, Try.ntmps22
  go_wp2
  go_region
  clear hcp hq1
  go_wp2
  go_loopw [34] (fun iv wr => ∃ k : Nat, k ≤ n ∧ iv = .int .i64 k ∧ L1 w n (fun i => (E i).delta) nrec b0 b1 b2 M k k wr) (fun iv _ => n - (intOf iv).toNat)
  case atStart => exact ⟨0, Nat.zero_le _, rfl, _, _, three0 _ _ _ _, rfl, three1 _ _ _ _, three2 _ _ _, intMap_empty, three_below _ _ _ _⟩
  case round =>
    obtain ⟨k, hk, rfl, HL0⟩ := hrel
    have HL : Hid (L1 w n (fun i => (E i).delta) nrec b0 b1 b2 M k k wr) := HL0
    obtain ⟨Ds, C0, hc0, hc0s, hr, hown, hI, hbw⟩ := HL0
    by_cases hlt : k < n
    · have hsz := hbw.size
      have hB2 : w.heap.size + 2 < wr.heap.size := hown.lt
      obtain ⟨hwf, hks⟩ := HOK.out k hlt
      have d0 : wr.cell? ⟨eb, eo + k * 12, none⟩ = some (.string (E k).key) := keep hbw (HE.out k hlt 0 (by omega))
      have d1 : wr.cell? ⟨eb, eo + k * 12 + 1, none⟩ = some (.string (E k).req) := keep hbw (HE.out k hlt 1 (by omega))
      have d2 : wr.cell? ⟨eb, eo + k * 12 + 2, none⟩ = some (.int .i64 (E k).aid) := keep hbw (HE.out k hlt 2 (by omega))
      have d3 : wr.cell? ⟨eb, eo + k * 12 + 3, none⟩ = some (.int .i64 (E k).tid) := keep hbw (HE.out k hlt 3 (by omega))
      have d4 : wr.cell? ⟨eb, eo + k * 12 + 4, none⟩ = some (.int .i64 (E k).bid) := keep hbw (HE.out k hlt 4 (by omega))
      have d5 : wr.cell? ⟨eb, eo + k * 12 + 5, none⟩ = some (.int .i64 (E k).delta) := keep hbw (HE.out k hlt 5 (by omega))
      have d6 : wr.cell? ⟨eb, eo + k * 12 + 6, none⟩ = some (.int .i64 (E k).status) := keep hbw (HE.out k hlt 6 (by omega))
      have d7 : wr.cell? ⟨eb, eo + k * 12 + 7, none⟩ = some (.string (E k).body) := keep hbw (HE.out k hlt 7 (by omega))
      have d8 : wr.cell? ⟨eb, eo + k * 12 + 8, none⟩ = some (.slice (S k).a (S k).l (S k).c) := keep hbw (HE.out k hlt 8 (by omega))
      have d9 : wr.cell? ⟨eb, eo + k * 12 + 9, none⟩ = some (.bool (E k).replayed) := keep hbw (HE.out k hlt 9 (by omega))
      have d10 : wr.cell? ⟨eb, eo + k * 12 + 10, none⟩ = some (.int .i64 (E k).tries) := keep hbw (HE.out k hlt 10 (by omega))
      have d11 : wr.cell? ⟨eb, eo + k * 12 + 11, none⟩ = some (.string (E k).url) := keep hbw (HE.out k hlt 11 (by omega))
      have hml := mcnt_le M k
      have hcl := cnt_le (fun i => (E i).delta) k (E k).delta
      have hlk := lookInt (hown.alloc (.cells #[.string (E k).key, .string (E k).req, .int .i64 (E k).aid, .int .i64 (E k).tid, .int .i64 (E k).bid, .int .i64 (E k).delta, .int .i64 (E k).status, .string (E k).body, .slice (S k).a (S k).l (S k).c, .bool (E k).replayed, .int .i64 (E k).tries, .string (E k).url] 63)) hI (E k).delta hwf
      rw [cntO_getD] at hlk
      obtain ⟨w1, hup, hown1, hgr⟩ := World.ownsMap.update (t := 38) (e := 2) (hown.alloc (.cells #[.string (E k).key, .string (E k).req, .int .i64 (E k).aid, .int .i64 (E k).tid, .int .i64 (E k).bid, .int .i64 (E k).delta, .int .i64 (E k).status, .string (E k).body, .slice (S k).a (S k).l (S k).c, .bool (E k).replayed, .int .i64 (E k).tries, .string (E k).url] 63)) keyed2 Try.underlying38 (by unfold maxLen; omega) (key := .int .i64 (E k).delta) (val := .int .i64 ((cnt (fun i => (E i).delta) k (E k).delta : Int) + 1)) (keyOf_int_mk Try.underlying2 hwf) (plainElem_int Try.underlying2 (WalkArith.wf_i64 (by omega)))
      have hI2 := hI.put (E k).delta ((cnt (fun i => (E i).delta) k (E k).delta : Int) + 1)
      rw [cntO_step (fun i => (E i).delta) k] at hI2
      have hq := grown_blk hgr (newB wr _ 63) (show wr.heap.size ≠ w.heap.size + 2 by omega)
      have hr1 := grown_blk hgr (allocB hr _) (show w.heap.size + 1 ≠ w.heap.size + 2 by omega)
      have hc1 := grown_blk hgr (allocB hc0 _) (show w.heap.size ≠ w.heap.size + 2 by omega)
      have e0 : w1.cell? ⟨wr.heap.size, 0, none⟩ = some (.string (E k).key) := cellB hq 0
      have e1 : w1.cell? ⟨wr.heap.size, 1, none⟩ = some (.string (E k).req) := cellB hq 1
      have e2 : w1.cell? ⟨wr.heap.size, 2, none⟩ = some (.int .i64 (E k).aid) := cellB hq 2
      have e3 : w1.cell? ⟨wr.heap.size, 3, none⟩ = some (.int .i64 (E k).tid) := cellB hq 3
      have e4 : w1.cell? ⟨wr.heap.size, 4, none⟩ = some (.int .i64 (E k).bid) := cellB hq 4
      have e5 : w1.cell? ⟨wr.heap.size, 5, none⟩ = some (.int .i64 (E k).delta) := cellB hq 5
      have e6 : w1.cell? ⟨wr.heap.size, 6, none⟩ = some (.int .i64 (E k).status) := cellB hq 6
      have e7 : w1.cell? ⟨wr.heap.size, 7, none⟩ = some (.string (E k).body) := cellB hq 7
      have e8 : w1.cell? ⟨wr.heap.size, 8, none⟩ = some (.slice (S k).a (S k).l (S k).c) := cellB hq 8
      have e9 : w1.cell? ⟨wr.heap.size, 9, none⟩ = some (.bool (E k).replayed) := cellB hq 9
      have e10 : w1.cell? ⟨wr.heap.size, 10, none⟩ = some (.int .i64 (E k).tries) := cellB hq 10
      have e11 : w1.cell? ⟨wr.heap.size, 11, none⟩ = some (.string (E k).url) := cellB hq 11
      obtain ⟨r0, r1, r2, r3, r4, r5, r6, r7, r8, r9, r10⟩ := rcell hr1
      have hz : wr.heap.size < w1.heap.size := (Array.getElem?_eq_some_iff.1 hq).1
      have hbw1 : Below w.heap.size w w1 := (hbw.alloc hsz _).grown hgr (by simp; omega) (fun j hj => by cases hj; omega)
      have m1 : w1.cell? ⟨lb, 1, none⟩ = some (.map ro) := keep hbw1 l1
      have HL1 : Hid (L1 w n (fun i => (E i).delta) nrec b0 b1 b2 M k (k + 1) w1) := ⟨_, C0, hc1, hc0s, hr1, hown1, hI2, hbw1⟩
      have hlb1 : lb < w1.heap.size := by omega
      have hB0 : w.heap.size < w1.heap.size := by omega
      have hB1 : w.heap.size + 1 < w1.heap.size := by omega
      have f5 := frozenB hr1 5
      have HR1 : Hid (w1.heap[w.heap.size + 1]? = some (.cells (rArr n 0 0 0 0 (mcnt M k : Nat) nrec b0 b1 b2 0) 34 (0, 0))) := hr1
      clear hr hr1 hc0 hc1 hown hI hgr hq hc0s hown1 hI2
      cases nrec
      · obtain ⟨rb, rfl⟩ : ∃ rb, ro = some rb := by
          have := HNR.out
          cases ro with
          | none => cases this
          | some rb => exact ⟨rb, rfl⟩
        obtain ⟨Dr, hDr, hRM⟩ := HREC.out rb rfl
        have hMk : M k = mis rE rB nr (E k) (Bo k) := HM.out k
        have hDr1 := ownsMap_keep hDr hbw1
        have hlr1 := look_rep hDr1.drew hRM (E k).key hks
        have hlr2 := fun o => look_rep (hDr1.alloc o).drew hRM (E k).key hks
        have m2 : ∀ o, (w1.alloc o).cell? ⟨lb, 1, none⟩ = some (.map (some rb)) := fun o => cellNew m1 o
        have e0' : ∀ o, (w1.alloc o).cell? ⟨wr.heap.size, 0, none⟩ = some (.string (E k).key) := fun o => cellNew e0 o
        have hbw2 := fun o => hbw1.alloc hbw1.size o
        obtain rfl := HEA.out (by omega)
        cases hm : lastIx (rkeys rE) nr (E k).key.data.toList with
        | none =>
          have HMK : Hid (M k = true) := hMk.trans (mis_none hm)
          simp only [hm, lookSt, lookSl, Option.map_none, Option.getD_none, Option.isSome_none] at hlr1 hlr2
          clear hMk hm
          go_wp2
          go_region
          go_wp2
          go_quiet (fail)
          go_wp2
          go_roundw
          case rel => exact ⟨k + 1, by omega, by go_num, ((HL1.out.alloc _).drewN _).mis HMK.out⟩
          case measure => simp [intOf]; omega
        | some j =>
          have hjn := lastIx_lt hm
          have hMk2 := hMk.trans (mis_some hm)
          have HRJ : Hid (BytesAt w (rS j) (rB j)) := HRB.out j hjn
          have HBK : Hid (BytesAt w (S k) (Bo k)) := HBY.out k hlt
          simp only [hm, lookSt, lookSl, Option.map_some, Option.getD_some, Option.isSome_some] at hlr1 hlr2
          by_cases hst : (rE j).status = (E k).status
          · have hst' : ((rE j).status != (E k).status) = false := by simp [hst]
            have HH : Hid (((rB j).getD [] == (Bo k).getD (E k).body.data.toList) = true → M k = false) := show ((rB j).getD [] == (Bo k).getD (E k).body.data.toList) = true → M k = false from fun h => by rw [hMk2, hst', h]; rfl
            have HX : Hid (((rB j).getD [] == (Bo k).getD (E k).body.data.toList) = false → M k = true) := show ((rB j).getD [] == (Bo k).getD (E k).body.data.toList) = false → M k = true from fun h => by rw [hMk2, hst', h]; rfl
            clear hMk hMk2 hm hst
            generalize hq : ((rB j).getD [] == (Bo k).getD (E k).body.data.toList) = q at *
            have HQ : Hid (((rB j).getD [] == (Bo k).getD (E k).body.data.toList) = q) := hq
            clear hq
            go_wp2
            go_region
            go_wp2_with fail
            go_region_with (first | (go_at_call 28; refine (bodyBytes (E k) (S k) (Bo k) _ (by exact HBK.out.keep (by first | exact (hbw2 _).drew.drew | exact (hbw2 _).drew)) ).mono ?_; rintro e W3 ⟨t, rfl, ht, hb3⟩; have c31 : W3.cell? ⟨w1.heap.size, 1, none⟩ = some (.slice (rS j).a (rS j).l (rS j).c) := keep hb3 (cellB (newB w1 _ 60) 1); have hr3 := blk hb3 (allocB HR1.out _); have r53 := (rcell hr3).2.2.2.2.2.1; have f53 := frozenB hr3 5; clear hr3) | (go_at_call 27; refine (bytesEqual' (rS j) t (rB j) (some ((Bo k).getD (E k).body.data.toList)) _ q (by exact HQ.out) (by exact HRJ.out.keep (((hbw2 _).drew.drew).trans (hb3.mono (by simp; omega)))) (by exact ht)).mono ?_; rintro e W4 ⟨rfl, rfl⟩))
            all_goals cases q
            all_goals (try go_wp2)
            all_goals
              go_roundw
              case rel => first
                | exact ⟨k + 1, by omega, by go_num, (((HL1.out.alloc _).drew.drew).keep hb3).hit (HH.out rfl)⟩
                | exact ⟨k + 1, by omega, by go_num, (((HL1.out.alloc _).drew.drew).keep hb3).mis (HX.out rfl)⟩
              case measure => simp [intOf]; omega
          · have hst' : ((rE j).status != (E k).status) = true := by simp [hst]
            have HMK : Hid (M k = true) := by show M k = true; rw [hMk2, hst']; rfl
            clear hMk hMk2 hm hst
            go_wp2
            go_region
            go_wp2
            go_quiet (fail)
            go_wp2
            go_roundw
            case rel => exact ⟨k + 1, by omega, by go_num, ((HL1.out.alloc _).drewN _).mis HMK.out⟩
            case measure => simp [intOf]; omega
      · have hMk : M k = false := HM.out k
        obtain rfl := HEA.out (by omega)
        go_wp2
        go_roundw
        case rel => exact ⟨k + 1, by omega, by go_num, HL1.out.hit hMk⟩
        case measure => simp [intOf]; omega
    · have hkn : k = n := by omega
      subst hkn
      obtain ⟨wa, hwa⟩ : ∃ wa, wa = wr := ⟨_, rfl⟩
      subst hwa
      have hnlt : decide ((k : Int) < (k : Int)) = false := by simp
      obtain ⟨KH, hKn, hKm⟩ := keys_of Dh HMO.out.tidy
      have hKs : ∀ x ∈ KH, Maps.has Dh (.int .i64 x) = true := fun x hx => (hKm x).1 hx
      have m0 : wa.cell? ⟨lb, 0, none⟩ = some (.map ho) := keep hbw l0
      have HMO1 : Hid (MapO ho nh Dh wa) := HMO.out.keep hbw
      have HL2 : Hid (L2 w k Ds nrec b0 b1 b2 (mcnt M k : Nat) 0 0 0 0 0 wa) := ⟨C0, hc0, hc0s, hr, hown, hbw⟩
      have HI1 : Hid (IntMap Ds (cntO (fun i => (E i).delta) k)) := hI
      have hB2 : w.heap.size + 2 < wa.heap.size := hown.lt
      have hhb : ∀ b, ho = some b → b < w.heap.size := fun b e => by
        rcases HMO.out with ⟨e1, _⟩ | ⟨b', e1, h1⟩
        · rw [e1] at e; cases e
        · rw [e1] at e; cases e; exact h1.lt
      have HHB : Hid (∀ b, ho = some b → b < w.heap.size) := hhb
      have HKN : Hid (KH.Nodup) := hKn
      have HKM : Hid (∀ x, x ∈ KH ↔ Maps.has Dh (.int .i64 x) = true) := hKm
      clear hhb hKn hKm hc0 hc0s hr hown hI
      go_wp2_with (first | (at_range; refine wpList_rangeO _ rfl _ rfl ho nh Dh rfl HMO1.out ?_; intro w2 hro hg2 hz2))
      go_frame
      have HL3 := HL2.out.grown hg2 (fun r e => by cases e)
      go_loopw [11, 12] (fun _ _ wx => ∃ (left : Lit → Bool) (cn : Nat) (H Or S3 : Int), RO ho wa.heap.size nh Dh left cn wx ∧ L2 w k Ds nrec b0 b1 b2 (mcnt M k : Nat) H 0 0 Or S3 wx ∧
          Hid (H = wrap64 (sumD (fun x => (fh x).getD 0) left KH)) ∧ Hid (S3 = wrap64 (sumD (fun x => x * (fh x).getD 0) left KH)) ∧ Hid (Or = wrap64 (sumD (fun x => if cnt (fun i => (E i).delta) k x = 0 then (fh x).getD 0 else 0) left KH)))
        (fun _ _ wx => wx.rangeLeft (ho.getD 0) wa.heap.size)
      case atStart => exact ⟨_, _, 0, 0, 0, hro, HL3, by show _ = _; rw [sumD_start _ _ _ hKs, wrap_zero], by show _ = _; rw [sumD_start _ _ _ hKs, wrap_zero], by show _ = _; rw [sumD_start _ _ _ hKs, wrap_zero]⟩
      case round =>
        obtain ⟨left, cn, H, Or, S3, hro1, hL, HH, HS, HO⟩ := hrel
        go_wp2_with (first | (at_next; refine wpList_nextO _ rfl _ rfl ho wa.heap.size nh Dh left cn rfl hro1 ?_ ?_))
        · intro hdone
          obtain ⟨wb, hwb⟩ : ∃ wb, wb = wr := ⟨_, rfl⟩
          subst hwb
          have EH : Hid (H = wrap64 (sumA (fun x => (fh x).getD 0) KH)) := by show _ = _; rw [HH.out, sumD_end _ _ _ hdone]
          have ES : Hid (S3 = wrap64 (sumA (fun x => x * (fh x).getD 0) KH)) := by show _ = _; rw [HS.out, sumD_end _ _ _ hdone]
          have EO : Hid (Or = wrap64 (sumA (fun x => if cnt (fun i => (E i).delta) k x = 0 then (fh x).getD 0 else 0) KH)) := by show _ = _; rw [HO.out, sumD_end _ _ _ hdone]
          have hown3 : wb.ownsMap Try.prog 2 (plainElem Try.prog 2) (w.heap.size + 2) k Ds := by obtain ⟨_, _, _, _, h, _⟩ := hL; exact h
          obtain ⟨KS, hSn, hSm⟩ := keys_of Ds (hown3.tidy keyed2)
          have hSs : ∀ x ∈ KS, Maps.has Ds (.int .i64 x) = true := fun x hx => (hSm x).1 hx
          have HMO3 : Hid (MapO (some (w.heap.size + 1 + 1)) k Ds wb) := _root_.Or.inr ⟨_, rfl, hown3⟩
          have hsz3 : w.heap.size + 2 < wb.heap.size := hown3.lt
          have HL5 : Hid (L2 w k Ds nrec b0 b1 b2 (mcnt M k : Nat) H 0 0 Or S3 wb) := hL
          have HSN : Hid (KS.Nodup) := hSn
          have HSM : Hid (∀ x, x ∈ KS ↔ Maps.has Ds (.int .i64 x) = true) := hSm
          clear hSn hSm hown3 hL HH HS HO hdone hro1 hKs hnlt m0 HMO1 HL2 HL3 hro hg2 hz2
          go_wp2_with (first | (at_range; refine wpList_rangeO _ rfl _ rfl (some (w.heap.size + 1 + 1)) k Ds rfl HMO3.out ?_; intro w4 hro4 hg4 hz4))
          go_frame
          have HL6 := HL5.out.grown hg4 (fun r e => by cases e)
          go_loopw [13, 14] (fun _ _ wx => ∃ (left : Lit → Bool) (cn : Nat) (Du Lo : Int), RO (some (w.heap.size + 1 + 1)) wb.heap.size k Ds left cn wx ∧ L2 w k Ds nrec b0 b1 b2 (mcnt M k : Nat) H Du Lo Or S3 wx ∧
              Hid (Du = wrap64 (sumD (fun x => if (cnt (fun i => (E i).delta) k x : Int) < (fh x).getD 0 then min (cnt (fun i => (E i).delta) k x : Int) ((fh x).getD 0 - cnt (fun i => (E i).delta) k x) else 0) left KS)) ∧ Hid (Lo = wrap64 (sumD (fun x => if (cnt (fun i => (E i).delta) k x : Int) < (fh x).getD 0 then 0 else (cnt (fun i => (E i).delta) k x : Int) - (fh x).getD 0) left KS)))
            (fun _ _ wx => wx.rangeLeft (w.heap.size + 1 + 1) wb.heap.size)
          case atStart => exact ⟨_, _, 0, 0, hro4, HL6, by show _ = _; rw [sumD_start _ _ _ hSs, wrap_zero], by show _ = _; rw [sumD_start _ _ _ hSs, wrap_zero]⟩
          case round =>
            obtain ⟨left, cn, Du, Lo, hro5, hL7, HD, HLo⟩ := hrel
            go_wp2_with (first | (at_next; refine wpList_nextO _ rfl _ rfl (some (w.heap.size + 1 + 1)) wb.heap.size k Ds left cn rfl hro5 ?_ ?_))
            · intro hdone
              have hL8 := hL7
              obtain ⟨C1, g1, g2, g3, g4, g5⟩ := hL8
              have ED : Hid (Du = wrap64 (sumA (fun x => if (cnt (fun i => (E i).delta) k x : Int) < (fh x).getD 0 then min (cnt (fun i => (E i).delta) k x : Int) ((fh x).getD 0 - cnt (fun i => (E i).delta) k x) else 0) KS)) := by show _ = _; rw [HD.out, sumD_end _ _ _ hdone]
              have EL : Hid (Lo = wrap64 (sumA (fun x => if (cnt (fun i => (E i).delta) k x : Int) < (fh x).getD 0 then 0 else (cnt (fun i => (E i).delta) k x : Int) - (fh x).getD 0) KS)) := by show _ = _; rw [HLo.out, sumD_end _ _ _ hdone]
              obtain ⟨r0, r1, r2, r3, r4, r5, r6, r7, r8, r9, r10⟩ := rcell g3
              obtain ⟨d0, d1, d2, d3, d4, d5, d6, d7, d8, d9, d10⟩ := cells11 g1 g2
              have q0 := frozenB g1 0
              have q1 := frozenB g1 1
              have q2 := frozenB g1 2
              have q3 := frozenB g1 3
              have q4 := frozenB g1 4
              have q5 := frozenB g1 5
              have q6 := frozenB g1 6
              have q7 := frozenB g1 7
              have q8 := frozenB g1 8
              have q9 := frozenB g1 9
              have q10 := frozenB g1 10
              have HC1 : Hid (wr.heap[w.heap.size]? = some (.cells C1 34 (0, 0))) := g1
              have HC2 : Hid (C1.size = 11) := g2
              have HC5 : Hid (Below w.heap.size w wr) := g5
              clear g1 g2 g3 g4 g5 hL7 HD HLo hdone hro5 HL6 hro4 hg4 hz4 HMO3 HL5
              go_wp2
              have hfin := put11 HC1.out HC2.out (k : Int) H Du Lo Or (mcnt M k : Nat) nrec b0 b1 b2 S3
              have hld := run_loadVar_row (P := Try.prog) _ w.heap.size 34 34 _ (0, 0) _ hfin Try.underlying34 rfl (by kernel_rfl)
              have hbl := below11 HC5.out (Nat.le_refl _) (.int .i64 k) (.int .i64 H) (.int .i64 Du) (.int .i64 Lo) (.int .i64 Or) (.int .i64 (mcnt M k : Nat)) (.bool nrec) (.int .i64 b0) (.int .i64 b1) (.int .i64 b2) (.int .i64 S3)
              refine bodyPost_ret (v := .agg (rArr k H Du Lo Or (mcnt M k : Nat) nrec b0 b1 b2 S3)) (res22 _ _ w.heap.size _ rfl hld) rfl ?_
              refine ⟨KH, KS, HKN.out, fun x => by rw [HKM.out x, (HIH.out.2 x).1], HSN.out, fun x => by rw [HSM.out x, (HI1.out.2 x).1, cntO_some], ?_, hbl⟩
              rw [← EH.out, ← ES.out, ← EO.out, ← ED.out, ← EL.out]
            · intro b x c w1 cn1 hhob hwx hwc hlx hat hro2 hlt2 hg3 hz3 hen
              cases hhob
              have hL1 := hL7.grown hg3 (fun r e => by cases e; omega)
              obtain ⟨C1, g1, g2, g3, g4, g5⟩ := hL1
              obtain ⟨r0, r1, r2, r3, r4, r5, r6, r7, r8, r9, r10⟩ := rcell g3
              have f2 := frozenB g3 2
              have f3 := frozenB g3 3
              have m1 : w1.cell? ⟨lb, 0, none⟩ = some (.map ho) := keep g5 l0
              have hlk := (HMO.out.keep g5).look HIH.out x hwx
              have hcv : (cnt (fun i => (E i).delta) k x : Int) = c := by
                have h1 := hat (.lit (.int .i64 0))
                rw [(HI1.out.2 x).2] at h1
                rw [← cntO_getD]
                cases hq : cntO (fun i => (E i).delta) k x with
                | none => rw [hq] at h1; injection h1 with h1; injection h1 with _ h1
                | some v => rw [hq] at h1; injection h1 with h1; injection h1 with _ h1
              have hxK : x ∈ KS := (HSM.out x).2 (has_true_of_atKey hat)
              have hc1 := cnt_le (fun i => (E i).delta) k x
              have hc2 : 0 ≤ c ∧ c ≤ 4096 := by rw [← hcv]; omega
              have hrho := HRHO.out x
              have s1 := sumD_step (fun x => if (cnt (fun i => (E i).delta) k x : Int) < (fh x).getD 0 then min (cnt (fun i => (E i).delta) k x : Int) ((fh x).getD 0 - cnt (fun i => (E i).delta) k x) else 0) left x hlx KS HSN.out hxK
              have s2 := sumD_step (fun x => if (cnt (fun i => (E i).delta) k x : Int) < (fh x).getD 0 then 0 else (cnt (fun i => (E i).delta) k x : Int) - (fh x).getD 0) left x hlx KS HSN.out hxK
              simp only [hcv] at s1 s2
              have HL4 : Hid (L2 w k Ds nrec b0 b1 b2 (mcnt M k : Nat) H Du Lo Or S3 w1) := ⟨C1, g1, g2, g3, g4, g5⟩
              have HRO : Hid (RO (some (w.heap.size + 1 + 1)) wb.heap.size k Ds (fun z => left z && !z.sameKey (.int .i64 x)) cn1 w1) := hro2
              have HRO1 : Hid (RO (some (w.heap.size + 1 + 1)) wb.heap.size k Ds left cn wr) := hro5
              have kp : ∀ (X : World) (o : Nat) (v : Value) (cx : Nat) (lf : Lit → Bool), RO (some (w.heap.size + 1 + 1)) wb.heap.size k Ds lf cx X → RO (some (w.heap.size + 1 + 1)) wb.heap.size k Ds lf cx (X.setCell ⟨w.heap.size + 1, o, none⟩ v) := fun X o v cx lf h =>
                h.kept (grown_set _ _ _) (fun b' e => by cases e; intro e; injection e with e; simp at e) (fun e => by injection e with e; simp at e; omega)
              have KP : Hid (∀ (X : World) (o : Nat) (v : Value) (cx : Nat) (lf : Lit → Bool), RO (some (w.heap.size + 1 + 1)) wb.heap.size k Ds lf cx X → RO (some (w.heap.size + 1 + 1)) wb.heap.size k Ds lf cx (X.setCell ⟨w.heap.size + 1, o, none⟩ v)) := kp
              generalize hrv : (fh x).getD 0 = rv at s1 s2 hrho hlk
              by_cases hgt : c < rv
              · rw [if_pos hgt] at s1 s2
                have hgt' : decide (rv > c) = true := by simpa using hgt
                have HD1 : Hid (wrap64 (Du + min c (rv - c)) = wrap64 (sumD (fun x => if (cnt (fun i => (E i).delta) k x : Int) < (fh x).getD 0 then min (cnt (fun i => (E i).delta) k x : Int) ((fh x).getD 0 - cnt (fun i => (E i).delta) k x) else 0) (fun z => left z && !z.sameKey (.int .i64 x)) KS)) := by
                  show _ = _
                  rw [s1, HD.out, wrap_add]
                have HO1 : Hid (Lo = wrap64 (sumD (fun x => if (cnt (fun i => (E i).delta) k x : Int) < (fh x).getD 0 then 0 else (cnt (fun i => (E i).delta) k x : Int) - (fh x).getD 0) (fun z => left z && !z.sameKey (.int .i64 x)) KS)) := by
                  show _ = _
                  rw [s2, HLo.out, Int.add_zero]
                have hw1 : wrap64 (rv - c) = rv - c := by unfold wrap64; omega
                clear s1 s2 hcv kp hat hro2 hro5 g1 g2 g3 g4 g5 hL7 HD HLo hxK hg3 hrv hc1
                go_wp2
                go_roundw
                case rel => exact ⟨_, cn1, wrap64 (Du + min c (rv - c)), Lo, KP.out _ _ _ _ _ HRO.out, HL4.out.set 2 _ (by simp [rArr]), HD1.out, HO1.out⟩
                case measure =>
                  rw [(KP.out _ _ _ _ _ HRO.out).left_eq rfl, HRO1.out.left_eq rfl]
                  exact hlt2
              · rw [if_neg hgt] at s1 s2
                have hgt' : decide (rv > c) = false := by simpa using hgt
                have HD1 : Hid (Du = wrap64 (sumD (fun x => if (cnt (fun i => (E i).delta) k x : Int) < (fh x).getD 0 then min (cnt (fun i => (E i).delta) k x : Int) ((fh x).getD 0 - cnt (fun i => (E i).delta) k x) else 0) (fun z => left z && !z.sameKey (.int .i64 x)) KS)) := by
                  show _ = _
                  rw [s1, HD.out, Int.add_zero]
                have HO1 : Hid (wrap64 (Lo + wrap64 (c - rv)) = wrap64 (sumD (fun x => if (cnt (fun i => (E i).delta) k x : Int) < (fh x).getD 0 then 0 else (cnt (fun i => (E i).delta) k x : Int) - (fh x).getD 0) (fun z => left z && !z.sameKey (.int .i64 x)) KS)) := by
                  show _ = _
                  rw [s2, HLo.out, wrap_add2]
                clear s1 s2 hcv kp hat hro2 hro5 g1 g2 g3 g4 g5 hL7 HD HLo hxK hg3 hrv hc1
                go_wp2
                go_roundw
                case rel => exact ⟨_, cn1, Du, wrap64 (Lo + wrap64 (c - rv)), KP.out _ _ _ _ _ HRO.out, HL4.out.set 3 _ (by simp [rArr]), HD1.out, HO1.out⟩
                case measure =>
                  rw [(KP.out _ _ _ _ _ HRO.out).left_eq rfl, HRO1.out.left_eq rfl]
                  exact hlt2
        · intro b x c w1 cn1 hhob hwx hwc hlx hat hro2 hlt2 hg3 hz3 hen
          have hL1 := hL.grown hg3 (fun r e => by cases e; omega)
          obtain ⟨C1, g1, g2, g3, g4, g5⟩ := hL1
          obtain ⟨r0, r1, r2, r3, r4, r5, r6, r7, r8, r9, r10⟩ := rcell g3
          have f1 := frozenB g3 1
          have f4 := frozenB g3 4
          have f10 := frozenB g3 10
          have hlk : ∀ v1 v2, (Instr.lookup 38 (.map (some (w.heap.size + 1 + 1))) (.int .i64 x) false).run Try.prog ((w1.setCell ⟨w.heap.size + 1, 1, none⟩ v1).setCell ⟨w.heap.size + 1, 10, none⟩ v2) = .ok (.int .i64 (cnt (fun i => (E i).delta) k x)) ((w1.setCell ⟨w.heap.size + 1, 1, none⟩ v1).setCell ⟨w.heap.size + 1, 10, none⟩ v2) := fun v1 v2 => by
            have h0 : ((w1.setCell ⟨w.heap.size + 1, 1, none⟩ v1).setCell ⟨w.heap.size + 1, 10, none⟩ v2).ownsMap Try.prog 2 (plainElem Try.prog 2) (w.heap.size + 2) k Ds := (g4.kept (grown_set _ _ _) (fun e => by injection e with e; simp at e)).kept (grown_set _ _ _) (fun e => by injection e with e; simp at e)
            have := lookInt h0 HI1.out x hwx
            rw [cntO_getD] at this
            exact this
          have hcv : (fh x).getD 0 = c := by
            have h1 := hat (.lit (.int .i64 0))
            rw [(HIH.out.2 x).2] at h1
            cases hq : fh x with
            | none => rw [hq] at h1; injection h1 with h1; injection h1 with _ h1
            | some v => rw [hq] at h1; injection h1 with h1; injection h1 with _ h1
          have hxK : x ∈ KH := (HKM.out x).2 (has_true_of_atKey hat)
          have s1 := sumD_step (fun x => (fh x).getD 0) left x hlx KH HKN.out hxK
          have s2 := sumD_step (fun x => x * (fh x).getD 0) left x hlx KH HKN.out hxK
          have s3 := sumD_step (fun x => if cnt (fun i => (E i).delta) k x = 0 then (fh x).getD 0 else 0) left x hlx KH HKN.out hxK
          simp only [hcv] at s1 s2 s3
          have HH1 : Hid (wrap64 (H + c) = wrap64 (sumD (fun x => (fh x).getD 0) (fun z => left z && !z.sameKey (.int .i64 x)) KH)) := by
            show _ = _
            rw [s1, HH.out, wrap_add]
          have HS1 : Hid (wrap64 (S3 + wrap64 (x * c)) = wrap64 (sumD (fun x => x * (fh x).getD 0) (fun z => left z && !z.sameKey (.int .i64 x)) KH)) := by
            show _ = _
            rw [s2, HS.out, wrap_add2]
          have HL4 : Hid (L2 w k Ds nrec b0 b1 b2 (mcnt M k : Nat) H 0 0 Or S3 w1) := ⟨C1, g1, g2, g3, g4, g5⟩
          have hb1 : b < w.heap.size := HHB.out b hhob
          have HRO : Hid (RO ho wa.heap.size nh Dh (fun z => left z && !z.sameKey (.int .i64 x)) cn1 w1) := hro2
          have HRO1 : Hid (RO ho wa.heap.size nh Dh left cn wr) := hro1
          have kp : ∀ (X : World) (o : Nat) (v : Value) (cx : Nat) (lf : Lit → Bool), RO ho wa.heap.size nh Dh lf cx X → RO ho wa.heap.size nh Dh lf cx (X.setCell ⟨w.heap.size + 1, o, none⟩ v) := fun X o v cx lf h =>
            h.kept (grown_set _ _ _) (fun b' e => by rw [hhob] at e; cases e; intro e; injection e with e; simp at e; omega) (fun e => by injection e with e; simp at e; omega)
          have KP : Hid (∀ (X : World) (o : Nat) (v : Value) (cx : Nat) (lf : Lit → Bool), RO ho wa.heap.size nh Dh lf cx X → RO ho wa.heap.size nh Dh lf cx (X.setCell ⟨w.heap.size + 1, o, none⟩ v)) := kp
          have HHO : Hid (ho = some b) := hhob
          by_cases hcz : cnt (fun i => (E i).delta) k x = 0
          · have hcz' : ((cnt (fun i => (E i).delta) k x : Int) == 0) = true := by rw [beq_iff_eq]; omega
            rw [if_pos hcz] at s3
            have HO1 : Hid (wrap64 (Or + c) = wrap64 (sumD (fun x => if cnt (fun i => (E i).delta) k x = 0 then (fh x).getD 0 else 0) (fun z => left z && !z.sameKey (.int .i64 x)) KH)) := by
              show _ = _
              rw [s3, HO.out, wrap_add]
            clear hcz s1 s2 s3 hcv kp hhob hat hro2 hro1 g1 g2 g3 g4 g5 hL HH HS HO hxK hg3
            go_wp2
            go_roundw
            case rel => exact ⟨_, cn1, wrap64 (H + c), wrap64 (Or + c), wrap64 (S3 + wrap64 (x * c)), KP.out _ _ _ _ _ (KP.out _ _ _ _ _ (KP.out _ _ _ _ _ HRO.out)), ((HL4.out.set 1 _ rfl).set 10 _ rfl).set 4 _ rfl, HH1.out, HS1.out, HO1.out⟩
            case measure =>
              rw [HHO.out]
              show World.rangeLeft _ b _ < World.rangeLeft _ b _
              rw [(KP.out _ _ _ _ _ (KP.out _ _ _ _ _ (KP.out _ _ _ _ _ HRO.out))).left_eq HHO.out, HRO1.out.left_eq HHO.out]
              exact hlt2
          · have hcz' : ((cnt (fun i => (E i).delta) k x : Int) == 0) = false := by rw [beq_eq_false_iff_ne]; omega
            rw [if_neg hcz] at s3
            have HO1 : Hid (Or = wrap64 (sumD (fun x => if cnt (fun i => (E i).delta) k x = 0 then (fh x).getD 0 else 0) (fun z => left z && !z.sameKey (.int .i64 x)) KH)) := by
              show _ = _
              rw [s3, HO.out, Int.add_zero]
            clear hcz s1 s2 s3 hcv kp hhob hat hro2 hro1 g1 g2 g3 g4 g5 hL HH HS HO hxK hg3
            go_wp2
            go_roundw
            case rel => exact ⟨_, cn1, wrap64 (H + c), Or, wrap64 (S3 + wrap64 (x * c)), KP.out _ _ _ _ _ (KP.out _ _ _ _ _ HRO.out), (HL4.out.set 1 _ rfl).set 10 _ rfl, HH1.out, HS1.out, HO1.out⟩
            case measure =>
              rw [HHO.out]
              show World.rangeLeft _ b _ < World.rangeLeft _ b _
              rw [(KP.out _ _ _ _ _ (KP.out _ _ _ _ _ HRO.out)).left_eq HHO.out, HRO1.out.left_eq HHO.out]
              exact hlt2
end Go.Proofs.Qxb6603057a
