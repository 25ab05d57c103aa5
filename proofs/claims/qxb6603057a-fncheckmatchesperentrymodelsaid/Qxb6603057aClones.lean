/-
  zzCloneBytes, zzCloneReps, zzCloneEnts, zzCloneRows: THE CONTRACTS (of a slice that is not nil; nil apart).
-/
import Derived.Test.Qxb6603057aBase
namespace Go.Proofs.Qxb6603057a
open Go.RowKit
theorem info5 : (Try.prog.info? 5).map (fun i => (i.zero, i.size, i.bytes)) = some (some (.int .u8 0), 1, 1) := by kernel_rfl

theorem cloneBytes_nil (w : World) : Calls Try.prog 21 #[.slice none 0 0] w fun e w' => e = .returned (.slice none 0 0) ∧ w = w' := by
  have hnil := fun wx => Lib.run_eql_slice_nil (P := Try.prog) wx 43 5 none 0 0 0 0 Try.underlying43
  go_enter Try.func21, Try.ntmps21
  go_wp2
  go_ret
  exact ⟨rfl, rfl⟩
set_option maxHeartbeats 1000000 in
theorem cloneBytes_some (b o cap : Nat) (sp : Option Nat) (l : List UInt8) (hsp : 0 < l.length → sp = none) (w : World) (hn : l.length ≤ 4294967296) (hc : ∀ j (h : j < l.length), w.cell? ⟨b, o + j, none⟩ = some (.int .u8 (l[j].toNat : Int))) :
    Calls Try.prog 21 #[.slice (some ⟨b, o, sp⟩) l.length cap] w fun e w' => e = .returned (.slice (some ⟨w.heap.size, 0, none⟩) l.length l.length) ∧ (∀ j (h : j < l.length), w'.cell? ⟨w.heap.size, j, none⟩ = some (.int .u8 (l[j].toNat : Int))) ∧ Below w.heap.size w w' := by
  have hnil := fun wx => Lib.run_eql_slice_nil (P := Try.prog) wx 43 5 (some ⟨b, o, sp⟩) l.length cap 0 0 Try.underlying43
  go_enter Try.func21, Try.ntmps21
  go_wp2_with (at_make; refine makeN w rfl _ _ 43 5 rfl _ 1 1 Try.underlying43 info5 _ _ l.length rfl rfl rfl rfl (by omega) (by unfold maxLen; omega) ?_; intro w1 cur hg1 hcs hb1)
  go_loopw [4] (fun iv wr => ∃ (k : Nat) (cur : Array Value), k ≤ l.length ∧ iv = .int .i64 k ∧ wr.heap[w.heap.size]? = some (.cells cur 5 (0, 0)) ∧ cur.size = l.length ∧ Hid (∀ j (h : j < l.length), j < k → cur[j]? = some (.int .u8 (l[j].toNat : Int))) ∧ Below w.heap.size w wr) (fun iv _ => l.length - (intOf iv).toNat)
  case atStart => exact ⟨0, cur, Nat.zero_le _, rfl, hg1, by omega, show ∀ j (h : j < l.length), j < 0 → cur[j]? = some (.int .u8 (l[j].toNat : Int)) from fun j _ hj => by omega, hb1⟩
  case round =>
    obtain ⟨k, cur, hk, rfl, hg, hsz, HF, hbw⟩ := hrel
    by_cases hlt : k < l.length
    · obtain rfl := hsp (by omega)
      have d0 : wr.cell? ⟨b, o + k, none⟩ = some (.int .u8 (l[k].toNat : Int)) := keep hbw (hc k hlt)
      obtain ⟨x0, hx0⟩ := someAt (cs := cur) (j := k) (by omega)
      have e0 : wr.cell? ⟨w.heap.size, k, none⟩ = some x0 := (cellB hg _).trans hx0
      have f0 := frozenB hg k
      have HS : Hid (∀ j (h : j < l.length), j < k + 1 → (cur.setIfInBounds k (.int .u8 (l[k].toNat : Int)))[j]? = some (.int .u8 (l[j].toNat : Int))) := show ∀ j (h : j < l.length), j < k + 1 → (cur.setIfInBounds k (.int .u8 (l[k].toNat : Int)))[j]? = some (.int .u8 (l[j].toNat : Int)) from fun j h hj => by
        rw [Array.getElem?_setIfInBounds]
        by_cases e : k = j
        · subst e
          rw [if_pos rfl, if_pos (by omega)]
        · rw [if_neg e]
          exact HF.out j h (by omega)
      clear hc hx0 HF
      go_wp2
      go_roundw
      case rel => exact ⟨k + 1, _, by omega, by go_num, put1 hg _ _, by simpa using hsz, HS, hbw.setCell (p := ⟨w.heap.size, k, none⟩) (Nat.le_refl _) _⟩
      case measure => simp [intOf]; omega
    · obtain rfl : k = l.length := by omega
      go_wp2
      go_ret
      exact ⟨rfl, fun j h => by rw [cellB hg]; exact HF.out j h h, hbw⟩
/-- zzCloneBytes: the same bytes, in new memory; nil stays nil. -/
theorem cloneBytes (s : Sl) (o : Option (List UInt8)) (w : World) (h : BytesAt w s o) (hl : s.l ≤ 4294967296) :
    Calls Try.prog 21 #[.slice s.a s.l s.c] w fun e w' => ∃ s' : Sl, e = .returned (.slice s'.a s'.l s'.c) ∧ BytesAt w' s' o ∧ s'.l = s.l ∧ (∀ a, s'.a = some a → w.heap.size ≤ a.block) ∧ Below w.heap.size w w' := by
  rcases h with ⟨rfl, rfl⟩ | ⟨b, off, sp, l, h1, rfl, h3, h4, h5⟩
  · refine (cloneBytes_nil w).mono ?_
    rintro e w' ⟨rfl, rfl⟩
    exact ⟨⟨none, 0, 0⟩, rfl, Or.inl ⟨rfl, rfl⟩, rfl, (fun a ha => by cases ha), Below.refl _ _⟩
  · rw [h1, ← h3]
    refine (cloneBytes_some b off s.c sp l (by rw [h3]; exact h4) w (by omega) h5).mono ?_
    rintro e w' ⟨rfl, h6, h7⟩
    exact ⟨⟨some ⟨w.heap.size, 0, none⟩, l.length, l.length⟩, rfl, Or.inr ⟨w.heap.size, 0, none, l, rfl, rfl, rfl, fun _ => rfl, fun j hj => by rw [Nat.zero_add]; exact h6 j hj⟩, rfl, (fun a ha => by cases ha; exact Nat.le_refl _), h7⟩

theorem BytesAt.setCell {w : World} {s : Sl} {o : Option (List UInt8)} (h : BytesAt w s o) {p : Addr} {v : Value} (hp : ∀ a, s.a = some a → a.block ≠ p.block) : BytesAt (w.setCell p v) s o := by
  rcases h with h | ⟨b, off, sp, l, h1, h2, h3, h4, h5⟩
  · exact Or.inl h
  · exact Or.inr ⟨b, off, sp, l, h1, h2, h3, h4, fun j hj => by
      rw [World.cell?_setCell_other _ _ _ _ (fun e => hp _ h1 (by rw [e]))]; exact h5 j hj⟩

theorem blk {W2 W3 : World} (hb2 : Below W2.heap.size W2 W3) {B : Nat} {C : Array Value} {t : TypeId} {fr : Nat × Nat} (h : W2.heap[B]? = some (.cells C t fr)) : W3.heap[B]? = some (.cells C t fr) :=
  (hb2.block B (Array.getElem?_eq_some_iff.1 h).1).trans h
theorem Filled.set {C : Array Value} {n s k : Nat} {F G : Nat → List Value} (h : Filled C n s k F) (i0 f0 : Nat) (hi : i0 < k) (hk : k ≤ n) (hf : f0 < s) (v : Value) (ho : ∀ i, i < k → i ≠ i0 → G i = F i) (hs : ∀ f, f < s → (G i0)[f]? = if f = f0 then some v else (F i0)[f]?) :
    Filled (C.setIfInBounds (i0 * s + f0) v) n s k G := by
  refine ⟨by simpa using h.1, fun i hi' f hf' => ?_⟩
  rw [Array.getElem?_setIfInBounds]
  have hm := mul_lt (s := s) (show i0 < n by omega)
  by_cases e : i = i0
  · subst e
    rw [hs f hf']
    by_cases ef : f = f0
    · subst ef
      rw [if_pos rfl, if_pos (by rw [h.1]; omega), if_pos rfl]
    · rw [if_neg (by omega), if_neg ef]
      exact h.2 i hi' f hf'
  · rw [if_neg, ho i hi' e]
    · exact h.2 i hi' f hf'
    · rcases Nat.lt_or_ge i i0 with h1 | h1
      · have := mul_lt (s := s) h1; omega
      · have := mul_lt (s := s) (show i0 < i by omega); omega

theorem info47 : (Try.prog.info? 47).map (fun i => (i.zero, i.size, i.bytes)) = some (some (.agg #[.string ⟨#[]⟩, .int .i64 0, .slice none 0 0]), 3, 48) := by kernel_rfl
set_option maxHeartbeats 4000000 in
set_option maxRecDepth 100000 in
/-- cloneReps of a slice that is not nil: the same elements, each with its bytes in new memory. -/
theorem cloneReps_some (b o n cap : Nat) (sp : Option Nat) (hsp : 0 < n → sp = none) (E : Nat → Rp) (S : Nat → Sl) (Bo : Nat → Option (List UInt8)) (w : World) (hn : n ≤ 4096) (hc : HoldsAt w b o n 3 fun i => repCells (E i) (S i))
    (hB : ∀ i, i < n → BytesAt w (S i) (Bo i)) (hl : ∀ i, i < n → (S i).l ≤ 4294967296) :
    Calls Try.prog 11 #[.slice (some ⟨b, o, sp⟩) n cap] w fun e w' => ∃ S' : Nat → Sl, e = .returned (.slice (some ⟨w.heap.size, 0, none⟩) n n) ∧ HoldsAt w' w.heap.size 0 n 3 (fun i => repCells (E i) (S' i)) ∧ (∀ i, i < n → BytesAt w' (S' i) (Bo i) ∧ (S' i).l = (S i).l) ∧ Below w.heap.size w w' := by
  have hnil := fun wx => Lib.run_eql_slice_nil (P := Try.prog) wx 24 47 (some ⟨b, o, sp⟩) n cap 0 0 Try.underlying24
  go_enter Try.func11, Try.ntmps11
  go_wp2_with (at_make; refine makeN w rfl _ _ 24 47 rfl _ 3 48 Try.underlying24 info47 _ _ n rfl rfl rfl rfl (by omega) (by unfold maxLen; omega) ?_; intro w1 cur hg1 hcs hb1)
  go_loopw [4] (fun iv wr => ∃ (k : Nat) (cur : Array Value) (S' : Nat → Sl), k ≤ n ∧ iv = .int .i64 k ∧ wr.heap[w.heap.size]? = some (.cells cur 47 (0, 0)) ∧ Filled cur n 3 k (fun i => repCells (E i) (S' i)) ∧ Hid (∀ i, i < k → BytesAt wr (S' i) (Bo i) ∧ (S' i).l = (S i).l ∧ ∀ a, (S' i).a = some a → w.heap.size < a.block) ∧ Below w.heap.size w wr) (fun iv _ => n - (intOf iv).toNat)
  case atStart => exact ⟨0, cur, S, Nat.zero_le _, rfl, hg1, ⟨hcs, fun i hi => by omega⟩, show ∀ i, i < 0 → BytesAt w1 (S i) (Bo i) ∧ (S i).l = (S i).l ∧ ∀ a, (S i).a = some a → w.heap.size < a.block from fun i hi => by omega, hb1⟩
  case round =>
    obtain ⟨k, cur, S', hk, rfl, hg, hF, HB, hbw⟩ := hrel
    by_cases hlt : k < n
    · obtain rfl := hsp (by omega)
      have hsz := hF.1
      have d0 : wr.cell? ⟨b, o + k * 3, none⟩ = some (.string (E k).key) := keep hbw (hc k hlt 0 (by omega))
      have d1 : wr.cell? ⟨b, o + k * 3 + 1, none⟩ = some (.int .i64 (E k).status) := keep hbw (hc k hlt 1 (by omega))
      have d2 : wr.cell? ⟨b, o + k * 3 + 2, none⟩ = some (.slice (S k).a (S k).l (S k).c) := keep hbw (hc k hlt 2 (by omega))
      obtain ⟨x0, hx0⟩ := someAt (cs := cur) (j := k * 3) (by omega)
      have e0 : wr.cell? ⟨w.heap.size, k * 3, none⟩ = some x0 := (cellB hg _).trans hx0
      have f0 := frozenB hg (k * 3)
      obtain ⟨x1, hx1⟩ := someAt (cs := cur) (j := k * 3 + 1) (by omega)
      have e1 : wr.cell? ⟨w.heap.size, k * 3 + 1, none⟩ = some x1 := (cellB hg _).trans hx1
      have f1 := frozenB hg (k * 3 + 1)
      obtain ⟨x2, hx2⟩ := someAt (cs := cur) (j := k * 3 + 2) (by omega)
      have e2 : wr.cell? ⟨w.heap.size, k * 3 + 2, none⟩ = some x2 := (cellB hg _).trans hx2
      have f2 := frozenB hg (k * 3 + 2)
      have hS : Filled (putL cur (k * 3) (repCells (E k) (S k))) n 3 (k + 1) (fun i => repCells (E i) (if i = k then S k else S' i)) := by
        have h1 : Filled cur n 3 k (fun i => repCells (E i) (if i = k then S k else S' i)) := hF.congr (fun i hi => by simp only [if_neg (show i ≠ k by omega)])
        have h2 := h1.step hlt (by simp only [if_pos]; rfl)
        simp only [if_pos] at h2
        exact h2
      have hlk := hl k hlt
      have hBk := hB k hlt
      have hbn : b ≠ w.heap.size := by have := World.block_lt_of_cell? w _ (hc k hlt 0 (by omega)); simp at this; omega
      have hbn' : w.heap.size ≠ b := fun h => hbn h.symm
      have HL : Hid (∀ i, i < n → (S i).l ≤ 4294967296) := hl
      have HS : Hid (Filled (putL cur (k * 3) (repCells (E k) (S k))) n 3 (k + 1) (fun i => repCells (E i) (if i = k then S k else S' i))) := hS
      have HBK : Hid (BytesAt w (S k) (Bo k)) := hBk
      clear hc hx0 hx1 hx2 hF hS hB hl hBk
      go_wp2_with fail
      refine (cloneBytes (S k) (Bo k) _ (HBK.out.keep (((hbw.setCell (p := ⟨w.heap.size, k * 3, none⟩) (Nat.le_refl _) _).setCell (p := ⟨w.heap.size, k * 3 + 1, none⟩) (Nat.le_refl _) _).setCell (p := ⟨w.heap.size, k * 3 + 2, none⟩) (Nat.le_refl _) _)) hlk).mono ?_
      rintro e W3 ⟨s', rfl, hB', hsl, hfr, hb2⟩
      have HSL : Hid (s'.l = (S k).l) := hsl
      clear hsl
      have hB3 : W3.heap[w.heap.size]? = some (.cells (putL cur (k * 3) (repCells (E k) (S k))) 47 (0, 0)) := blk hb2 (put1 (put1 (put1 hg _ _) _ _) _ _)
      have HB3 : Hid (W3.heap[w.heap.size]? = some (.cells (putL cur (k * 3) (repCells (E k) (S k))) 47 (0, 0))) := hB3
      obtain ⟨y, hy⟩ := someAt (cs := putL cur (k * 3) (repCells (E k) (S k))) (j := k * 3 + 2) (by rw [putL_size]; have := mul_lt (s := 3) hlt; omega)
      have c8 : W3.cell? ⟨w.heap.size, k * 3 + 2, none⟩ = some y := (cellB hB3 _).trans hy
      have z8 := frozenB hB3 (k * 3 + 2)
      clear hB3 hy
      go_wp2
      go_roundw
      case rel =>
        refine ⟨k + 1, _, fun i => if i = k then s' else S' i, by omega, by go_num, put1 HB3.out _ _, ?_, ?_, ?_⟩
        · refine HS.out.set k 2 (by omega) (by omega) (by omega) _ (fun i hi he => by simp only [if_neg he]) (fun f hf => ?_)
          simp only [if_pos]
          match f, hf with
          | 0, _ => rfl
          | 1, _ => rfl
          | 2, _ => rfl
        · show ∀ i, i < k + 1 → _
          intro i hi
          rcases Nat.lt_or_ge i k with h1 | h1
          · obtain ⟨q1, q2, q3⟩ := HB.out i h1
            have hne : ∀ a, (S' i).a = some a → a.block ≠ w.heap.size := fun a ha => by have := q3 a ha; omega
            simp only [if_neg (show i ≠ k by omega)]
            exact ⟨((((q1.setCell hne).setCell hne).setCell hne).keep hb2).setCell hne, q2, q3⟩
          · obtain rfl : i = k := by omega
            have hbs : w.heap.size < wr.heap.size := (Array.getElem?_eq_some_iff.1 hg).1
            have q3 : ∀ a, s'.a = some a → w.heap.size < a.block := fun a ha => by have := hfr a ha; simp at this; omega
            simp only [if_pos]
            exact ⟨hB'.setCell (fun a ha => by have := q3 a ha; show a.block ≠ w.heap.size; omega), HSL.out, q3⟩
        · exact ((((hbw.setCell (p := ⟨w.heap.size, k * 3, none⟩) (Nat.le_refl _) _).setCell (p := ⟨w.heap.size, k * 3 + 1, none⟩) (Nat.le_refl _) _).setCell (p := ⟨w.heap.size, k * 3 + 2, none⟩) (Nat.le_refl _) _).trans (hb2.mono (((hbw.setCell (p := ⟨w.heap.size, k * 3, none⟩) (Nat.le_refl _) _).setCell (p := ⟨w.heap.size, k * 3 + 1, none⟩) (Nat.le_refl _) _).setCell (p := ⟨w.heap.size, k * 3 + 2, none⟩) (Nat.le_refl _) _).size)).setCell (p := ⟨w.heap.size, k * 3 + 2, none⟩) (Nat.le_refl _) _
      case measure => simp [intOf]; omega
    · obtain rfl : k = n := by omega
      go_wp2
      go_ret
      exact ⟨S', rfl, HoldsAt.of_filled hg hF, fun i hi => ⟨(HB.out i hi).1, (HB.out i hi).2.1⟩, hbw⟩

theorem info45 : (Try.prog.info? 45).map (fun i => (i.zero, i.size, i.bytes)) = some (some (.agg #[.string ⟨#[]⟩, .string ⟨#[]⟩, .int .i64 0, .int .i64 0, .int .i64 0, .int .i64 0, .int .i64 0, .string ⟨#[]⟩, .slice none 0 0, .bool false, .int .i64 0, .string ⟨#[]⟩]), 12, 144) := by kernel_rfl
set_option maxHeartbeats 4000000 in
set_option maxRecDepth 100000 in
/-- cloneEnts of a slice that is not nil: the same elements, each with its bytes in new memory. -/
theorem cloneEnts_some (b o n cap : Nat) (sp : Option Nat) (hsp : 0 < n → sp = none) (E : Nat → Ent) (S : Nat → Sl) (Bo : Nat → Option (List UInt8)) (w : World) (hn : n ≤ 4096) (hc : HoldsAt w b o n 12 fun i => entCells (E i) (S i))
    (hB : ∀ i, i < n → BytesAt w (S i) (Bo i)) (hl : ∀ i, i < n → (S i).l ≤ 4294967296) :
    Calls Try.prog 9 #[.slice (some ⟨b, o, sp⟩) n cap] w fun e w' => ∃ S' : Nat → Sl, e = .returned (.slice (some ⟨w.heap.size, 0, none⟩) n n) ∧ HoldsAt w' w.heap.size 0 n 12 (fun i => entCells (E i) (S' i)) ∧ (∀ i, i < n → BytesAt w' (S' i) (Bo i) ∧ (S' i).l = (S i).l) ∧ Below w.heap.size w w' := by
  have hnil := fun wx => Lib.run_eql_slice_nil (P := Try.prog) wx 22 45 (some ⟨b, o, sp⟩) n cap 0 0 Try.underlying22
  go_enter Try.func9, Try.ntmps9
  go_wp2_with (at_make; refine makeN w rfl _ _ 22 45 rfl _ 12 144 Try.underlying22 info45 _ _ n rfl rfl rfl rfl (by omega) (by unfold maxLen; omega) ?_; intro w1 cur hg1 hcs hb1)
  go_loopw [4] (fun iv wr => ∃ (k : Nat) (cur : Array Value) (S' : Nat → Sl), k ≤ n ∧ iv = .int .i64 k ∧ wr.heap[w.heap.size]? = some (.cells cur 45 (0, 0)) ∧ Filled cur n 12 k (fun i => entCells (E i) (S' i)) ∧ Hid (∀ i, i < k → BytesAt wr (S' i) (Bo i) ∧ (S' i).l = (S i).l ∧ ∀ a, (S' i).a = some a → w.heap.size < a.block) ∧ Below w.heap.size w wr) (fun iv _ => n - (intOf iv).toNat)
  case atStart => exact ⟨0, cur, S, Nat.zero_le _, rfl, hg1, ⟨hcs, fun i hi => by omega⟩, show ∀ i, i < 0 → BytesAt w1 (S i) (Bo i) ∧ (S i).l = (S i).l ∧ ∀ a, (S i).a = some a → w.heap.size < a.block from fun i hi => by omega, hb1⟩
  case round =>
    obtain ⟨k, cur, S', hk, rfl, hg, hF, HB, hbw⟩ := hrel
    by_cases hlt : k < n
    · obtain rfl := hsp (by omega)
      have hsz := hF.1
      have d0 : wr.cell? ⟨b, o + k * 12, none⟩ = some (.string (E k).key) := keep hbw (hc k hlt 0 (by omega))
      have d1 : wr.cell? ⟨b, o + k * 12 + 1, none⟩ = some (.string (E k).req) := keep hbw (hc k hlt 1 (by omega))
      have d2 : wr.cell? ⟨b, o + k * 12 + 2, none⟩ = some (.int .i64 (E k).aid) := keep hbw (hc k hlt 2 (by omega))
      have d3 : wr.cell? ⟨b, o + k * 12 + 3, none⟩ = some (.int .i64 (E k).tid) := keep hbw (hc k hlt 3 (by omega))
      have d4 : wr.cell? ⟨b, o + k * 12 + 4, none⟩ = some (.int .i64 (E k).bid) := keep hbw (hc k hlt 4 (by omega))
      have d5 : wr.cell? ⟨b, o + k * 12 + 5, none⟩ = some (.int .i64 (E k).delta) := keep hbw (hc k hlt 5 (by omega))
      have d6 : wr.cell? ⟨b, o + k * 12 + 6, none⟩ = some (.int .i64 (E k).status) := keep hbw (hc k hlt 6 (by omega))
      have d7 : wr.cell? ⟨b, o + k * 12 + 7, none⟩ = some (.string (E k).body) := keep hbw (hc k hlt 7 (by omega))
      have d8 : wr.cell? ⟨b, o + k * 12 + 8, none⟩ = some (.slice (S k).a (S k).l (S k).c) := keep hbw (hc k hlt 8 (by omega))
      have d9 : wr.cell? ⟨b, o + k * 12 + 9, none⟩ = some (.bool (E k).replayed) := keep hbw (hc k hlt 9 (by omega))
      have d10 : wr.cell? ⟨b, o + k * 12 + 10, none⟩ = some (.int .i64 (E k).tries) := keep hbw (hc k hlt 10 (by omega))
      have d11 : wr.cell? ⟨b, o + k * 12 + 11, none⟩ = some (.string (E k).url) := keep hbw (hc k hlt 11 (by omega))
      obtain ⟨x0, hx0⟩ := someAt (cs := cur) (j := k * 12) (by omega)
      have e0 : wr.cell? ⟨w.heap.size, k * 12, none⟩ = some x0 := (cellB hg _).trans hx0
      have f0 := frozenB hg (k * 12)
      obtain ⟨x1, hx1⟩ := someAt (cs := cur) (j := k * 12 + 1) (by omega)
      have e1 : wr.cell? ⟨w.heap.size, k * 12 + 1, none⟩ = some x1 := (cellB hg _).trans hx1
      have f1 := frozenB hg (k * 12 + 1)
      obtain ⟨x2, hx2⟩ := someAt (cs := cur) (j := k * 12 + 2) (by omega)
      have e2 : wr.cell? ⟨w.heap.size, k * 12 + 2, none⟩ = some x2 := (cellB hg _).trans hx2
      have f2 := frozenB hg (k * 12 + 2)
      obtain ⟨x3, hx3⟩ := someAt (cs := cur) (j := k * 12 + 3) (by omega)
      have e3 : wr.cell? ⟨w.heap.size, k * 12 + 3, none⟩ = some x3 := (cellB hg _).trans hx3
      have f3 := frozenB hg (k * 12 + 3)
      obtain ⟨x4, hx4⟩ := someAt (cs := cur) (j := k * 12 + 4) (by omega)
      have e4 : wr.cell? ⟨w.heap.size, k * 12 + 4, none⟩ = some x4 := (cellB hg _).trans hx4
      have f4 := frozenB hg (k * 12 + 4)
      obtain ⟨x5, hx5⟩ := someAt (cs := cur) (j := k * 12 + 5) (by omega)
      have e5 : wr.cell? ⟨w.heap.size, k * 12 + 5, none⟩ = some x5 := (cellB hg _).trans hx5
      have f5 := frozenB hg (k * 12 + 5)
      obtain ⟨x6, hx6⟩ := someAt (cs := cur) (j := k * 12 + 6) (by omega)
      have e6 : wr.cell? ⟨w.heap.size, k * 12 + 6, none⟩ = some x6 := (cellB hg _).trans hx6
      have f6 := frozenB hg (k * 12 + 6)
      obtain ⟨x7, hx7⟩ := someAt (cs := cur) (j := k * 12 + 7) (by omega)
      have e7 : wr.cell? ⟨w.heap.size, k * 12 + 7, none⟩ = some x7 := (cellB hg _).trans hx7
      have f7 := frozenB hg (k * 12 + 7)
      obtain ⟨x8, hx8⟩ := someAt (cs := cur) (j := k * 12 + 8) (by omega)
      have e8 : wr.cell? ⟨w.heap.size, k * 12 + 8, none⟩ = some x8 := (cellB hg _).trans hx8
      have f8 := frozenB hg (k * 12 + 8)
      obtain ⟨x9, hx9⟩ := someAt (cs := cur) (j := k * 12 + 9) (by omega)
      have e9 : wr.cell? ⟨w.heap.size, k * 12 + 9, none⟩ = some x9 := (cellB hg _).trans hx9
      have f9 := frozenB hg (k * 12 + 9)
      obtain ⟨x10, hx10⟩ := someAt (cs := cur) (j := k * 12 + 10) (by omega)
      have e10 : wr.cell? ⟨w.heap.size, k * 12 + 10, none⟩ = some x10 := (cellB hg _).trans hx10
      have f10 := frozenB hg (k * 12 + 10)
      obtain ⟨x11, hx11⟩ := someAt (cs := cur) (j := k * 12 + 11) (by omega)
      have e11 : wr.cell? ⟨w.heap.size, k * 12 + 11, none⟩ = some x11 := (cellB hg _).trans hx11
      have f11 := frozenB hg (k * 12 + 11)
      have hS : Filled (putL cur (k * 12) (entCells (E k) (S k))) n 12 (k + 1) (fun i => entCells (E i) (if i = k then S k else S' i)) := by
        have h1 : Filled cur n 12 k (fun i => entCells (E i) (if i = k then S k else S' i)) := hF.congr (fun i hi => by simp only [if_neg (show i ≠ k by omega)])
        have h2 := h1.step hlt (by simp only [if_pos]; rfl)
        simp only [if_pos] at h2
        exact h2
      have hlk := hl k hlt
      have hBk := hB k hlt
      have hbn : b ≠ w.heap.size := by have := World.block_lt_of_cell? w _ (hc k hlt 0 (by omega)); simp at this; omega
      have hbn' : w.heap.size ≠ b := fun h => hbn h.symm
      have HL : Hid (∀ i, i < n → (S i).l ≤ 4294967296) := hl
      have HS : Hid (Filled (putL cur (k * 12) (entCells (E k) (S k))) n 12 (k + 1) (fun i => entCells (E i) (if i = k then S k else S' i))) := hS
      have HBK : Hid (BytesAt w (S k) (Bo k)) := hBk
      clear hc hx0 hx1 hx2 hx3 hx4 hx5 hx6 hx7 hx8 hx9 hx10 hx11 hF hS hB hl hBk
      go_wp2_with fail
      refine (cloneBytes (S k) (Bo k) _ (HBK.out.keep ((((((((((((hbw.setCell (p := ⟨w.heap.size, k * 12, none⟩) (Nat.le_refl _) _).setCell (p := ⟨w.heap.size, k * 12 + 1, none⟩) (Nat.le_refl _) _).setCell (p := ⟨w.heap.size, k * 12 + 2, none⟩) (Nat.le_refl _) _).setCell (p := ⟨w.heap.size, k * 12 + 3, none⟩) (Nat.le_refl _) _).setCell (p := ⟨w.heap.size, k * 12 + 4, none⟩) (Nat.le_refl _) _).setCell (p := ⟨w.heap.size, k * 12 + 5, none⟩) (Nat.le_refl _) _).setCell (p := ⟨w.heap.size, k * 12 + 6, none⟩) (Nat.le_refl _) _).setCell (p := ⟨w.heap.size, k * 12 + 7, none⟩) (Nat.le_refl _) _).setCell (p := ⟨w.heap.size, k * 12 + 8, none⟩) (Nat.le_refl _) _).setCell (p := ⟨w.heap.size, k * 12 + 9, none⟩) (Nat.le_refl _) _).setCell (p := ⟨w.heap.size, k * 12 + 10, none⟩) (Nat.le_refl _) _).setCell (p := ⟨w.heap.size, k * 12 + 11, none⟩) (Nat.le_refl _) _)) hlk).mono ?_
      rintro e W3 ⟨s', rfl, hB', hsl, hfr, hb2⟩
      have HSL : Hid (s'.l = (S k).l) := hsl
      clear hsl
      have hB3 : W3.heap[w.heap.size]? = some (.cells (putL cur (k * 12) (entCells (E k) (S k))) 45 (0, 0)) := blk hb2 (put1 (put1 (put1 (put1 (put1 (put1 (put1 (put1 (put1 (put1 (put1 (put1 hg _ _) _ _) _ _) _ _) _ _) _ _) _ _) _ _) _ _) _ _) _ _) _ _)
      have HB3 : Hid (W3.heap[w.heap.size]? = some (.cells (putL cur (k * 12) (entCells (E k) (S k))) 45 (0, 0))) := hB3
      obtain ⟨y, hy⟩ := someAt (cs := putL cur (k * 12) (entCells (E k) (S k))) (j := k * 12 + 8) (by rw [putL_size]; have := mul_lt (s := 12) hlt; omega)
      have c8 : W3.cell? ⟨w.heap.size, k * 12 + 8, none⟩ = some y := (cellB hB3 _).trans hy
      have z8 := frozenB hB3 (k * 12 + 8)
      clear hB3 hy
      go_wp2
      go_roundw
      case rel =>
        refine ⟨k + 1, _, fun i => if i = k then s' else S' i, by omega, by go_num, put1 HB3.out _ _, ?_, ?_, ?_⟩
        · refine HS.out.set k 8 (by omega) (by omega) (by omega) _ (fun i hi he => by simp only [if_neg he]) (fun f hf => ?_)
          simp only [if_pos]
          match f, hf with
          | 0, _ => rfl
          | 1, _ => rfl
          | 2, _ => rfl
          | 3, _ => rfl
          | 4, _ => rfl
          | 5, _ => rfl
          | 6, _ => rfl
          | 7, _ => rfl
          | 8, _ => rfl
          | 9, _ => rfl
          | 10, _ => rfl
          | 11, _ => rfl
        · show ∀ i, i < k + 1 → _
          intro i hi
          rcases Nat.lt_or_ge i k with h1 | h1
          · obtain ⟨q1, q2, q3⟩ := HB.out i h1
            have hne : ∀ a, (S' i).a = some a → a.block ≠ w.heap.size := fun a ha => by have := q3 a ha; omega
            simp only [if_neg (show i ≠ k by omega)]
            exact ⟨(((((((((((((q1.setCell hne).setCell hne).setCell hne).setCell hne).setCell hne).setCell hne).setCell hne).setCell hne).setCell hne).setCell hne).setCell hne).setCell hne).keep hb2).setCell hne, q2, q3⟩
          · obtain rfl : i = k := by omega
            have hbs : w.heap.size < wr.heap.size := (Array.getElem?_eq_some_iff.1 hg).1
            have q3 : ∀ a, s'.a = some a → w.heap.size < a.block := fun a ha => by have := hfr a ha; simp at this; omega
            simp only [if_pos]
            exact ⟨hB'.setCell (fun a ha => by have := q3 a ha; show a.block ≠ w.heap.size; omega), HSL.out, q3⟩
        · exact (((((((((((((hbw.setCell (p := ⟨w.heap.size, k * 12, none⟩) (Nat.le_refl _) _).setCell (p := ⟨w.heap.size, k * 12 + 1, none⟩) (Nat.le_refl _) _).setCell (p := ⟨w.heap.size, k * 12 + 2, none⟩) (Nat.le_refl _) _).setCell (p := ⟨w.heap.size, k * 12 + 3, none⟩) (Nat.le_refl _) _).setCell (p := ⟨w.heap.size, k * 12 + 4, none⟩) (Nat.le_refl _) _).setCell (p := ⟨w.heap.size, k * 12 + 5, none⟩) (Nat.le_refl _) _).setCell (p := ⟨w.heap.size, k * 12 + 6, none⟩) (Nat.le_refl _) _).setCell (p := ⟨w.heap.size, k * 12 + 7, none⟩) (Nat.le_refl _) _).setCell (p := ⟨w.heap.size, k * 12 + 8, none⟩) (Nat.le_refl _) _).setCell (p := ⟨w.heap.size, k * 12 + 9, none⟩) (Nat.le_refl _) _).setCell (p := ⟨w.heap.size, k * 12 + 10, none⟩) (Nat.le_refl _) _).setCell (p := ⟨w.heap.size, k * 12 + 11, none⟩) (Nat.le_refl _) _).trans (hb2.mono ((((((((((((hbw.setCell (p := ⟨w.heap.size, k * 12, none⟩) (Nat.le_refl _) _).setCell (p := ⟨w.heap.size, k * 12 + 1, none⟩) (Nat.le_refl _) _).setCell (p := ⟨w.heap.size, k * 12 + 2, none⟩) (Nat.le_refl _) _).setCell (p := ⟨w.heap.size, k * 12 + 3, none⟩) (Nat.le_refl _) _).setCell (p := ⟨w.heap.size, k * 12 + 4, none⟩) (Nat.le_refl _) _).setCell (p := ⟨w.heap.size, k * 12 + 5, none⟩) (Nat.le_refl _) _).setCell (p := ⟨w.heap.size, k * 12 + 6, none⟩) (Nat.le_refl _) _).setCell (p := ⟨w.heap.size, k * 12 + 7, none⟩) (Nat.le_refl _) _).setCell (p := ⟨w.heap.size, k * 12 + 8, none⟩) (Nat.le_refl _) _).setCell (p := ⟨w.heap.size, k * 12 + 9, none⟩) (Nat.le_refl _) _).setCell (p := ⟨w.heap.size, k * 12 + 10, none⟩) (Nat.le_refl _) _).setCell (p := ⟨w.heap.size, k * 12 + 11, none⟩) (Nat.le_refl _) _).size)).setCell (p := ⟨w.heap.size, k * 12 + 8, none⟩) (Nat.le_refl _) _
      case measure => simp [intOf]; omega
    · obtain rfl : k = n := by omega
      go_wp2
      go_ret
      exact ⟨S', rfl, HoldsAt.of_filled hg hF, fun i hi => ⟨(HB.out i hi).1, (HB.out i hi).2.1⟩, hbw⟩
theorem info51 : (Try.prog.info? 51).map (fun i => (i.zero, i.size, i.bytes)) = some (some (.agg #[.int .i64 0, .int .i64 0]), 2, 16) := by kernel_rfl

set_option maxHeartbeats 1000000 in
/-- zzCloneRows of a slice that is not nil. -/
theorem cloneRows (b o n cap : Nat) (sp : Option Nat) (hsp : 0 < n → sp = none) (D R : Nat → Int) (w : World) (hn : n ≤ 4096) (hc : HoldsAt w b o n 2 fun i => rowCells (D i) (R i)) :
    Calls Try.prog 10 #[.slice (some ⟨b, o, sp⟩) n cap] w fun e w' => e = .returned (.slice (some ⟨w.heap.size, 0, none⟩) n n) ∧ HoldsAt w' w.heap.size 0 n 2 (fun i => rowCells (D i) (R i)) ∧ Below w.heap.size w w' := by
  have hnil := fun wx => Lib.run_eql_slice_nil (P := Try.prog) wx 23 51 (some ⟨b, o, sp⟩) n cap 0 0 Try.underlying23
  go_enter Try.func10, Try.ntmps10
  go_wp2_with (at_make; refine makeN w rfl _ _ 23 51 rfl _ 2 16 Try.underlying23 info51 _ _ n rfl rfl rfl rfl (by omega) (by unfold maxLen; omega) ?_; intro w1 cur hg1 hcs hb1)
  go_loopw [4] (fun iv wr => ∃ (k : Nat) (cur : Array Value), k ≤ n ∧ iv = .int .i64 k ∧ wr.heap[w.heap.size]? = some (.cells cur 51 (0, 0)) ∧ Filled cur n 2 k (fun i => rowCells (D i) (R i)) ∧ Below w.heap.size w wr) (fun iv _ => n - (intOf iv).toNat)
  case atStart => exact ⟨0, cur, Nat.zero_le _, rfl, hg1, ⟨hcs, fun i hi => by omega⟩, hb1⟩
  case round =>
    obtain ⟨k, cur, hk, rfl, hg, hF, hbw⟩ := hrel
    by_cases hlt : k < n
    · obtain rfl := hsp (by omega)
      have hsz := hF.1
      have d0 : wr.cell? ⟨b, o + k * 2, none⟩ = some (.int .i64 (D k)) := keep hbw (hc k hlt 0 (by omega))
      have d1 : wr.cell? ⟨b, o + k * 2 + 1, none⟩ = some (.int .i64 (R k)) := keep hbw (hc k hlt 1 (by omega))
      obtain ⟨x0, hx0⟩ := someAt (cs := cur) (j := k * 2) (by omega)
      obtain ⟨x1, hx1⟩ := someAt (cs := cur) (j := k * 2 + 1) (by omega)
      have e0 : wr.cell? ⟨w.heap.size, k * 2, none⟩ = some x0 := (cellB hg _).trans hx0
      have e1 : wr.cell? ⟨w.heap.size, k * 2 + 1, none⟩ = some x1 := (cellB hg _).trans hx1
      have f0 := frozenB hg (k * 2)
      have f1 := frozenB hg (k * 2 + 1)
      have hS := hF.step hlt rfl
      clear hc hx0 hx1
      go_wp2
      go_roundw
      case rel => exact ⟨k + 1, _, by omega, by go_num, put1 (put1 hg _ _) _ _, hS, (hbw.setCell (p := ⟨w.heap.size, k * 2, none⟩) (Nat.le_refl _) _).setCell (p := ⟨w.heap.size, k * 2 + 1, none⟩) (Nat.le_refl _) _⟩
      case measure => simp [intOf]; omega
    · obtain rfl : k = n := by omega
      go_wp2
      go_ret
      exact ⟨rfl, HoldsAt.of_filled hg hF, hbw⟩
end Go.Proofs.Qxb6603057a
