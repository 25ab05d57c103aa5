/-
  THE CALLEES OF 'zzModel': functions 25, 26, 23, 29, 24.
-/
import Derived.Test.Qxb6603057aPlain7
namespace Go.Proofs.Qxb6603057a
open Go.RowKit Go.Maps

set_option maxHeartbeats 1000000 in
theorem zzLastRow (ha : Option Addr) (hb ho n cap : Nat) (x : Int) (D R : Nat → Int) (w : World) (hn : n ≤ 4096) (hha : 0 < n → ha = some ⟨hb, ho, none⟩) (hc : HoldsAt w hb ho n 2 fun i => rowCells (D i) (R i)) :
    Calls Try.prog 25 #[.slice ha n cap, .int .i64 x] w fun e w' => e = .returned (.int .i64 ((last D R n x).getD 0)) ∧ w = w' := by
  have HC := Hid.mk'' hc
  have HH := Hid.mk'' hha
  clear hc hha
  have hsub : wrap64 ((n : Int) - 1) = (n : Int) - 1 := by unfold wrap64; omega
  go_enter Try.func25, Try.ntmps25
  go_wp2
  go_loopw [5] (fun iv wr => ∃ k : Nat, k ≤ n ∧ iv = .int .i64 ((k : Int) - 1) ∧ Hid (last D R n x = last D R k x) ∧ w = wr) (fun iv _ => (intOf iv + 1).toNat)
  case atStart => exact ⟨n, Nat.le_refl _, by simp, Hid.mk'' rfl, rfl⟩
  case round =>
    obtain ⟨k, hk, rfl, HL, rfl⟩ := hrel
    cases k with
    | zero =>
      have hd : decide (((0 : Nat) : Int) - 1 ≥ 0) = false := by simp
      have he : last D R n x = none := HL.out
      go_wp2
      go_ret
      exact ⟨by first | rfl | (rw [he]; rfl), rfl⟩
    | succ k =>
      obtain rfl := HH.out (by omega)
      have hkk : (((k + 1 : Nat) : Int) - 1) = (k : Int) := by omega
      rw [hkk]
      have hd : decide ((k : Int) ≥ 0) = true := by simp
      have hi0 : (0 : Int) ≤ (k : Int) := by omega
      have hi1 : (k : Int) < (n : Int) := by omega
      have d0 : w.cell? ⟨hb, ho + k * 2, none⟩ = some (.int .i64 (D k)) := HC.out k (by omega) 0 (by omega)
      have d1 : w.cell? ⟨hb, ho + k * 2 + 1, none⟩ = some (.int .i64 (R k)) := HC.out k (by omega) 1 (by omega)
      by_cases hx : D k = x
      · have hx' : (D k == x) = true := by rw [beq_iff_eq]; exact hx
        have he : last D R n x = some (R k) := by rw [HL.out, last, if_pos hx]
        clear hx
        go_wp2
        go_ret
        exact ⟨by first | rfl | (rw [he]; rfl), rfl⟩
      · have hx' : (D k == x) = false := by rw [beq_eq_false_iff_ne]; exact hx
        have HL' : Hid (last D R n x = last D R k x) := Hid.mk'' (by rw [HL.out, last, if_neg hx])
        have hs : wrap64 ((k : Int) - 1) = (k : Int) - 1 := by unfold wrap64; omega
        clear hx
        go_wp2
        go_roundw
        case rel => exact ⟨k, by omega, by simp, HL', by trivial⟩
        case measure => simp [intOf]

theorem cnt_pos0 (D : Nat → Int) (n i : Nat) (h : i < n) : cnt D n (D i) ≠ 0 := by
  induction n with
  | zero => omega
  | succ n ih =>
    rw [cnt]
    by_cases e : i = n
    · subst e; simp
    · have := ih (by omega); split <;> omega
set_option maxHeartbeats 1000000 in
theorem zzHasDelta (ea : Option Addr) (eb eo n cap : Nat) (x : Int) (w : World) (hn : n ≤ 4096) (hea : 0 < n → ea = some ⟨eb, eo, none⟩) (E : Nat → Ent) (S : Nat → Sl) (hE : HoldsAt w eb eo n 12 fun i => entCells (E i) (S i)) :
    Calls Try.prog 26 #[.slice ea n cap, .int .i64 x] w fun e w' => e = .returned (.bool (!(cnt (fun i => (E i).delta) n x == 0))) ∧ w = w' := by
  have HC := Hid.mk'' hE
  have HH := Hid.mk'' hea
  clear hE hea
  go_enter Try.func26, Try.ntmps26
  go_wp2
  go_loopw [5] (fun iv wr => ∃ k : Nat, k ≤ n ∧ iv = .int .i64 k ∧ Hid (cnt (fun i => (E i).delta) k x = 0) ∧ w = wr) (fun iv _ => n - (intOf iv).toNat)
  case atStart => exact ⟨0, Nat.zero_le _, rfl, Hid.mk'' rfl, rfl⟩
  case round =>
    obtain ⟨k, hk, rfl, HL, rfl⟩ := hrel
    by_cases hlt : k < n
    · obtain rfl := HH.out (by omega)
      have hi0 : (0 : Int) ≤ (k : Int) := by omega
      have hi1 : (k : Int) < (n : Int) := by omega
      have d0 : w.cell? ⟨eb, eo + k * 12 + 5, none⟩ = some (.int .i64 (E k).delta) := HC.out k hlt 5 (by omega)
      by_cases hx : (E k).delta = x
      · have hx' : ((E k).delta == x) = true := by rw [beq_iff_eq]; exact hx
        have he : cnt (fun i => (E i).delta) n x ≠ 0 := by rw [← hx]; exact cnt_pos0 (fun i => (E i).delta) n k hlt
        have he' : (!(cnt (fun i => (E i).delta) n x == 0)) = true := by simpa using he
        clear hx
        go_wp2
        go_ret
        exact ⟨by first | rfl | (rw [he']; rfl), rfl⟩
      · have hx' : ((E k).delta == x) = false := by rw [beq_eq_false_iff_ne]; exact hx
        have HL' : Hid (cnt (fun i => (E i).delta) (k + 1) x = 0) := Hid.mk'' (by rw [cnt, HL.out, if_neg hx])
        clear hx
        go_wp2
        go_roundw
        case rel => exact ⟨k + 1, by omega, by go_num, HL', by trivial⟩
        case measure => simp [intOf]; omega
    · obtain rfl : k = n := by omega
      have he' : (!(cnt (fun i => (E i).delta) k x == 0)) = false := by rw [HL.out]; rfl
      go_wp2
      go_ret
      exact ⟨by first | rfl | (rw [he']; rfl), rfl⟩

theorem lastIx_pos {K : Nat → List UInt8} {k : Nat} {x : List UInt8} (h : K k = x) : lastIx K (k + 1) x = some k := by rw [lastIx, if_pos h]
theorem lastIx_neg {K : Nat → List UInt8} {k : Nat} {x : List UInt8} (h : K k ≠ x) : lastIx K (k + 1) x = lastIx K k x := by rw [lastIx, if_neg h]
/-- What 'zzLastRep' hands back. -/
def lastRep (rE : Nat → Rp) (n : Nat) (key : List UInt8) : Value := .tuple #[.int .i64 ((lastIx (rkeys rE) n key).getD 0 : Nat), .bool (lastIx (rkeys rE) n key).isSome]
set_option maxHeartbeats 1000000 in
theorem zzLastRep (ra : Option Addr) (rb ro n cap : Nat) (key : ByteArray) (w : World) (hn : n ≤ 4096) (hra : 0 < n → ra = some ⟨rb, ro, none⟩) (rE : Nat → Rp) (rS : Nat → Sl) (hR : HoldsAt w rb ro n 3 fun i => repCells (rE i) (rS i)) :
    Calls Try.prog 23 #[.slice ra n cap, .string key] w fun e w' => e = .returned (lastRep rE n key.data.toList) ∧ w = w' := by
  have HC := Hid.mk'' hR
  have HH := Hid.mk'' hra
  clear hR hra
  have hsub : wrap64 ((n : Int) - 1) = (n : Int) - 1 := by unfold wrap64; omega
  go_enter Try.func23, Try.ntmps23
  go_wp2
  go_loopw [6] (fun iv wr => ∃ k : Nat, k ≤ n ∧ iv = .int .i64 ((k : Int) - 1) ∧ Hid (lastIx (rkeys rE) n key.data.toList = lastIx (rkeys rE) k key.data.toList) ∧ w = wr) (fun iv _ => (intOf iv + 1).toNat)
  case atStart => exact ⟨n, Nat.le_refl _, by simp, Hid.mk'' rfl, rfl⟩
  case round =>
    obtain ⟨k, hk, rfl, HL, rfl⟩ := hrel
    cases k with
    | zero =>
      have hd : decide (((0 : Nat) : Int) - 1 ≥ 0) = false := by simp
      have he : lastIx (rkeys rE) n key.data.toList = none := HL.out
      go_wp2
      exact bodyPost_ret (v := .tuple #[.int .i64 0, .bool false]) (by simp [results, Try.results23, go_sem]) rfl ⟨by unfold lastRep; first | rfl | (rw [he]; rfl), rfl⟩
    | succ k =>
      obtain rfl := HH.out (by omega)
      have hkk : (((k + 1 : Nat) : Int) - 1) = (k : Int) := by omega
      rw [hkk]
      have hd : decide ((k : Int) ≥ 0) = true := by simp
      have hi0 : (0 : Int) ≤ (k : Int) := by omega
      have hi1 : (k : Int) < (n : Int) := by omega
      have d0 : w.cell? ⟨rb, ro + k * 3, none⟩ = some (.string (rE k).key) := HC.out k (by omega) 0 (by omega)
      by_cases hx : rkeys rE k = key.data.toList
      · have hx' : ((rE k).key.toList == key.toList) = true := by rw [beq_iff_eq, ByteArray.toList_eq, ByteArray.toList_eq]; exact hx
        have he : lastIx (rkeys rE) n key.data.toList = some k := by rw [HL.out]; exact lastIx_pos hx
        clear hx
        go_wp2
        exact bodyPost_ret (v := .tuple #[.int .i64 k, .bool true]) (by simp [results, Try.results23, go_sem]) rfl ⟨by unfold lastRep; first | rfl | (rw [he]; rfl), rfl⟩
      · have hx' : ((rE k).key.toList == key.toList) = false := by rw [beq_eq_false_iff_ne, ByteArray.toList_eq, ByteArray.toList_eq]; exact hx
        have HL' : Hid (lastIx (rkeys rE) n key.data.toList = lastIx (rkeys rE) k key.data.toList) := Hid.mk'' (by rw [HL.out]; exact lastIx_neg hx)
        have hs : wrap64 ((k : Int) - 1) = (k : Int) - 1 := by unfold wrap64; omega
        clear hx
        go_wp2
        go_roundw
        case rel => exact ⟨k, by omega, by simp, HL', by trivial⟩
        case measure => simp [intOf]

theorem BytesAt.len {w : World} {s : Sl} {o : Option (List UInt8)} (h : BytesAt w s o) : (o.getD []).length = s.l := by
  rcases h with ⟨rfl, rfl⟩ | ⟨b, off, sp, l, h1, rfl, h3, h4, h5⟩
  · rfl
  · exact h3
theorem BytesAt.get {w : World} {s : Sl} {o : Option (List UInt8)} (h : BytesAt w s o) (hl : 0 < s.l) : ∃ b off, s.a = some ⟨b, off, none⟩ ∧ ∀ j, j < s.l → ∃ c : UInt8, (o.getD [])[j]? = some c ∧ w.cell? ⟨b, off + j, none⟩ = some (.int .u8 (c.toNat : Int)) := by
  rcases h with ⟨rfl, rfl⟩ | ⟨b, off, sp, l, h1, rfl, h3, h4, h5⟩
  · exact absurd hl (by simp)
  · obtain rfl := h4 hl
    exact ⟨b, off, h1, fun j hj => ⟨l[j]'(by omega), by simp [show j < l.length by omega], h5 j (by omega)⟩⟩
theorem ext_upto {l m : List UInt8} {n : Nat} (h1 : l.length = n) (h2 : m.length = n) (h : ∀ j, j < n → l[j]? = m[j]?) : l = m := by
  apply List.ext_getElem?
  intro j
  by_cases hj : j < n
  · exact h j hj
  · rw [List.getElem?_eq_none (by omega), List.getElem?_eq_none (by omega)]
theorem byte_ne {x y : UInt8} (h : x ≠ y) : ((x.toNat : Int) != (y.toNat : Int)) = true := by
  rw [bne_iff_ne]
  intro e
  exact h (UInt8.toNat_inj.1 (by omega))
theorem byte_eq (x : UInt8) : ((x.toNat : Int) != (x.toNat : Int)) = false := by simp

set_option maxHeartbeats 1000000 in
theorem zzEqBytes (s t : Sl) (o p : Option (List UInt8)) (w : World) (hn : s.l ≤ 1048576) (hs : BytesAt w s o) (ht : BytesAt w t p) :
    Calls Try.prog 29 #[.slice s.a s.l s.c, .slice t.a t.l t.c] w fun e w' => e = .returned (.bool (o.getD [] == p.getD [])) ∧ Below w.heap.size w w' := by
  have ls := hs.len
  have lt := ht.len
  have HS := Hid.mk'' hs.get
  have HT := Hid.mk'' ht.get
  clear hs ht
  obtain ⟨sa, sn, sc⟩ := s
  obtain ⟨ta, tn, tc⟩ := t
  dsimp only at *
  generalize o.getD [] = l at *
  generalize p.getD [] = m at *
  have LS := Hid.mk'' ls
  have LT := Hid.mk'' lt
  clear ls lt
  go_enter Try.func29, Try.ntmps29
  by_cases hl : sn = tn
  · subst hl
    have hd : ((sn : Int) != (sn : Int)) = false := by simp
    go_wp2
    go_loopw [5] (fun iv wr => ∃ k : Nat, k ≤ sn ∧ iv = .int .i64 k ∧ Hid (∀ j, j < k → l[j]? = m[j]?) ∧ Below w.heap.size w wr) (fun iv _ => sn - (intOf iv).toNat)
    case atStart => exact ⟨0, Nat.zero_le _, rfl, Hid.mk'' (fun j hj => by omega), Below.refl _ _⟩
    case round =>
      obtain ⟨k, hk, rfl, HL, hw⟩ := hrel
      by_cases hlt : k < sn
      · obtain ⟨b, off, rfl, hS⟩ := HS.out (by omega)
        obtain ⟨b', off', rfl, hT⟩ := HT.out (by omega)
        obtain ⟨x, hx, cx⟩ := hS k hlt
        obtain ⟨y, hy, cy⟩ := hT k hlt
        have cx' := keep hw cx
        have cy' := keep hw cy
        have hi0 : (0 : Int) ≤ (k : Int) := by omega
        have hi1 : (k : Int) < (sn : Int) := by omega
        have HX := Hid.mk'' hx
        have HY := Hid.mk'' hy
        clear cx cy hS hT hx hy
        by_cases e : x = y
        · subst e
          have hd := byte_eq x
          go_wp2
          go_region
          all_goals (try go_wp2)
          all_goals
            go_roundw
            case rel =>
              refine ⟨k + 1, by omega, by go_num, Hid.mk'' (fun j hj => ?_), hw.drew⟩
              by_cases ej : j = k
              · rw [ej, HX.out, HY.out]
              · exact HL.out j (by omega)
            case measure => simp [intOf]; omega
        · have hd := byte_ne e
          have he : (l == m) = false := by
            rw [beq_eq_false_iff_ne]
            intro h
            subst h
            exact e (Option.some.inj (HX.out.symm.trans HY.out))
          clear e
          go_wp2
          go_region
          all_goals (try go_wp2)
          all_goals (go_ret; exact ⟨by first | rfl | (rw [he]; rfl), hw.drew⟩)
      · obtain rfl : k = sn := by omega
        have he : (l == m) = true := by rw [beq_iff_eq]; exact ext_upto LS.out LT.out HL.out
        go_wp2
        go_ret
        exact ⟨by first | rfl | (rw [he]; rfl), hw⟩
  · have hd : ((sn : Int) != (tn : Int)) = true := by rw [bne_iff_ne]; omega
    have he : (l == m) = false := by
      rw [beq_eq_false_iff_ne]
      intro h
      subst h
      exact hl (LS.out.symm.trans LT.out)
    clear hl
    go_wp2
    go_ret
    exact ⟨by first | rfl | (rw [he]; rfl), Below.refl _ _⟩

theorem run_idx (s : ByteArray) (k : Nat) (hk : k < s.size) : ∃ y : UInt8, s.data.toList[k]? = some y ∧ ∀ wx : World, (Instr.index 9 (.string s) (.int .i64 k)).run Try.prog wx = .ok (.int .u8 (y.toNat : Int)) wx := by
  have hk' : k < s.data.toList.length := by rw [Array.length_toList]; exact hk
  refine ⟨s.data.toList[k], List.getElem?_eq_getElem hk', fun wx => ?_⟩
  rw [run_index_string wx 9 s .i64 k Try.underlying9, dif_pos ⟨by omega, by omega⟩]
  rfl
set_option maxHeartbeats 2000000 in
theorem zzSameBody (s : Sl) (ob : Option (List UInt8)) (e : Ent) (t : Sl) (o : Option (List UInt8)) (w : World) (hn : s.l ≤ 1048576) (hs : BytesAt w s ob) (ht : BytesAt w t o) :
    Calls Try.prog 24 #[.slice s.a s.l s.c, .agg (entCells e t).toArray] w fun r w' => r = .returned (.bool (ob.getD [] == o.getD e.body.data.toList)) ∧ Below w.heap.size w w' := by
  have hk := ht
  rcases ht with ⟨rfl, rfl⟩ | ⟨b, off, sp, l, h1, rfl, h3, h4, h5⟩
  · have hnil := fun wx => run_neq_slice_nil_any (P := Try.prog) wx 43 5 none 0 0 0 0 Try.underlying43
    have ls := hs.len
    have HS := Hid.mk'' hs.get
    clear hs hk
    obtain ⟨sa, sn, sc⟩ := s
    dsimp only [Option.getD_none] at *
    generalize ob.getD [] = l at *
    have LS := Hid.mk'' ls
    have LT : Hid (e.body.data.toList.length = e.body.size) := Hid.mk'' Array.length_toList
    clear ls
    simp only [entCells]
    have hb := below_new w (.cells #[.string e.key, .string e.req, .int .i64 e.aid, .int .i64 e.tid, .int .i64 e.bid, .int .i64 e.delta, .int .i64 e.status, .string e.body, .slice none 0 0, .bool e.replayed, .int .i64 e.tries, .string e.url] 45)
    have hq := newB w #[.string e.key, .string e.req, .int .i64 e.aid, .int .i64 e.tid, .int .i64 e.bid, .int .i64 e.delta, .int .i64 e.status, .string e.body, .slice none 0 0, .bool e.replayed, .int .i64 e.tries, .string e.url] 45
    have HQ7 : Hid ((w.alloc (.cells #[.string e.key, .string e.req, .int .i64 e.aid, .int .i64 e.tid, .int .i64 e.bid, .int .i64 e.delta, .int .i64 e.status, .string e.body, .slice none 0 0, .bool e.replayed, .int .i64 e.tries, .string e.url] 45)).cell? ⟨w.heap.size, 7, none⟩ = some (.string e.body)) := Hid.mk'' (cellB hq 7)
    clear hq
    have HB := Hid.mk'' hb
    clear hb
    go_enter Try.func24, Try.ntmps24
    by_cases hl : sn = e.body.size
    · have hd : ((sn : Int) != (e.body.size : Int)) = false := by rw [hl]; simp
      have HLE := Hid.mk'' hl
      clear hl
      go_wp2
      go_loopw [5] (fun iv wr => ∃ k : Nat, k ≤ sn ∧ iv = .int .i64 k ∧ Hid (∀ j, j < k → l[j]? = e.body.data.toList[j]?) ∧ Below w.heap.size w wr ∧ wr.cell? ⟨w.heap.size, 7, none⟩ = some (.string e.body)) (fun iv _ => sn - (intOf iv).toNat)
      case atStart => exact ⟨0, Nat.zero_le _, rfl, Hid.mk'' (fun j hj => by omega), HB.out, HQ7.out⟩
      case round =>
        obtain ⟨k, hk, rfl, HL, hw, c7⟩ := hrel
        by_cases hlt : k < sn
        · obtain ⟨b, off, rfl, hS⟩ := HS.out (by omega)
          obtain ⟨x, hx, cx⟩ := hS k hlt
          obtain ⟨y, hy, hix⟩ := run_idx e.body k (by have := HLE.out; omega)
          have cx' := keep hw cx
          have hi0 : (0 : Int) ≤ (k : Int) := by omega
          have hi1 : (k : Int) < (sn : Int) := by omega
          have HX := Hid.mk'' hx
          have HY := Hid.mk'' hy
          clear cx hS hx hy
          by_cases ee : x = y
          · subst ee
            have hd := byte_eq x
            go_wp2
            go_region
            all_goals (try go_wp2)
            all_goals
              go_roundw
              case rel =>
                refine ⟨k + 1, by omega, by go_num, Hid.mk'' (fun j hj => ?_), hw.drew, c7⟩
                by_cases ej : j = k
                · rw [ej, HX.out, HY.out]
                · exact HL.out j (by omega)
              case measure => simp [intOf]; omega
          · have hd := byte_ne ee
            have he : (l == e.body.data.toList) = false := by
              rw [beq_eq_false_iff_ne]
              intro h
              subst h
              exact ee (Option.some.inj (HX.out.symm.trans HY.out))
            clear ee
            go_wp2
            go_region
            all_goals (try go_wp2)
            all_goals (go_ret; exact ⟨by first | rfl | (rw [he]; rfl), hw.drew⟩)
        · obtain rfl : k = sn := by omega
          have he : (l == e.body.data.toList) = true := by rw [beq_iff_eq]; exact ext_upto LS.out (LT.out.trans HLE.out.symm) HL.out
          go_wp2
          go_ret
          exact ⟨by first | rfl | (rw [he]; rfl), hw⟩
    · have hd : ((sn : Int) != (e.body.size : Int)) = true := by rw [bne_iff_ne]; omega
      have he : (l == e.body.data.toList) = false := by
        rw [beq_eq_false_iff_ne]
        intro h
        subst h
        exact hl (LS.out.symm.trans LT.out)
      clear hl
      go_wp2
      go_ret
      exact ⟨by first | rfl | (rw [he]; rfl), HB.out⟩
  · have hnil := fun wx => run_neq_slice_nil_any (P := Try.prog) wx 43 5 t.a t.l t.c 0 0 Try.underlying43
    have hnn : t.a.isNone = false := by rw [h1]; rfl
    clear h1 h3 h4 h5
    have HS := Hid.mk'' hs
    have HK := Hid.mk'' hk
    clear hs hk
    simp only [entCells]
    have HB := Hid.mk'' (below_new w (.cells #[.string e.key, .string e.req, .int .i64 e.aid, .int .i64 e.tid, .int .i64 e.bid, .int .i64 e.delta, .int .i64 e.status, .string e.body, .slice t.a t.l t.c, .bool e.replayed, .int .i64 e.tries, .string e.url] 45))
    go_enter Try.func24, Try.ntmps24
    go_wp2_with (first | (go_at_call 29; refine (zzEqBytes s t ob (some l) _ hn (by exact HS.out.keep HB.out) (by exact HK.out.keep HB.out)).mono ?_; rintro r W ⟨rfl, hbW⟩))
    go_ret
    exact ⟨rfl, HB.out.trans (hbW.mono HB.out.size)⟩
end Go.Proofs.Qxb6603057a
