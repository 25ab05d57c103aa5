/-
  'quoted' and 'ZZQuoted': THE CONTRACT: what 'Plain.scan' says of the bytes behind the first; nothing that was there has turned.
-/
import Derived.Test.Qxb6601034aBuilder
import Derived.Test.Qxb6601034aPlain
import Derived.Deep.RegionWith
namespace Go.Proofs.Qxb6601034a
open Go.RowKit
def pre (acc : List UInt8) (p : List UInt8 × List UInt8) : List UInt8 × List UInt8 := (acc ++ p.1, p.2)
def qv (r : Option (List UInt8 × List UInt8)) : ByteArray := ⟨((r.map (·.1)).getD []).toArray⟩
def qr (r : Option (List UInt8 × List UInt8)) : ByteArray := ⟨((r.map (·.2)).getD []).toArray⟩
theorem drop_at (s : ByteArray) (k : Nat) (h : k < s.size) : s.data.toList.drop k = s[k] :: s.data.toList.drop (k + 1) := by
  rw [List.drop_eq_getElem_cons (by simpa using h)]; rfl
theorem drop_end (s : ByteArray) (k : Nat) (h : ¬ k < s.size) : s.data.toList.drop k = [] :=
  List.drop_eq_nil_of_le (by simp; have : s.size = s.data.size := rfl; omega)
theorem pre_pre (acc : List UInt8) (c : UInt8) (r : Option (List UInt8 × List UInt8)) : (r.map fun p => (c :: p.1, p.2)).map (pre acc) = r.map (pre (acc ++ [c])) := by
  cases r <;> simp [pre]
theorem step_end {s : ByteArray} {q : UInt8} {k : Nat} {acc : List UInt8} {R : Option (List UInt8 × List UInt8)} (h : R = (Plain.scan q (s.data.toList.drop k)).map (pre acc)) (hk : ¬ k < s.size) : R = none := by
  rw [h, drop_end s k hk]; rfl
theorem step_quote {s : ByteArray} {q : UInt8} {k : Nat} {acc : List UInt8} {R : Option (List UInt8 × List UInt8)} (h : R = (Plain.scan q (s.data.toList.drop k)).map (pre acc)) (hk : k < s.size) (hq : s[k] = q) : R = some (acc, s.data.toList.drop (k + 1)) := by
  rw [h, drop_at s k hk, hq, Plain.scan_quote]; simp [pre]
theorem step_esc {s : ByteArray} {q : UInt8} {k : Nat} {acc : List UInt8} {R : Option (List UInt8 × List UInt8)} (h : R = (Plain.scan q (s.data.toList.drop k)).map (pre acc)) (hk : k + 1 < s.size) (hq : q = 34) (hc : s[k] = 92) (hd : s[k + 1] = 34 ∨ s[k + 1] = 92) :
    R = (Plain.scan q (s.data.toList.drop (k + 2))).map (pre (acc ++ [s[k + 1]])) := by
  rw [h, drop_at s k (by omega), drop_at s (k + 1) hk, hc, Plain.scan_esc q _ _ hq hd, pre_pre]
theorem step_plain {s : ByteArray} {q : UInt8} {k : Nat} {acc : List UInt8} {R : Option (List UInt8 × List UInt8)} (h : R = (Plain.scan q (s.data.toList.drop k)).map (pre acc)) (hk : k < s.size) (hq : s[k] ≠ q) (hn : q = 34 → s[k] = 92 → ∀ h1 : k + 1 < s.size, s[k + 1] ≠ 34 ∧ s[k + 1] ≠ 92) :
    R = (Plain.scan q (s.data.toList.drop (k + 1))).map (pre (acc ++ [s[k]])) := by
  rw [h, drop_at s k hk, Plain.scan_plain q _ _ hq ?_, pre_pre]
  rintro ⟨h34, h92, hh⟩
  by_cases h1 : k + 1 < s.size
  · rw [drop_at s (k + 1) h1] at hh
    simp only [List.head?_cons, Option.some.injEq] at hh
    have := hn h34 h92 h1
    rcases hh with hh | hh
    · exact this.1 hh
    · exact this.2 hh
  · rw [drop_end s (k + 1) h1] at hh
    simp at hh
theorem extract_end (s : ByteArray) (a : Nat) : s.extract a s.size = ⟨(s.data.toList.drop a).toArray⟩ := by
  apply ByteArray.ext
  apply Array.ext'
  rw [ByteArray.data_extract]
  rw [show s.size = s.data.size from rfl, Array.toList_extract, List.extract_eq_take_drop]
  exact List.take_of_length_le (by simp)
theorem byte_ne {a b : UInt8} (h : a ≠ b) : ((a.toNat : Int) == (b.toNat : Int)) = false := by
  rw [beq_eq_false_iff_ne]; intro e; exact h (UInt8.toNat_inj.1 (by omega))
theorem byte_eq {a b : UInt8} (h : a = b) : ((a.toNat : Int) == (b.toNat : Int)) = true := by simp [h]
theorem byte_ne' {a : UInt8} {n : Nat} (h : a ≠ UInt8.ofNat n) (hn : n < 256) : ((a.toNat : Int) == (n : Int)) = false := by
  rw [beq_eq_false_iff_ne]; intro e; apply h; apply UInt8.toNat_inj.1; simp; omega

theorem wrap_id {x : Int} (h0 : 0 ≤ x) (h1 : x ≤ 9223372036854775807) : IntKind.i64.wrap x = x := by
  rw [IntKind.wrap_i64]; omega
set_option maxHeartbeats 2000000 in
set_option maxRecDepth 100000 in
theorem quoted (s : ByteArray) (h0 : 0 < s.size) (hs : s.size ≤ 4294967296) (R : Option (List UInt8 × List UInt8)) (hR : Hid (R = Plain.scan s[0] (s.data.toList.drop 1))) (w : World) :
    Calls Try.prog 20 #[.string s] w fun e w' => e = .returned (.tuple #[.string (qv R), .string (qr R), .bool R.isSome]) ∧ Below w.heap.size w w' := by
  go_enter Try.func20, Try.ntmps20
  go_wp2
  go_loopw [7] (fun i wr => ∃ (k : Nat) (acc : List UInt8), 1 ≤ k ∧ k ≤ s.size ∧ i = .int .i64 k ∧ acc.length ≤ k ∧ Lib.IsBuilder 51 5 w.heap.size w.heap.size (Lib.byteCells acc) wr ∧ Below w.heap.size w wr ∧
      Hid (R = (Plain.scan s[0] (s.data.toList.drop k)).map (pre acc))) (fun i _ => s.size - (intOf i).toNat)
  case atStart =>
    refine ⟨1, [], Nat.le_refl _, h0, rfl, by simp, Lib.fresh_isBuilder 51 5 w, (Below.refl _ _).alloc (Nat.le_refl _) _, ?_⟩
    show R = _
    rw [hR.out]
    cases Plain.scan s[0] (s.data.toList.drop 1) <;> rfl
  case round =>
    obtain ⟨k, acc, hk1, hk, rfl, hal, hI, hbw, HS⟩ := hrel
    have hsz := hbw.size
    by_cases hlt : k < s.size
    · by_cases hq : s[k] = s[0]
      · have hq' := byte_eq hq
        have HF : Hid (R = some (acc, s.data.toList.drop (k + 1))) := step_quote HS.out hlt hq
        have hId : Lib.IsBuilder 51 5 w.heap.size w.heap.size (Lib.byteCells acc) wr.drew := hI.imp (fun h => h.drew) (fun h => h.drew)
        have hlt1 : (k : Int) + 1 ≤ (s.size : Int) := by omega
        have hwr : IntKind.i64.wrap ((k : Int) + 1) = (k : Int) + 1 := wrap_id (by omega) (by omega)
        have hlt2 : k + 1 ≤ s.size := by omega
        clear hq HS
        go_wp2_with fail
        go_region_with (go_at_call 24; refine (builderString w.heap.size w.heap.size acc _ (by exact hId) (by simp; omega)).mono ?_; rintro e W1 ⟨rfl, b1⟩)
        all_goals (try go_wp2)
        all_goals
          go_ret3
          rw [HF.out]
          refine ⟨?_, hbw.drew.trans b1⟩
          rw [extract_end]
          rfl
      · have hq' := byte_ne hq
        have hwr : IntKind.i64.wrap ((k : Int) + 1) = (k : Int) + 1 := wrap_id (by omega) (by omega)
        by_cases h34 : s[0] = 34
        · have h34' : ((s[0].toNat : Int) == 34) = true := by simp [h34]
          by_cases h92 : s[k] = 92
          · have h92' : ((s[k].toNat : Int) == 92) = true := by simp [h92]
            by_cases h1 : k + 1 < s.size
            · have h1' : decide ((k : Int) + 1 < (s.size : Int)) = true := by simp; omega
              by_cases hd : s[k + 1] = 34 ∨ s[k + 1] = 92
              · have HF : Hid (R = (Plain.scan s[0] (s.data.toList.drop (k + 2))).map (pre (acc ++ [s[k + 1]]))) := step_esc HS.out h1 h34 h92 hd
                by_cases hd1 : s[k + 1] = 34
                · have hd1' : ((s[k + 1].toNat : Int) == 34) = true := by simp [hd1]
                  clear HS h34 h92 hd hd1 hq
                  go_wp2_with (go_at_call 25; refine (writeByte w.heap.size w.heap.size _ _ _ hI (by rw [Lib.byteCells_length]; omega) (by omega)).mono ?_; rintro e W1 ⟨rfl, hI1, b1⟩)
                  go_roundw
                  case rel => exact ⟨k + 2, acc ++ [s[k + 1]], by omega, by omega, by go_num, by simp; omega, by rw [Lib.byteCells_append]; exact hI1, hbw.trans b1, HF⟩
                  case measure => simp [intOf]; omega
                · have hd1' : ((s[k + 1].toNat : Int) == 34) = false := byte_ne' (n := 34) hd1 (by omega)
                  have hd2 : s[k + 1] = 92 := hd.resolve_left hd1
                  have hd2' : ((s[k + 1].toNat : Int) == 92) = true := by simp [hd2]
                  clear HS h34 h92 hd hd1 hd2 hq
                  go_wp2_with (go_at_call 25; refine (writeByte w.heap.size w.heap.size _ _ _ hI (by rw [Lib.byteCells_length]; omega) (by omega)).mono ?_; rintro e W1 ⟨rfl, hI1, b1⟩)
                  go_roundw
                  case rel => exact ⟨k + 2, acc ++ [s[k + 1]], by omega, by omega, by go_num, by simp; omega, by rw [Lib.byteCells_append]; exact hI1, hbw.trans b1, HF⟩
                  case measure => simp [intOf]; omega
              · have hd1' : ((s[k + 1].toNat : Int) == 34) = false := byte_ne' (n := 34) (fun h => hd (Or.inl h)) (by omega)
                have hd2' : ((s[k + 1].toNat : Int) == 92) = false := byte_ne' (n := 92) (fun h => hd (Or.inr h)) (by omega)
                have HF : Hid (R = (Plain.scan s[0] (s.data.toList.drop (k + 1))).map (pre (acc ++ [s[k]]))) := step_plain HS.out hlt hq (fun _ _ _ => ⟨fun h => hd (Or.inl h), fun h => hd (Or.inr h)⟩)
                clear HS h34 h92 hd hq
                go_wp2_with (go_at_call 25; refine (writeByte w.heap.size w.heap.size _ _ _ hI (by rw [Lib.byteCells_length]; omega) (by omega)).mono ?_; rintro e W1 ⟨rfl, hI1, b1⟩)
                go_roundw
                case rel => exact ⟨k + 1, acc ++ [s[k]], by omega, by omega, by go_num, by simp; omega, by rw [Lib.byteCells_append]; exact hI1, hbw.trans b1, HF⟩
                case measure => simp [intOf]; omega
            · have h1' : decide ((k : Int) + 1 < (s.size : Int)) = false := by simp; omega
              have HF : Hid (R = (Plain.scan s[0] (s.data.toList.drop (k + 1))).map (pre (acc ++ [s[k]]))) := step_plain HS.out hlt hq (fun _ _ h => absurd h h1)
              clear HS h34 h92 hq
              go_wp2_with (go_at_call 25; refine (writeByte w.heap.size w.heap.size _ _ _ hI (by rw [Lib.byteCells_length]; omega) (by omega)).mono ?_; rintro e W1 ⟨rfl, hI1, b1⟩)
              go_roundw
              case rel => exact ⟨k + 1, acc ++ [s[k]], by omega, by omega, by go_num, by simp; omega, by rw [Lib.byteCells_append]; exact hI1, hbw.trans b1, HF⟩
              case measure => simp [intOf]; omega
          · have h92' : ((s[k].toNat : Int) == 92) = false := byte_ne' (n := 92) h92 (by omega)
            have HF : Hid (R = (Plain.scan s[0] (s.data.toList.drop (k + 1))).map (pre (acc ++ [s[k]]))) := step_plain HS.out hlt hq (fun _ h => absurd h h92)
            clear HS h34 h92 hq
            go_wp2_with (go_at_call 25; refine (writeByte w.heap.size w.heap.size _ _ _ hI (by rw [Lib.byteCells_length]; omega) (by omega)).mono ?_; rintro e W1 ⟨rfl, hI1, b1⟩)
            go_roundw
            case rel => exact ⟨k + 1, acc ++ [s[k]], by omega, by omega, by go_num, by simp; omega, by rw [Lib.byteCells_append]; exact hI1, hbw.trans b1, HF⟩
            case measure => simp [intOf]; omega
        · have h34' : ((s[0].toNat : Int) == 34) = false := byte_ne' (n := 34) h34 (by omega)
          have HF : Hid (R = (Plain.scan s[0] (s.data.toList.drop (k + 1))).map (pre (acc ++ [s[k]]))) := step_plain HS.out hlt hq (fun h => absurd h h34)
          clear HS h34 hq
          go_wp2_with (go_at_call 25; refine (writeByte w.heap.size w.heap.size _ _ _ hI (by rw [Lib.byteCells_length]; omega) (by omega)).mono ?_; rintro e W1 ⟨rfl, hI1, b1⟩)
          go_roundw
          case rel => exact ⟨k + 1, acc ++ [s[k]], by omega, by omega, by go_num, by simp; omega, by rw [Lib.byteCells_append]; exact hI1, hbw.trans b1, HF⟩
          case measure => simp [intOf]; omega
    · have HF : Hid (R = none) := step_end HS.out hlt
      clear HS
      go_wp2
      go_ret3
      rw [HF.out]
      exact ⟨rfl, hbw⟩

/-- ZZQuoted hands on what quoted answers. -/
theorem zzQuoted (s : ByteArray) (h0 : 0 < s.size) (hs : s.size ≤ 4294967296) (R : Option (List UInt8 × List UInt8)) (hR : Hid (R = Plain.scan s[0] (s.data.toList.drop 1))) (w : World) :
    Calls Try.prog 16 #[.string s] w fun e w' => e = .returned (.tuple #[.string (qv R), .string (qr R), .bool R.isSome]) ∧ Below w.heap.size w w' := by
  go_enter Try.func16, Try.ntmps16
  go_wp2_with (go_at_call 20; refine (quoted s h0 hs R hR _).mono ?_; rintro e W1 ⟨rfl, b1⟩)
  go_ret3
  exact ⟨rfl, b1⟩
end Go.Proofs.Qxb6601034a
