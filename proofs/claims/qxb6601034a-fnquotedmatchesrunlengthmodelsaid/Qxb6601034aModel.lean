/-
  zzDecodeRuns, zzQuotedModel AND THE WALK OF FnQuotedMatchesRunLengthModel: it returns true; nothing that was there has turned.
-/
import Derived.Test.Qxb6601034aBytes
import Derived.RegionTactic
import Derived.Deep.RegionWith
namespace Go.Proofs.Qxb6601034a
open Go.RowKit

theorem dec_plain (c : UInt8) (r : List UInt8) (h : c ≠ 92) : Plain.dec 0 (c :: r) = c :: Plain.dec 0 r := by simp [Plain.dec, h]
theorem d_plain {s : ByteArray} {i : Nat} {acc D : List UInt8} (h : D = acc ++ Plain.dec 0 (s.data.toList.drop i)) (hi : i < s.size) (hc : s[i] ≠ 92) : D = (acc ++ [s[i]]) ++ Plain.dec 0 (s.data.toList.drop (i + 1)) := by
  rw [h, drop_at s i hi, dec_plain _ _ hc]; simp
theorem d_more {s : ByteArray} {j k : Nat} {acc D : List UInt8} (h : D = acc ++ Plain.dec k (s.data.toList.drop j)) (hj : j < s.size) (hc : s[j] = 92) : D = acc ++ Plain.dec (k + 1) (s.data.toList.drop (j + 1)) := by
  rw [h, drop_at s j hj, Plain.dec, if_pos hc]
theorem d_quote {s : ByteArray} {j k m : Nat} {acc D : List UInt8} (h : D = acc ++ Plain.dec k (s.data.toList.drop j)) (hj : j < s.size) (hk : 0 < k) (hc : s[j] = 34) (hm : m = (k - 1) / 2) :
    D = (acc ++ List.replicate m 92 ++ [34]) ++ Plain.dec 0 (s.data.toList.drop (j + 1)) := by
  rw [h, drop_at s j hj, Plain.dec, if_neg (by rw [hc]; decide), if_pos ⟨hk, hc⟩, hm]; simp
theorem d_other {s : ByteArray} {j k m : Nat} {acc D : List UInt8} (h : D = acc ++ Plain.dec k (s.data.toList.drop j)) (hj : j < s.size) (hc : s[j] ≠ 34) (hc2 : s[j] ≠ 92) (hm : m = (k + 1) / 2) :
    D = (acc ++ List.replicate m 92) ++ Plain.dec 0 (s.data.toList.drop j) := by
  rw [h, drop_at s j hj, dec_plain _ _ hc2, Plain.dec, if_neg hc2, if_neg (fun x => hc x.2), hm]; simp
theorem d_end {s : ByteArray} {j k m : Nat} {acc D : List UInt8} (h : D = acc ++ Plain.dec k (s.data.toList.drop j)) (hj : ¬ j < s.size) (hm : m = (k + 1) / 2) :
    D = (acc ++ List.replicate m 92) ++ Plain.dec 0 (s.data.toList.drop j) := by
  rw [h, drop_end s j hj, hm]; simp [Plain.dec]
theorem d_done {s : ByteArray} {i : Nat} {acc D : List UInt8} (h : D = acc ++ Plain.dec 0 (s.data.toList.drop i)) (hi : ¬ i < s.size) : D = acc := by
  rw [h, drop_end s i hi]; simp [Plain.dec]
theorem rep_snoc (acc : List UInt8) (n : Nat) : acc ++ List.replicate (n + 1) 92 = acc ++ List.replicate n (92 : UInt8) ++ [92] := by simp [List.replicate_succ']

set_option maxHeartbeats 4000000 in
set_option maxRecDepth 100000 in
/-- zzDecodeRuns: what 'Plain.dec' says. -/
theorem decodeRuns (s : ByteArray) (hs : s.size ≤ 4294967296) (D : List UInt8) (hD : Hid (D = Plain.dec 0 s.data.toList)) (w : World) :
    Calls Try.prog 21 #[.string s] w fun e w' => e = .returned (.string ⟨D.toArray⟩) ∧ Below w.heap.size w w' := by
  go_enter Try.func21, Try.ntmps21
  go_wp2_with (at_make; refine make0 w rfl _ _ rfl _ s.size rfl rfl rfl (by omega) ?_; intro v1 w1 hown1 hb1)
  go_loopw [3, 4] (fun bv iv wr => ∃ (i : Nat) (acc : List UInt8), i ≤ s.size ∧ iv = .int .i64 i ∧ acc.length ≤ i ∧ wr.ownsRow w.heap.size 5 1 bv acc.length (Lib.byteCells acc) ∧ Below w.heap.size w wr ∧ Hid (D = acc ++ Plain.dec 0 (s.data.toList.drop i))) (fun _ iv _ => s.size - (intOf iv).toNat)
  case atStart => exact ⟨0, [], Nat.zero_le _, rfl, Nat.le_refl _, hown1, hb1, hD⟩
  case round =>
    obtain ⟨i, acc, hi, rfl, hal, hown, hbw, HD⟩ := hrel
    by_cases hlt : i < s.size
    · by_cases hc : s[i] = 92
      · have hc' : ((s[i].toNat : Int) != 92) = false := by simp [hc]
        go_wp2
        go_loop [4, 5] (fun iv kv => ∃ j k : Nat, i ≤ j ∧ j ≤ s.size ∧ iv = .int .i64 j ∧ kv = .int .i64 k ∧ k ≤ j ∧ Hid (k = j - i) ∧ Hid (D = acc ++ Plain.dec k (s.data.toList.drop j))) (fun iv _ => s.size - (intOf iv).toNat)
        case atStart => exact ⟨i, 0, Nat.le_refl _, hi, rfl, rfl, Nat.zero_le _, Nat.sub_self i ▸ rfl, HD⟩
        case round =>
          obtain ⟨j, k, hij, hj, rfl, rfl, hkb, HKJ, HK⟩ := hrel
          by_cases hjlt : j < s.size
          · by_cases hcj : s[j] = 92
            · have hcj' : ((s[j].toNat : Int) == 92) = true := by simp [hcj]
              have HK2 : Hid (D = acc ++ Plain.dec (k + 1) (s.data.toList.drop (j + 1))) := d_more HK.out hjlt hcj
              have HKJ2 : Hid (k + 1 = j + 1 - i) := show k + 1 = j + 1 - i by have := HKJ.out; omega
              clear HK hcj hc
              go_wp2
              go_round
              case rel => exact ⟨j + 1, k + 1, by omega, by omega, by go_num, by go_num, by omega, HKJ2, HK2⟩
              case measure => simp [intOf]; omega
            · have hk0 : 0 < k := by
                have := HKJ.out
                rcases Nat.lt_or_ge i j with h | h
                · omega
                · exact absurd (by have e : j = i := by omega
                                   subst e; exact hc) hcj
              have hkj : k + i ≤ j := by have := HKJ.out; omega
              have hcj' : ((s[j].toNat : Int) == 92) = false := byte_ne' (n := 92) hcj (by omega)
              by_cases hq : s[j] = 34
              · have hq' : ((s[j].toNat : Int) == 34) = true := by simp [hq]
                obtain ⟨m, HM⟩ : ∃ m, Hid (m = (k - 1) / 2) := ⟨_, rfl⟩
                have HN : Hid (D = (acc ++ List.replicate m 92 ++ [34]) ++ Plain.dec 0 (s.data.toList.drop (j + 1))) := d_quote HK.out hjlt hk0 hq HM.out
                have hmb : 2 * m + 1 ≤ k := by have := HM.out; omega
                have hme : ((k : Int) - 1) / 2 = (m : Int) := by have := HM.out; omega
                clear HK HKJ hcj hq hc HM
                go_wp2
                go_loopw [3, 8] (fun bv nv wn => ∃ n : Nat, n ≤ m ∧ nv = .int .i64 n ∧ wn.ownsRow w.heap.size 5 1 bv (acc ++ List.replicate n 92).length (Lib.byteCells (acc ++ List.replicate n 92)) ∧ Below w.heap.size w wn) (fun _ nv _ => m - (intOf nv).toNat)
                case atStart => exact ⟨0, Nat.zero_le _, rfl, by simpa using hown, hbw⟩
                case round =>
                  obtain ⟨n, hn, rfl, hown3, hb3⟩ := hrel
                  by_cases hnm : n < m
                  · have HR : Hid (acc ++ List.replicate (n + 1) 92 = acc ++ List.replicate n (92 : UInt8) ++ [92]) := rep_snoc acc n
                    have hln : (acc ++ List.replicate n (92 : UInt8)).length + 1 ≤ 140737488355328 := by simp; omega
                    go_wp2_with (at_builtin; refine app1 w _ rfl (.tmp 64) (.tmp 65) rfl _ _ 92 _ (by decide) rfl hown3 hb3 rfl hln ?_; intro v5 w5 hown5 hb5)
                    go_roundw
                    case rel => exact ⟨n + 1, by omega, by go_num, by rw [HR.out]; exact hown5, hb5⟩
                    case measure => simp [intOf]; omega
                  · have hnm2 : n = m := by omega
                    rw [hnm2] at hown3
                    have hmm : decide ((n : Int) < (m : Int)) = false := by simp; omega
                    clear hnm2
                    have hl34 : (acc ++ List.replicate m 92).length + 1 ≤ 140737488355328 := by simp; omega
                    go_wp2_with (at_builtin; refine app1 w _ rfl (.tmp 68) (.tmp 69) rfl _ _ 34 _ (by decide) rfl hown3 hb3 rfl hl34 ?_; intro v5 w5 hown5 hb5)
                    go_roundw
                    case rel => exact ⟨j + 1, acc ++ List.replicate m 92 ++ [34], by omega, by go_num, by simp; omega, hown5, hb5, HN⟩
                    case measure => simp [intOf]; omega
              · have hq' : ((s[j].toNat : Int) == 34) = false := byte_ne' (n := 34) hq (by omega)
                obtain ⟨m, HM⟩ : ∃ m, Hid (m = (k + 1) / 2) := ⟨_, rfl⟩
                have HN : Hid (D = (acc ++ List.replicate m 92) ++ Plain.dec 0 (s.data.toList.drop j)) := d_other HK.out hjlt hq hcj HM.out
                have hmb : m ≤ k := by have := HM.out; omega
                have hme : ((k : Int) + 1) / 2 = (m : Int) := by have := HM.out; omega
                clear HK HKJ hcj hq hc HM
                go_wp2
                go_loopw [3, 8] (fun bv nv wn => ∃ n : Nat, n ≤ m ∧ nv = .int .i64 n ∧ wn.ownsRow w.heap.size 5 1 bv (acc ++ List.replicate n 92).length (Lib.byteCells (acc ++ List.replicate n 92)) ∧ Below w.heap.size w wn) (fun _ nv _ => m - (intOf nv).toNat)
                case atStart => exact ⟨0, Nat.zero_le _, rfl, by simpa using hown, hbw⟩
                case round =>
                  obtain ⟨n, hn, rfl, hown3, hb3⟩ := hrel
                  by_cases hnm : n < m
                  · have HR : Hid (acc ++ List.replicate (n + 1) 92 = acc ++ List.replicate n (92 : UInt8) ++ [92]) := rep_snoc acc n
                    have hln : (acc ++ List.replicate n (92 : UInt8)).length + 1 ≤ 140737488355328 := by simp; omega
                    go_wp2_with (at_builtin; refine app1 w _ rfl (.tmp 64) (.tmp 65) rfl _ _ 92 _ (by decide) rfl hown3 hb3 rfl hln ?_; intro v5 w5 hown5 hb5)
                    go_roundw
                    case rel => exact ⟨n + 1, by omega, by go_num, by rw [HR.out]; exact hown5, hb5⟩
                    case measure => simp [intOf]; omega
                  · have hnm2 : n = m := by omega
                    rw [hnm2] at hown3
                    have hmm : decide ((n : Int) < (m : Int)) = false := by simp; omega
                    clear hnm2
                    go_wp2
                    go_roundw
                    case rel => exact ⟨j, acc ++ List.replicate m 92, by omega, rfl, by simp; omega, hown3, hb3, HN⟩
                    case measure => simp [intOf]; omega
          · have hjd : decide ((j : Int) < (s.size : Int)) = false := by simp; omega
            have hkj : k + i ≤ j := by have := HKJ.out; omega
            obtain ⟨m, HM⟩ : ∃ m, Hid (m = (k + 1) / 2) := ⟨_, rfl⟩
            have HN : Hid (D = (acc ++ List.replicate m 92) ++ Plain.dec 0 (s.data.toList.drop j)) := d_end HK.out hjlt HM.out
            have hk0 : 0 < k := by have := HKJ.out; omega
            have hmb : m ≤ k := by have := HM.out; omega
            have hme : ((k : Int) + 1) / 2 = (m : Int) := by have := HM.out; omega
            clear HK HKJ hc HM
            go_wp2
            go_loopw [3, 8] (fun bv nv wn => ∃ n : Nat, n ≤ m ∧ nv = .int .i64 n ∧ wn.ownsRow w.heap.size 5 1 bv (acc ++ List.replicate n 92).length (Lib.byteCells (acc ++ List.replicate n 92)) ∧ Below w.heap.size w wn) (fun _ nv _ => m - (intOf nv).toNat)
            case atStart => exact ⟨0, Nat.zero_le _, rfl, by simpa using hown, hbw⟩
            case round =>
              obtain ⟨n, hn, rfl, hown3, hb3⟩ := hrel
              by_cases hnm : n < m
              · have HR : Hid (acc ++ List.replicate (n + 1) 92 = acc ++ List.replicate n (92 : UInt8) ++ [92]) := rep_snoc acc n
                have hln : (acc ++ List.replicate n (92 : UInt8)).length + 1 ≤ 140737488355328 := by simp; omega
                go_wp2_with (at_builtin; refine app1 w _ rfl (.tmp 64) (.tmp 65) rfl _ _ 92 _ (by decide) rfl hown3 hb3 rfl hln ?_; intro v5 w5 hown5 hb5)
                go_roundw
                case rel => exact ⟨n + 1, by omega, by go_num, by rw [HR.out]; exact hown5, hb5⟩
                case measure => simp [intOf]; omega
              · have hnm2 : n = m := by omega
                rw [hnm2] at hown3
                have hmm : decide ((n : Int) < (m : Int)) = false := by simp; omega
                clear hnm2
                go_wp2
                go_roundw
                case rel => exact ⟨j, acc ++ List.replicate m 92, by omega, rfl, by simp; omega, hown3, hb3, HN⟩
                case measure => simp [intOf]; omega
      · have hc' : ((s[i].toNat : Int) != 92) = true := by have := byte_ne' (n := 92) hc (by omega); rw [bne, show ((92 : Nat) : Int) = 92 from rfl] at *; simp [this]
        have HD' : Hid (D = (acc ++ [s[i]]) ++ Plain.dec 0 (s.data.toList.drop (i + 1))) := d_plain HD.out hlt hc
        clear HD hc
        go_wp2_with (at_builtin; refine app1 w wr rfl (.tmp 20) (.tmp 24) rfl _ _ s[i] _ rfl rfl hown hbw rfl (by omega) ?_; intro v4 w4 hown4 hb4)
        go_roundw
        case rel => exact ⟨i + 1, acc ++ [s[i]], by omega, by go_num, by simp; omega, hown4, hb4, HD'⟩
        case measure => simp [intOf]; omega
    · have HF : Hid (D = acc) := d_done HD.out hlt
      have hcv := conv_own hown
      clear HD
      go_wp2
      go_ret
      rw [HF.out]
      exact ⟨rfl, hbw⟩

theorem extract_mid (s : ByteArray) (k : Nat) : s.extract 1 k = ⟨((s.data.toList.drop 1).take (k - 1)).toArray⟩ := by
  apply ByteArray.ext
  apply Array.ext'
  rw [ByteArray.data_extract, Array.toList_extract, List.extract_eq_take_drop]
theorem r_first {s : ByteArray} {q : UInt8} {R : Option (List UInt8 × List UInt8)} {k : Nat} (h : R = Plain.scan q (s.data.toList.drop 1)) (hq : q ≠ 34) (hk1 : 1 ≤ k) (hk : k < s.size) (hn : ∀ (i : Nat) (h : i < s.size), 1 ≤ i → i < k → s[i] ≠ q) (hc : s[k] = q) :
    R = some ((s.data.toList.drop 1).take (k - 1), s.data.toList.drop (k + 1)) := by
  rw [h, Plain.scan_first q hq _ (k - 1) ?_ ?_]
  · rw [List.drop_drop]; congr 3; omega
  · intro i hi e
    rw [List.getElem?_drop] at e
    obtain ⟨hlt, e2⟩ := List.getElem?_eq_some_iff.1 e
    exact hn (1 + i) (by simpa using hlt) (by omega) (by omega) e2
  · rw [List.getElem?_drop, show 1 + (k - 1) = k by omega]
    exact List.getElem?_eq_some_iff.2 ⟨by simpa using hk, hc⟩
theorem r_never {s : ByteArray} {q : UInt8} {R : Option (List UInt8 × List UInt8)} {k : Nat} (h : R = Plain.scan q (s.data.toList.drop 1)) (hq : q ≠ 34) (hk : ¬ k < s.size) (hn : ∀ (i : Nat) (h : i < s.size), 1 ≤ i → i < k → s[i] ≠ q) : R = none := by
  rw [h, Plain.scan_never q hq]
  intro i e
  rw [List.getElem?_drop] at e
  obtain ⟨hlt, e2⟩ := List.getElem?_eq_some_iff.1 e
  have hl : 1 + i < s.size := by simpa using hlt
  exact hn (1 + i) hl (by omega) (by omega) e2
/-- The answer where the closing double quote stands at place t behind the first byte. -/
def F (l : List UInt8) (t : Nat) : List UInt8 × List UInt8 := (Plain.dec 0 ((l.drop 1).take t), l.drop (t + 2))
theorem f_start {s : ByteArray} {R : Option (List UInt8 × List UInt8)} (h : R = Plain.scan 34 (s.data.toList.drop 1)) : R = (Plain.close 0 (s.data.toList.drop 1)).map fun t => F s.data.toList (t + 0) := by
  have := Plain.scan_runs (s.data.toList.drop 1) 0
  simp only [List.replicate_zero, List.nil_append] at this
  rw [h, this]
  congr 1
  funext t
  simp only [F, List.drop_drop, Nat.add_zero]
  congr 2
  omega
theorem f_slash {s : ByteArray} {R : Option (List UInt8 × List UInt8)} {j run : Nat} (h : R = (Plain.close run (s.data.toList.drop j)).map fun t => F s.data.toList (t + (j - 1))) (h1 : 1 ≤ j) (hj : j < s.size) (hc : s[j] = 92) :
    R = (Plain.close (run + 1) (s.data.toList.drop (j + 1))).map fun t => F s.data.toList (t + (j + 1 - 1)) := by
  rw [h, drop_at s j hj, Plain.close, if_pos hc, Option.map_map]
  congr 1
  funext t
  show F _ (t + 1 + (j - 1)) = _
  rw [show t + 1 + (j - 1) = t + (j + 1 - 1) by omega]
theorem f_other {s : ByteArray} {R : Option (List UInt8 × List UInt8)} {j run : Nat} (h : R = (Plain.close run (s.data.toList.drop j)).map fun t => F s.data.toList (t + (j - 1))) (h1 : 1 ≤ j) (hj : j < s.size) (hc : s[j] ≠ 92) (hn : ¬ (s[j] = 34 ∧ run % 2 = 0)) :
    R = (Plain.close 0 (s.data.toList.drop (j + 1))).map fun t => F s.data.toList (t + (j + 1 - 1)) := by
  rw [h, drop_at s j hj, Plain.close, if_neg hc, if_neg hn, Option.map_map]
  congr 1
  funext t
  show F _ (t + 1 + (j - 1)) = _
  rw [show t + 1 + (j - 1) = t + (j + 1 - 1) by omega]
theorem f_close {s : ByteArray} {R : Option (List UInt8 × List UInt8)} {j run : Nat} (h : R = (Plain.close run (s.data.toList.drop j)).map fun t => F s.data.toList (t + (j - 1))) (h1 : 1 ≤ j) (hj : j < s.size) (hc : s[j] = 34) (hn : run % 2 = 0) :
    R = some (Plain.dec 0 ((s.data.toList.drop 1).take (j - 1)), s.data.toList.drop (j + 1)) := by
  rw [h, drop_at s j hj, Plain.close, if_neg (by rw [hc]; decide), if_pos ⟨hc, hn⟩]
  simp only [Option.map_some, F, Nat.zero_add]
  rw [show j - 1 + 2 = j + 1 by omega]
theorem f_end {s : ByteArray} {R : Option (List UInt8 × List UInt8)} {j run : Nat} (h : R = (Plain.close run (s.data.toList.drop j)).map fun t => F s.data.toList (t + (j - 1))) (hj : ¬ j < s.size) : R = none := by
  rw [h, drop_end s j hj]; rfl
theorem mid_size (s : ByteArray) (k : Nat) : (s.extract 1 k).size ≤ s.size := by
  rw [ByteArray.size_extract]; omega

set_option maxHeartbeats 2000000 in
set_option maxRecDepth 100000 in
/-- zzQuotedModel where the first byte is no double quote. -/
theorem modelOther (s : ByteArray) (h0 : 0 < s.size) (hs : s.size ≤ 4294967296) (hq : s[0] ≠ 34) (R : Option (List UInt8 × List UInt8)) (hR : Hid (R = Plain.scan s[0] (s.data.toList.drop 1))) (w : World) :
    Calls Try.prog 17 #[.string s] w fun e w' => e = .returned (.tuple #[.string (qv R), .string (qr R), .bool R.isSome]) ∧ Below w.heap.size w w' := by
  have hq' : ((s[0].toNat : Int) != 34) = true := by have := byte_ne' (n := 34) hq (by omega); rw [bne, show ((34 : Nat) : Int) = 34 from rfl] at *; simp [this]
  have HQ : Hid (s[0] ≠ 34) := hq
  clear hq
  go_enter Try.func17, Try.ntmps17
  go_wp2
  go_loop [6] (fun jv => ∃ k : Nat, 1 ≤ k ∧ k ≤ s.size ∧ jv = .int .i64 k ∧ Hid (∀ (i : Nat) (h : i < s.size), 1 ≤ i → i < k → s[i] ≠ s[0])) (fun jv => s.size - (intOf jv).toNat)
  case atStart => exact ⟨1, Nat.le_refl _, h0, rfl, show ∀ (i : Nat) (h : i < s.size), 1 ≤ i → i < 1 → s[i] ≠ s[0] from fun i _ h1 h2 => by omega⟩
  case round =>
    obtain ⟨k, hk1, hk, rfl, HN⟩ := hrel
    by_cases hlt : k < s.size
    · by_cases hc : s[k] = s[0]
      · have hc' := byte_eq hc
        have HF : Hid (R = some ((s.data.toList.drop 1).take (k - 1), s.data.toList.drop (k + 1))) := r_first hR.out HQ.out hk1 hlt HN.out hc
        have hwr : IntKind.i64.wrap ((k : Int) + 1) = (k : Int) + 1 := wrap_id (by omega) (by omega)
        have hlt1 : (k : Int) + 1 ≤ (s.size : Int) := by omega
        have hlt2 : (1 : Int) ≤ (k : Int) := by omega
        have hlt3 : (k : Int) ≤ (s.size : Int) := by omega
        clear hc
        go_wp2
        go_region
        all_goals (try go_wp2)
        all_goals
          go_ret3
          rw [HF.out]
          refine ⟨?_, (Below.refl _ _).drew⟩
          rw [extract_end, extract_mid]
          rfl
      · have hc' := byte_ne hc
        have HN2 : Hid (∀ (i : Nat) (h : i < s.size), 1 ≤ i → i < k + 1 → s[i] ≠ s[0]) := show ∀ (i : Nat) (h : i < s.size), 1 ≤ i → i < k + 1 → s[i] ≠ s[0] from fun i h h1 h2 => by
          rcases Nat.lt_or_ge i k with h3 | h3
          · exact HN.out i h h1 h3
          · obtain rfl : i = k := by omega
            exact hc
        clear hc HN
        go_wp2
        go_round
        case rel => exact ⟨k + 1, by omega, by omega, by go_num, HN2⟩
        case measure => simp [intOf]; omega
    · have HF : Hid (R = none) := r_never hR.out HQ.out hlt HN.out
      go_wp2
      go_ret3
      rw [HF.out]
      exact ⟨rfl, Below.refl _ _⟩

set_option maxHeartbeats 2000000 in
set_option maxRecDepth 100000 in
/-- zzQuotedModel where the first byte is a double quote. -/
theorem modelDq (s : ByteArray) (h0 : 0 < s.size) (hs : s.size ≤ 4294967296) (hq : s[0] = 34) (R : Option (List UInt8 × List UInt8)) (hR : Hid (R = Plain.scan s[0] (s.data.toList.drop 1))) (w : World) :
    Calls Try.prog 17 #[.string s] w fun e w' => e = .returned (.tuple #[.string (qv R), .string (qr R), .bool R.isSome]) ∧ Below w.heap.size w w' := by
  have hq' : ((s[0].toNat : Int) != 34) = false := by simp [hq]
  have HS : Hid (R = (Plain.close 0 (s.data.toList.drop 1)).map fun t => F s.data.toList (t + 0)) := f_start (by have := hR.out; rw [hq] at this; exact this)
  clear hq
  go_enter Try.func17, Try.ntmps17
  go_wp2
  go_loop [7, 8] (fun rv jv => ∃ j run : Nat, 1 ≤ j ∧ j ≤ s.size ∧ run ≤ j ∧ jv = .int .i64 j ∧ rv = .int .i64 run ∧ Hid (R = (Plain.close run (s.data.toList.drop j)).map fun t => F s.data.toList (t + (j - 1)))) (fun _ jv => s.size - (intOf jv).toNat)
  case atStart => exact ⟨1, 0, Nat.le_refl _, h0, Nat.zero_le _, rfl, rfl, HS⟩
  case round =>
    obtain ⟨j, run, hj1, hj, hrj, rfl, rfl, HR⟩ := hrel
    by_cases hlt : j < s.size
    · by_cases hc : s[j] = 92
      · have hc' : ((s[j].toNat : Int) == 92) = true := by simp [hc]
        have HN : Hid (R = (Plain.close (run + 1) (s.data.toList.drop (j + 1))).map fun t => F s.data.toList (t + (j + 1 - 1))) := f_slash HR.out hj1 hlt hc
        clear hc HR
        go_wp2
        go_round
        case rel => exact ⟨j + 1, run + 1, by omega, by omega, by omega, by go_num, by go_num, HN⟩
        case measure => simp [intOf]; omega
      · have hc' : ((s[j].toNat : Int) == 92) = false := byte_ne' (n := 92) hc (by omega)
        by_cases hd : s[j] = 34
        · have hd' : ((s[j].toNat : Int) == 34) = true := by simp [hd]
          by_cases he : run % 2 = 0
          · have he' : ((run : Int) % 2 == 0) = true := by rw [beq_iff_eq]; omega
            obtain ⟨D0, HF, HD⟩ : ∃ D0, Hid (R = some (D0, s.data.toList.drop (j + 1))) ∧ Hid (D0 = Plain.dec 0 (s.extract 1 j).data.toList) := ⟨_, f_close HR.out hj1 hlt hd he, by show _ = _; rw [extract_mid]⟩
            have hwr : IntKind.i64.wrap ((j : Int) + 1) = (j : Int) + 1 := wrap_id (by omega) (by omega)
            have hlt1 : (j : Int) + 1 ≤ (s.size : Int) := by omega
            have hlt2 : (1 : Int) ≤ (j : Int) := by omega
            have hlt3 : (j : Int) ≤ (s.size : Int) := by omega
            have hms : (s.extract 1 j).size ≤ 4294967296 := Nat.le_trans (mid_size s j) hs
            clear hc hd he HR
            go_wp2_with fail
            go_region_with (go_at_call 21; refine (decodeRuns _ hms _ HD _).mono ?_; rintro e W1 ⟨rfl, b1⟩)
            all_goals (try go_wp2)
            all_goals
              go_ret3
              rw [HF.out]
              refine ⟨?_, (Below.refl _ _).drew.trans b1⟩
              rw [extract_end]
              rfl
          · have he' : ((run : Int) % 2 == 0) = false := by rw [beq_eq_false_iff_ne]; omega
            have HN : Hid (R = (Plain.close 0 (s.data.toList.drop (j + 1))).map fun t => F s.data.toList (t + (j + 1 - 1))) := f_other HR.out hj1 hlt hc (fun h => he h.2)
            clear hc hd he HR
            go_wp2
            go_round
            case rel => exact ⟨j + 1, 0, by omega, by omega, by omega, by go_num, by go_num, HN⟩
            case measure => simp [intOf]; omega
        · have hd' : ((s[j].toNat : Int) == 34) = false := byte_ne' (n := 34) hd (by omega)
          have HN : Hid (R = (Plain.close 0 (s.data.toList.drop (j + 1))).map fun t => F s.data.toList (t + (j + 1 - 1))) := f_other HR.out hj1 hlt hc (fun h => hd h.1)
          clear hc hd HR
          go_wp2
          go_round
          case rel => exact ⟨j + 1, 0, by omega, by omega, by omega, by go_num, by go_num, HN⟩
          case measure => simp [intOf]; omega
    · have HF : Hid (R = none) := f_end HR.out hlt
      go_wp2
      go_ret3
      rw [HF.out]
      exact ⟨rfl, Below.refl _ _⟩

theorem model (s : ByteArray) (h0 : 0 < s.size) (hs : s.size ≤ 4294967296) (R : Option (List UInt8 × List UInt8)) (hR : Hid (R = Plain.scan s[0] (s.data.toList.drop 1))) (w : World) :
    Calls Try.prog 17 #[.string s] w fun e w' => e = .returned (.tuple #[.string (qv R), .string (qr R), .bool R.isSome]) ∧ Below w.heap.size w w' := by
  by_cases hq : s[0] = 34
  · exact modelDq s h0 hs hq R hR w
  · exact modelOther s h0 hs hq R hR w

set_option maxHeartbeats 1000000 in
/-- THE WALK OF FnQuotedMatchesRunLengthModel. -/
theorem walkModel (s : ByteArray) (hs : s.size ≤ maxLen) (w : World) :
    Calls Try.prog 5 #[.string s] w fun e w' => e = .returned (.bool true) ∧ Below w.heap.size w w' := by
  unfold maxLen at hs
  by_cases hl : (s.size : Int) ≤ 1048576
  · have hl' : decide ((1048576 : Int) < (s.size : Int)) = false := by simp; omega
    by_cases h0 : 0 < s.size
    · have h0' : ((s.size : Int) == 0) = false := by rw [beq_eq_false_iff_ne]; omega
      obtain ⟨R, hR⟩ : ∃ R, Hid (R = Plain.scan s[0] (s.data.toList.drop 1)) := ⟨Plain.scan s[0] (s.data.toList.drop 1), show Plain.scan s[0] (s.data.toList.drop 1) = _ from rfl⟩
      cases R with
      | none =>
        go_enter Try.func5, Try.ntmps5
        go_wp2_with (first | (go_at_call 16; refine (zzQuoted s h0 (by omega) _ hR _).mono ?_; rintro e w1 ⟨rfl, hb1⟩) | (go_at_call 17; refine (model s h0 (by omega) _ hR _).mono ?_; rintro e w2 ⟨rfl, hb2⟩) | go_in)
        go_ret
        exact ⟨by simp, hb1.trans (hb2.mono hb1.size)⟩
      | some p =>
        go_enter Try.func5, Try.ntmps5
        go_wp2_with (first | (go_at_call 16; refine (zzQuoted s h0 (by omega) _ hR _).mono ?_; rintro e w1 ⟨rfl, hb1⟩) | (go_at_call 17; refine (model s h0 (by omega) _ hR _).mono ?_; rintro e w2 ⟨rfl, hb2⟩) | go_in)
        go_ret
        exact ⟨by simp, hb1.trans (hb2.mono hb1.size)⟩
    · have h0' : ((s.size : Int) == 0) = true := by rw [beq_iff_eq]; omega
      go_enter Try.func5, Try.ntmps5
      go_wp2
      go_ret
      exact ⟨rfl, Below.refl _ _⟩
  · have hl' : decide ((1048576 : Int) < (s.size : Int)) = true := by simp; omega
    go_enter Try.func5, Try.ntmps5
    go_wp2
    go_ret
    exact ⟨rfl, Below.refl _ _⟩
end Go.Proofs.Qxb6601034a
