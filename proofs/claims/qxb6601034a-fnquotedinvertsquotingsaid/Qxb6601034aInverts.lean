/-
  THE WALK OF FnQuotedInvertsQuoting: it returns true; nothing that was there has turned.
-/
import Derived.Test.Qxb6601034aBytes
namespace Go.Proofs.Qxb6601034a
open Go.RowKit

theorem zzQuoted_enc (q : UInt8) (v rest : List UInt8) (h : q = 34 ∨ ∀ c ∈ v, c ≠ q) (hl : 2 * v.length + rest.length ≤ 2147483648) (w : World) :
    Calls Try.prog 16 #[.string ⟨(q :: (Plain.enc q v ++ q :: rest)).toArray⟩] w fun e w' => e = .returned (.tuple #[.string ⟨v.toArray⟩, .string ⟨rest.toArray⟩, .bool true]) ∧ Below w.heap.size w w' := by
  have hs : (⟨(q :: (Plain.enc q v ++ q :: rest)).toArray⟩ : ByteArray).size = (Plain.enc q v).length + rest.length + 2 := by
    show (q :: (Plain.enc q v ++ q :: rest)).toArray.size = _
    simp; omega
  have hel := Plain.enc_length q v
  have hR : Hid (some (v, rest) = Plain.scan ((⟨(q :: (Plain.enc q v ++ q :: rest)).toArray⟩ : ByteArray)[0]'(by omega)) ((⟨(q :: (Plain.enc q v ++ q :: rest)).toArray⟩ : ByteArray).data.toList.drop 1)) := by
    show _ = Plain.scan q (Plain.enc q v ++ q :: rest)
    rw [Plain.scan_enc q v rest h]
  exact zzQuoted _ (by omega) (by omega) (some (v, rest)) hR w

theorem zzB (q : Int) (v r : ByteArray) (hv : v.size ≤ 262144) (hr : r.size ≤ 262144) (w : World) :
    Calls Try.prog 18 #[.int .u8 q, .string v, .string r] w fun e w' => e = .returned (.bool true) ∧ w = w' := by
  go_enter Try.func18, Try.ntmps18
  go_wp2
  go_ret
  exact ⟨rfl, rfl⟩
theorem zzBany (q : Int) (v r : ByteArray) (hv : v.size ≤ maxLen) (hr : r.size ≤ maxLen) (w : World) :
    Calls Try.prog 18 #[.int .u8 q, .string v, .string r] w fun e w' => ∃ b, e = .returned (.bool b) ∧ w = w' := by
  unfold maxLen at hv hr
  go_enter Try.func18, Try.ntmps18
  go_wp2
  all_goals
    go_ret
    exact ⟨_, rfl, rfl⟩
theorem walkBig (q : Int) (v r : ByteArray) (hv : v.size ≤ maxLen) (hr : r.size ≤ maxLen) (hbig : ¬ (v.size ≤ 262144 ∧ r.size ≤ 262144)) (w : World) :
    Calls Try.prog 6 #[.int .u8 q, .string v, .string r] w fun e w' => e = .returned (.bool true) ∧ Below w.heap.size w w' := by
  by_cases h : v.size ≤ 262144
  · have h1 : decide ((262144 : Int) < (v.size : Int)) = false := by simp; omega
    have h2 : decide ((262144 : Int) < (r.size : Int)) = true := by simp; omega
    clear hbig
    go_enter Try.func6, Try.ntmps6
    go_wp2_with (go_at_call 18; refine (zzBany _ _ _ hv hr _).mono ?_; rintro e w1 ⟨b, rfl, rfl⟩)
    all_goals
      go_ret
      exact ⟨rfl, Below.refl _ _⟩
  · have h1 : decide ((262144 : Int) < (v.size : Int)) = true := by simp; omega
    clear hbig
    go_enter Try.func6, Try.ntmps6
    go_wp2_with (go_at_call 18; refine (zzBany _ _ _ hv hr _).mono ?_; rintro e w1 ⟨b, rfl, rfl⟩)
    all_goals
      go_ret
      exact ⟨rfl, Below.refl _ _⟩

theorem take_snoc (s : ByteArray) (k : Nat) (h : k < s.size) : s.data.toList.take (k + 1) = s.data.toList.take k ++ [s[k]] := by
  rw [List.take_succ_eq_append_getElem (by simpa using h)]; rfl
theorem enc_hit (q : UInt8) (s : ByteArray) (k : Nat) (h : k < s.size) (he : q = 34 ∧ (s[k] = 34 ∨ s[k] = 92)) : q :: Plain.enc q (s.data.toList.take (k + 1)) = q :: Plain.enc q (s.data.toList.take k) ++ [92] ++ [s[k]] := by
  rw [take_snoc s k h, Plain.enc_snoc, if_pos he]; simp
theorem enc_miss (q : UInt8) (s : ByteArray) (k : Nat) (h : k < s.size) (he : ¬ (q = 34 ∧ (s[k] = 34 ∨ s[k] = 92))) : q :: Plain.enc q (s.data.toList.take (k + 1)) = q :: Plain.enc q (s.data.toList.take k) ++ [s[k]] := by
  rw [take_snoc s k h, Plain.enc_snoc, if_neg he]; simp
theorem take_all (s : ByteArray) (k : Nat) (h : ¬ k < s.size) : s.data.toList.take k = s.data.toList :=
  List.take_of_length_le (by simp; have : s.size = s.data.size := rfl; omega)
theorem take_len (s : ByteArray) (k : Nat) : (s.data.toList.take k).length ≤ k := List.length_take_le _ _
theorem eq_self (s : ByteArray) : (s.data.toList == s.toList) = true := by rw [ByteArray.toList_eq]; simp

set_option maxHeartbeats 4000000 in
set_option maxRecDepth 100000 in
/-- q is the double quote. -/
theorem walkDq (q : UInt8) (hq34 : q = 34) (v r : ByteArray) (hv : v.size ≤ 262144) (hr : r.size ≤ 262144) (w : World) :
    Calls Try.prog 6 #[.int .u8 q.toNat, .string v, .string r] w fun e w' => e = .returned (.bool true) ∧ Below w.heap.size w w' := by
  have H : Hid (q = 34 ∨ ∀ c ∈ v.data.toList, c ≠ q) := Or.inl hq34
  have h34 : ((q.toNat : Int) != 34) = false := by simp [hq34]
  have h1 : decide ((262144 : Int) < (v.size : Int)) = false := by simp; omega
  have h2 : decide ((262144 : Int) < (r.size : Int)) = false := by simp; omega
  clear hq34
  go_enter Try.func6, Try.ntmps6
  go_wp2_with (first | (go_at_call 18; refine (zzB _ _ _ hv hr _).mono ?_; rintro e w' ⟨rfl, rfl⟩) | (at_make; refine make0 w rfl _ _ rfl _ (2 * v.size + r.size + 2) rfl rfl (by omega) (by omega) ?_; intro v1 w1 hown1 hb1) | (at_builtin; refine app1 w w1 rfl (.tmp 48) (.tmp 50) rfl v1 [] q _ rfl rfl hown1 hb1 rfl (by simp) ?_; intro v2 w2 hown2 hb2))
  go_loopw [8, 9] (fun bv i wr => ∃ k : Nat, k ≤ v.size ∧ i = .int .i64 k ∧ wr.ownsRow w.heap.size 5 1 bv (q :: Plain.enc q (v.data.toList.take k)).length (Lib.byteCells (q :: Plain.enc q (v.data.toList.take k))) ∧ Below w.heap.size w wr) (fun _ i _ => v.size - (intOf i).toNat)
  case atStart => exact ⟨0, Nat.zero_le _, rfl, hown2, hb2⟩
  case round =>
    obtain ⟨k, hk, rfl, hown, hbw⟩ := hrel
    have hel := Plain.enc_length q (v.data.toList.take k)
    have htl := take_len v k
    have hlen : (q :: Plain.enc q (v.data.toList.take k)).length + 4 ≤ 140737488355328 := by simp; omega
    by_cases hlt : k < v.size
    · by_cases he : q = 34 ∧ (v[k] = 34 ∨ v[k] = 92)
      · have HE := enc_hit q v k hlt he
        have hq : ((q.toNat : Int) == 34) = true := by simp [he.1]
        have hl92 : (q :: Plain.enc q (v.data.toList.take k) ++ [92]).length + 1 ≤ 140737488355328 := by simp at hlen ⊢; omega
        by_cases hc : v[k] = 34
        · have hc' : ((v[k].toNat : Int) == 34) = true := by simp [hc]
          have HE' : Hid (q :: Plain.enc q (v.data.toList.take (k + 1)) = q :: Plain.enc q (v.data.toList.take k) ++ [92] ++ [v[k]]) := HE
          clear HE he hc
          go_wp2_with (first | (at_builtin; refine app1 w wr rfl (.tmp 71) (.tmp 72) rfl _ _ 92 _ (by decide) rfl hown hbw rfl (by omega) ?_; intro v3 w3 hown3 hb3) | (at_builtin; refine app1 w w3 rfl (.tmp 74) (.tmp 76) rfl _ _ v[k] _ rfl rfl hown3 hb3 rfl hl92 ?_; intro v4 w4 hown4 hb4))
          go_roundw
          case rel => exact ⟨k + 1, by omega, by go_num, by rw [HE'.out]; exact hown4, hb4⟩
          case measure => simp [intOf]; omega
        · have hc2 : v[k] = 92 := he.2.resolve_left hc
          have hc' : ((v[k].toNat : Int) == 34) = false := byte_ne' (n := 34) hc (by omega)
          have hc2' : ((v[k].toNat : Int) == 92) = true := by simp [hc2]
          have HE' : Hid (q :: Plain.enc q (v.data.toList.take (k + 1)) = q :: Plain.enc q (v.data.toList.take k) ++ [92] ++ [v[k]]) := HE
          clear HE he hc hc2
          go_wp2_with (first | (at_builtin; refine app1 w wr rfl (.tmp 71) (.tmp 72) rfl _ _ 92 _ (by decide) rfl hown hbw rfl (by omega) ?_; intro v3 w3 hown3 hb3) | (at_builtin; refine app1 w w3 rfl (.tmp 74) (.tmp 76) rfl _ _ v[k] _ rfl rfl hown3 hb3 rfl hl92 ?_; intro v4 w4 hown4 hb4))
          go_roundw
          case rel => exact ⟨k + 1, by omega, by go_num, by rw [HE'.out]; exact hown4, hb4⟩
          case measure => simp [intOf]; omega
      · have HE : Hid (q :: Plain.enc q (v.data.toList.take (k + 1)) = q :: Plain.enc q (v.data.toList.take k) ++ [v[k]]) := enc_miss q v k hlt he
        by_cases hq : q = 34
        · have hq' : ((q.toNat : Int) == 34) = true := by simp [hq]
          have hc1 : ((v[k].toNat : Int) == 34) = false := byte_ne' (n := 34) (fun h => he ⟨hq, Or.inl h⟩) (by omega)
          have hc2 : ((v[k].toNat : Int) == 92) = false := byte_ne' (n := 92) (fun h => he ⟨hq, Or.inr h⟩) (by omega)
          clear he hq
          go_wp2_with (at_builtin; refine app1 w wr rfl (.tmp 74) (.tmp 76) rfl _ _ v[k] _ rfl rfl hown hbw rfl (by omega) ?_; intro v4 w4 hown4 hb4)
          go_roundw
          case rel => exact ⟨k + 1, by omega, by go_num, by rw [HE.out]; exact hown4, hb4⟩
          case measure => simp [intOf]; omega
        · have hq' : ((q.toNat : Int) == 34) = false := byte_ne' (n := 34) hq (by omega)
          clear he hq
          go_wp2_with (at_builtin; refine app1 w wr rfl (.tmp 74) (.tmp 76) rfl _ _ v[k] _ rfl rfl hown hbw rfl (by omega) ?_; intro v4 w4 hown4 hb4)
          go_roundw
          case rel => exact ⟨k + 1, by omega, by go_num, by rw [HE.out]; exact hown4, hb4⟩
          case measure => simp [intOf]; omega
    · rw [take_all v k hlt] at hown hel hlen
      have e1 := eq_self v
      have e2 := eq_self r
      have hrl : r.data.toList.length = r.size := Array.length_toList
      have hvl : v.data.toList.length = v.size := Array.length_toList
      have hl2 : (q :: Plain.enc q v.data.toList ++ [q]).length + r.size ≤ 140737488355328 := by simp at hel ⊢; omega
      have hl3 : 2 * v.data.toList.length + r.data.toList.length ≤ 2147483648 := by omega
      clear hrl hvl hel
      go_wp2_with (first | (at_builtin; refine app1 w wr rfl (.tmp 78) (.tmp 80) rfl _ _ q _ rfl rfl hown hbw rfl (by omega) ?_; intro v3 w3 hown3 hb3) | (at_builtin; refine appS w w3 rfl (.tmp 82) (.tmp 83) rfl _ _ r rfl hown3 hb3 rfl hl2 ?_; intro v4 w4 hown4 hb4; have hcv := conv_own hown4) | (go_at_call 16; refine (zzQuoted_enc q v.data.toList r.data.toList H.out hl3 _).mono ?_; rintro e w5 ⟨rfl, hb5⟩))
      go_ret
      exact ⟨by simp, hb4.trans (hb5.mono hb4.size)⟩

set_option maxHeartbeats 400000 in
/-- q is another byte, and v holds it: the first loop answers. -/
theorem walkHeld (q : UInt8) (hq34 : q ≠ 34) (v r : ByteArray) (hv : v.size ≤ 262144) (hr : r.size ≤ 262144) (n : Nat) (hn : n < v.size) (hnq : v[n] = q) (w : World) :
    Calls Try.prog 6 #[.int .u8 q.toNat, .string v, .string r] w fun e w' => e = .returned (.bool true) ∧ Below w.heap.size w w' := by
  have h34 : ((q.toNat : Int) != 34) = true := by have := byte_ne' (n := 34) hq34 (by omega); rw [bne, show ((34 : Nat) : Int) = 34 from rfl] at *; simp [this]
  have h1 : decide ((262144 : Int) < (v.size : Int)) = false := by simp; omega
  have h2 : decide ((262144 : Int) < (r.size : Int)) = false := by simp; omega
  clear hq34
  go_enter Try.func6, Try.ntmps6
  go_wp2_with (go_at_call 18; refine (zzB _ _ _ hv hr _).mono ?_; rintro e w' ⟨rfl, rfl⟩)
  go_loop [7] (fun i => ∃ k : Nat, k ≤ n ∧ i = .int .i64 k) (fun i => v.size - (intOf i).toNat)
  case atStart => exact ⟨0, Nat.zero_le _, rfl⟩
  case round =>
    obtain ⟨k, hk, rfl⟩ := hrel
    have hlt : k < v.size := by omega
    by_cases hq : v[k] = q
    · have hq' := byte_eq hq
      clear hnq hq
      go_wp2
      go_ret
      exact ⟨rfl, Below.refl _ _⟩
    · have hq' := byte_ne hq
      have hkn : k < n := by
        rcases Nat.lt_or_ge k n with h | h
        · exact h
        · exact absurd (by have : k = n := by omega
                           subst this; exact hnq) hq
      clear hnq hq
      go_wp2
      go_round
      case rel => exact ⟨k + 1, by omega, by go_num⟩
      case measure => simp [intOf]; omega
set_option maxHeartbeats 4000000 in
set_option maxRecDepth 100000 in
/-- q is another byte, and v does not hold it. -/
theorem walkOther (q : UInt8) (hq34 : q ≠ 34) (v r : ByteArray) (hv : v.size ≤ 262144) (hr : r.size ≤ 262144) (hno : ∀ (n : Nat) (hn : n < v.size), v[n] ≠ q) (w : World) :
    Calls Try.prog 6 #[.int .u8 q.toNat, .string v, .string r] w fun e w' => e = .returned (.bool true) ∧ Below w.heap.size w w' := by
  have H : Hid (q = 34 ∨ ∀ c ∈ v.data.toList, c ≠ q) := Or.inr (fun c hc => by
    obtain ⟨n, hn, e⟩ := List.getElem_of_mem hc
    rw [← e]
    exact hno n (by simpa using hn))
  have h34 : ((q.toNat : Int) != 34) = true := by have := byte_ne' (n := 34) hq34 (by omega); rw [bne, show ((34 : Nat) : Int) = 34 from rfl] at *; simp [this]
  have h1 : decide ((262144 : Int) < (v.size : Int)) = false := by simp; omega
  have h2 : decide ((262144 : Int) < (r.size : Int)) = false := by simp; omega
  have HN : Hid (∀ (n : Nat) (hn : n < v.size), v[n] ≠ q) := hno
  clear hq34 hno
  go_enter Try.func6, Try.ntmps6
  go_wp2_with (go_at_call 18; refine (zzB _ _ _ hv hr _).mono ?_; rintro e w' ⟨rfl, rfl⟩)
  go_loop [7] (fun i => ∃ k : Nat, k ≤ v.size ∧ i = .int .i64 k) (fun i => v.size - (intOf i).toNat)
  case atStart => exact ⟨0, Nat.zero_le _, rfl⟩
  case round =>
    obtain ⟨k0, hk0, rfl⟩ := hrel
    by_cases hlt0 : k0 < v.size
    · have hq' := byte_ne (HN.out k0 hlt0)
      go_wp2
      go_round
      case rel => exact ⟨k0 + 1, by omega, by go_num⟩
      case measure => simp [intOf]; omega
    · have hge0 : decide ((k0 : Int) < (v.size : Int)) = false := by simp; omega
      go_wp2_with (first | (go_at_call 18; refine (zzB _ _ _ hv hr _).mono ?_; rintro e w' ⟨rfl, rfl⟩) | (at_make; refine make0 w rfl _ _ rfl _ (2 * v.size + r.size + 2) rfl rfl (by omega) (by omega) ?_; intro v1 w1 hown1 hb1) | (at_builtin; refine app1 w w1 rfl (.tmp 48) (.tmp 50) rfl v1 [] q _ rfl rfl hown1 hb1 rfl (by simp) ?_; intro v2 w2 hown2 hb2))
      go_loopw [8, 9] (fun bv i wr => ∃ k : Nat, k ≤ v.size ∧ i = .int .i64 k ∧ wr.ownsRow w.heap.size 5 1 bv (q :: Plain.enc q (v.data.toList.take k)).length (Lib.byteCells (q :: Plain.enc q (v.data.toList.take k))) ∧ Below w.heap.size w wr) (fun _ i _ => v.size - (intOf i).toNat)
      case atStart => exact ⟨0, Nat.zero_le _, rfl, hown2, hb2⟩
      case round =>
        obtain ⟨k, hk, rfl, hown, hbw⟩ := hrel
        have hel := Plain.enc_length q (v.data.toList.take k)
        have htl := take_len v k
        have hlen : (q :: Plain.enc q (v.data.toList.take k)).length + 4 ≤ 140737488355328 := by simp; omega
        by_cases hlt : k < v.size
        · by_cases he : q = 34 ∧ (v[k] = 34 ∨ v[k] = 92)
          · have HE := enc_hit q v k hlt he
            have hq : ((q.toNat : Int) == 34) = true := by simp [he.1]
            have hl92 : (q :: Plain.enc q (v.data.toList.take k) ++ [92]).length + 1 ≤ 140737488355328 := by simp at hlen ⊢; omega
            by_cases hc : v[k] = 34
            · have hc' : ((v[k].toNat : Int) == 34) = true := by simp [hc]
              have HE' : Hid (q :: Plain.enc q (v.data.toList.take (k + 1)) = q :: Plain.enc q (v.data.toList.take k) ++ [92] ++ [v[k]]) := HE
              clear HE he hc
              go_wp2_with (first | (at_builtin; refine app1 w wr rfl (.tmp 71) (.tmp 72) rfl _ _ 92 _ (by decide) rfl hown hbw rfl (by omega) ?_; intro v3 w3 hown3 hb3) | (at_builtin; refine app1 w w3 rfl (.tmp 74) (.tmp 76) rfl _ _ v[k] _ rfl rfl hown3 hb3 rfl hl92 ?_; intro v4 w4 hown4 hb4))
              go_roundw
              case rel => exact ⟨k + 1, by omega, by go_num, by rw [HE'.out]; exact hown4, hb4⟩
              case measure => simp [intOf]; omega
            · have hc2 : v[k] = 92 := he.2.resolve_left hc
              have hc' : ((v[k].toNat : Int) == 34) = false := byte_ne' (n := 34) hc (by omega)
              have hc2' : ((v[k].toNat : Int) == 92) = true := by simp [hc2]
              have HE' : Hid (q :: Plain.enc q (v.data.toList.take (k + 1)) = q :: Plain.enc q (v.data.toList.take k) ++ [92] ++ [v[k]]) := HE
              clear HE he hc hc2
              go_wp2_with (first | (at_builtin; refine app1 w wr rfl (.tmp 71) (.tmp 72) rfl _ _ 92 _ (by decide) rfl hown hbw rfl (by omega) ?_; intro v3 w3 hown3 hb3) | (at_builtin; refine app1 w w3 rfl (.tmp 74) (.tmp 76) rfl _ _ v[k] _ rfl rfl hown3 hb3 rfl hl92 ?_; intro v4 w4 hown4 hb4))
              go_roundw
              case rel => exact ⟨k + 1, by omega, by go_num, by rw [HE'.out]; exact hown4, hb4⟩
              case measure => simp [intOf]; omega
          · have HE : Hid (q :: Plain.enc q (v.data.toList.take (k + 1)) = q :: Plain.enc q (v.data.toList.take k) ++ [v[k]]) := enc_miss q v k hlt he
            by_cases hq : q = 34
            · have hq' : ((q.toNat : Int) == 34) = true := by simp [hq]
              have hc1 : ((v[k].toNat : Int) == 34) = false := byte_ne' (n := 34) (fun h => he ⟨hq, Or.inl h⟩) (by omega)
              have hc2 : ((v[k].toNat : Int) == 92) = false := byte_ne' (n := 92) (fun h => he ⟨hq, Or.inr h⟩) (by omega)
              clear he hq
              go_wp2_with (at_builtin; refine app1 w wr rfl (.tmp 74) (.tmp 76) rfl _ _ v[k] _ rfl rfl hown hbw rfl (by omega) ?_; intro v4 w4 hown4 hb4)
              go_roundw
              case rel => exact ⟨k + 1, by omega, by go_num, by rw [HE.out]; exact hown4, hb4⟩
              case measure => simp [intOf]; omega
            · have hq' : ((q.toNat : Int) == 34) = false := byte_ne' (n := 34) hq (by omega)
              clear he hq
              go_wp2_with (at_builtin; refine app1 w wr rfl (.tmp 74) (.tmp 76) rfl _ _ v[k] _ rfl rfl hown hbw rfl (by omega) ?_; intro v4 w4 hown4 hb4)
              go_roundw
              case rel => exact ⟨k + 1, by omega, by go_num, by rw [HE.out]; exact hown4, hb4⟩
              case measure => simp [intOf]; omega
        · rw [take_all v k hlt] at hown hel hlen
          have e1 := eq_self v
          have e2 := eq_self r
          have hrl : r.data.toList.length = r.size := Array.length_toList
          have hvl : v.data.toList.length = v.size := Array.length_toList
          have hl2 : (q :: Plain.enc q v.data.toList ++ [q]).length + r.size ≤ 140737488355328 := by simp at hel ⊢; omega
          have hl3 : 2 * v.data.toList.length + r.data.toList.length ≤ 2147483648 := by omega
          clear hrl hvl hel
          go_wp2_with (first | (at_builtin; refine app1 w wr rfl (.tmp 78) (.tmp 80) rfl _ _ q _ rfl rfl hown hbw rfl (by omega) ?_; intro v3 w3 hown3 hb3) | (at_builtin; refine appS w w3 rfl (.tmp 82) (.tmp 83) rfl _ _ r rfl hown3 hb3 rfl hl2 ?_; intro v4 w4 hown4 hb4; have hcv := conv_own hown4) | (go_at_call 16; refine (zzQuoted_enc q v.data.toList r.data.toList H.out hl3 _).mono ?_; rintro e w5 ⟨rfl, hb5⟩))
          go_ret
          exact ⟨by simp, hb4.trans (hb5.mono hb4.size)⟩

/-- THE WALK OF FnQuotedInvertsQuoting. -/
theorem walkInverts (q : UInt8) (v r : ByteArray) (hv : v.size ≤ maxLen) (hr : r.size ≤ maxLen) (w : World) :
    Calls Try.prog 6 #[.int .u8 q.toNat, .string v, .string r] w fun e w' => e = .returned (.bool true) ∧ Below w.heap.size w w' := by
  by_cases hbig : v.size ≤ 262144 ∧ r.size ≤ 262144
  · by_cases hq : q = 34
    · exact walkDq q hq v r hbig.1 hbig.2 w
    · by_cases hh : ∃ (n : Nat) (hn : n < v.size), v[n] = q
      · obtain ⟨n, hn, e⟩ := hh
        exact walkHeld q hq v r hbig.1 hbig.2 n hn e w
      · exact walkOther q hq v r hbig.1 hbig.2 (fun n hn e => hh ⟨n, hn, e⟩) w
  · exact walkBig _ v r hv hr hbig w
end Go.Proofs.Qxb6601034a
