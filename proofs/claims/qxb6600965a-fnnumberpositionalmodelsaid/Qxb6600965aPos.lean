import Derived.Test.Qxb6600965aNum
namespace Go.Proofs.Qxb6600965a
open Go.RowKit

theorem bytes7_c (s : ByteArray) (a b : Int) (w : World) (hs : s.size ≤ maxLen) :
    Calls Try.prog 7 #[.string s, .int .i64 a, .int .i64 b] w fun e w' => e = .returned (.bool (decide (s.size ≤ 1048576))) ∧ w' = w := by
  unfold maxLen at hs
  by_cases h : s.size ≤ 1048576
  · go_enter Try.func7, Try.ntmps7
    go_wp2
    go_ret
    exact ⟨by simp [h], rfl⟩
  · go_enter Try.func7, Try.ntmps7
    go_wp2
    go_ret
    refine ⟨?_, rfl⟩
    rw [decide_eq_false (by omega : ¬ s.size ≤ 1048576)]; simp

theorem u64step (V P d : Int) : (V % 18446744073709551616 + (d * (P % 18446744073709551616)) % 18446744073709551616) % 18446744073709551616 = (V + d * P) % 18446744073709551616 := by
  rw [Int.mul_emod d (P % _), Int.emod_emod, ← Int.mul_emod, ← Int.add_emod]

theorem hv_split (A d P V : Int) : A * (P * 10) + (V + d * P) = (A * 10 + d) * P + V := by
  rw [Int.add_mul, Int.mul_assoc, Int.mul_comm P 10]; omega

theorem wrap_mod (V : Int) : wrap64 (V % 18446744073709551616) = wrap64 V := by unfold wrap64; omega

set_option maxHeartbeats 1600000 in
set_option maxRecDepth 100000 in
theorem pos_bad (s : ByteArray) (a b : Int) (w : World) (hs : s.size ≤ 1048576) (j : Nat) (hj : j < s.size) (hn : isD s[j] = false) (hd : ∀ (k : Nat) (h : k < j), isD (s[k]'(by omega)) = true) :
    Calls Try.prog 3 #[.string s, .int .i64 a, .int .i64 b] w fun e w' => e = .returned (.bool true) ∧ Grown w w' := by
  have hm : s.size ≤ maxLen := by unfold maxLen; omega
  have HM : Hid (s.size ≤ maxLen) := hm
  have HN : Hid (isD s[j] = false) := hn
  have HD : Hid (∀ (k : Nat) (h : k < j), isD (s[k]'(by omega)) = true) := hd
  clear hm hn hd
  have hb : decide (s.size ≤ 1048576) = true := by simp [hs]
  go_enter Try.func3, Try.ntmps3
  go_wp2_with fail
  refine (bytes7_c s a b w HM.out).mono ?_
  rintro e w1 ⟨rfl, hw⟩
  subst hw
  rw [hb]
  go_wp2_with fail
  refine (zz_num s a b 0 false w1 (number_no s a b w1 HM.out j hj HN.out HD.out)).mono ?_
  rintro e w2 ⟨rfl, hw⟩
  subst hw
  go_wp2
  go_loop [9] (fun i => ∃ k : Nat, k ≤ j ∧ i = .int .i64 k) (fun i => s.size - (intOf i).toNat)
  case atStart => exact ⟨0, Nat.zero_le _, rfl⟩
  case round =>
    obtain ⟨k, hk, rfl⟩ := hrel
    have hlt : k < s.size := by omega
    by_cases hkj : k < j
    · go_wp2_with fail
      refine (isDigit_c s[k] w2).mono ?_
      rintro e w3 ⟨rfl, hw⟩
      subst hw
      rw [HD.out k hkj]
      go_wp2
      go_round
      case rel => exact ⟨k + 1, by omega, by go_num⟩
      case measure => simp [intOf]; omega
    · obtain rfl : k = j := by omega
      go_wp2_with fail
      refine (isDigit_c s[k] w2).mono ?_
      rintro e w3 ⟨rfl, hw⟩
      subst hw
      rw [HN.out]
      go_wp2
      go_ret
      exact ⟨rfl, Grown.refl _⟩

set_option maxHeartbeats 1600000 in
set_option maxRecDepth 100000 in
theorem pos_good (s : ByteArray) (a b : Int) (w : World) (hs : s.size ≤ 1048576) (hd : ∀ (k : Nat) (h : k < s.size), isD s[k] = true) :
    Calls Try.prog 3 #[.string s, .int .i64 a, .int .i64 b] w fun e w' => e = .returned (.bool true) ∧ Grown w w' := by
  have hm : s.size ≤ maxLen := by unfold maxLen; omega
  have HM : Hid (s.size ≤ maxLen) := hm
  have HD : Hid (∀ (k : Nat) (h : k < s.size), isD s[k] = true) := hd
  clear hm hd
  have hb : decide (s.size ≤ 1048576) = true := by simp [hs]
  go_enter Try.func3, Try.ntmps3
  go_wp2_with fail
  refine (bytes7_c s a b w HM.out).mono ?_
  rintro e w1 ⟨rfl, hw⟩
  subst hw
  rw [hb]
  have HV : Hid (∃ v, v = wrap64 (hv s.data.toList)) := ⟨_, rfl⟩
  obtain ⟨v, hv0⟩ := HV.out
  have HV0 : Hid (v = wrap64 (hv s.data.toList)) := hv0
  clear HV
  have HC := hide (zz_num s a b _ _ w1 (number_ok s a b w1 HM.out HD.out))
  rw [← hv0] at HC
  clear hv0
  go_wp2_with fail
  refine HC.out.mono ?_
  rintro e w2 ⟨rfl, hw⟩
  subst hw
  clear HC
  generalize hT : (decide (a ≤ v) && decide (v ≤ b)) = T
  have HT : Hid ((decide (a ≤ v) && decide (v ≤ b)) = T) := hT
  clear hT
  go_wp2
  go_loop [9] (fun i => ∃ k : Nat, k ≤ s.size ∧ i = .int .i64 k) (fun i => s.size - (intOf i).toNat)
  case atStart => exact ⟨0, Nat.zero_le _, rfl⟩
  case round =>
    obtain ⟨k, hk, rfl⟩ := hrel
    by_cases hlt : k < s.size
    · go_wp2_with fail
      refine (isDigit_c s[k] w2).mono ?_
      rintro e w3 ⟨rfl, hw⟩
      subst hw
      rw [HD.out k hlt]
      go_wp2
      go_round
      case rel => exact ⟨k + 1, by omega, by go_num⟩
      case measure => simp [intOf]; omega
    · go_wp2
      go_loop [10, 11, 12] (fun val pow i => ∃ (r : Nat) (V P : Int), r ≤ s.size ∧ i = .int .i64 ((r : Int) - 1) ∧ val = .int .u64 (V % 18446744073709551616) ∧ pow = .int .u64 (P % 18446744073709551616) ∧
          Hid (hv (s.data.toList.take r) * P + V = hv s.data.toList)) (fun _ _ i => (intOf i + 1).toNat)
      case atStart => exact ⟨s.size, 0, 1, Nat.le_refl _, rfl, rfl, rfl, hide (by rw [List.take_of_length_le (by simp)]; omega)⟩
      case round =>
        obtain ⟨r, V, P, hr, rfl, rfl, rfl, hh⟩ := hrel
        by_cases h0 : r = 0
        · subst h0
          have HW : Hid (v = wrap64 (V % 18446744073709551616)) := hide (by
            have := hh.out
            rw [List.take_zero, hv_nil] at this
            rw [wrap_mod, HV0.out, ← this]; simp)
          clear hh HV0
          generalize V % 18446744073709551616 = V' at *
          obtain rfl := HW.out
          by_cases h1 : a ≤ wrap64 V'
          · by_cases h2 : wrap64 V' ≤ b
            · obtain rfl : T = true := by rw [← HT.out]; simp [h1, h2]
              clear HT HW
              go_wp2
              go_ret
              exact ⟨rfl, Grown.refl _⟩
            · obtain rfl : T = false := by rw [← HT.out, decide_eq_false h2, Bool.and_false]
              clear HT HW
              go_wp2
              go_ret
              exact ⟨rfl, Grown.refl _⟩
          · obtain rfl : T = false := by rw [← HT.out, decide_eq_false h1, Bool.false_and]
            clear HT HW
            go_wp2
            go_ret
            exact ⟨rfl, Grown.refl _⟩
        · obtain ⟨r, rfl⟩ : ∃ q, r = q + 1 := ⟨r - 1, by omega⟩
          have hlt' : r < s.size := by omega
          obtain ⟨d1, d2⟩ := (isD_iff _).1 (HD.out r hlt')
          have HS : Hid (hv (s.data.toList.take r) * (P * 10) + (V + ((s[r].toNat : Int) - 48) * P) = hv s.data.toList) := hide (by
            rw [hv_split, ← hv_snoc, ← take_snoc s r hlt']; exact hh.out)
          clear hh
          go_wp2
          go_round
          case rel => exact ⟨r, V + ((s[r].toNat : Int) - 48) * P, P * 10, by omega, by go_num, by rw [← u64step, IntKind.wrap_u64, IntKind.wrap_u64], by rw [IntKind.wrap_u64]; exact congrArg _ (by omega), HS⟩
          case measure => simp [intOf]

set_option maxHeartbeats 1600000 in
theorem pos_any (s : ByteArray) (a b : Int) (w : World) (hm : s.size ≤ maxLen) :
    Calls Try.prog 3 #[.string s, .int .i64 a, .int .i64 b] w fun e w' => e = .returned (.bool true) ∧ Grown w w' := by
  by_cases hs : s.size ≤ 1048576
  · rcases first_bad s s.size (Nat.le_refl _) with h | ⟨j, hj, hn, hd⟩
    · exact pos_good s a b w hs h
    · exact pos_bad s a b w hs j hj hn hd
  · have HM : Hid (s.size ≤ maxLen) := hm
    clear hm
    have hb : decide (s.size ≤ 1048576) = false := decide_eq_false hs
    go_enter Try.func3, Try.ntmps3
    go_wp2_with fail
    refine (bytes7_c s a b w HM.out).mono ?_
    rintro e w1 ⟨rfl, hw⟩
    subst hw
    rw [hb]
    go_wp2
    go_ret
    exact ⟨rfl, Grown.refl _⟩

end Go.Proofs.Qxb6600965a
