import Derived.Test.Qxb6600965aFrac
namespace Go.Proofs.Qxb6600965a
open Go.RowKit

/-- The sum over the first i digits of the nine. -/
def Ws (l : List UInt8) (i : Nat) : Int := hv (l.take i) * 10 ^ (9 - i)
/-- The place of digit i. -/
def pl (i : Nat) : Int := 10 ^ (9 - i) / 10

theorem pl_step : ∀ i, i < 9 → pl i / 10 = pl (i + 1) ∧ 0 ≤ pl i ∧ pl i ≤ 100000000 ∧ (10 : Int) ^ (9 - i) = 10 * pl i ∧ (10 : Int) ^ (9 - (i + 1)) = pl i := by decide

theorem Ws_step (l : List UInt8) (i : Nat) (hl : l.length = 9) (hi : i < 9) : Ws l (i + 1) = Ws l i + (((l[i]'(by omega)).toNat : Int) - 48) * pl i := by
  obtain ⟨_, _, _, h1, h2⟩ := pl_step i hi
  unfold Ws
  rw [List.take_succ_eq_append_getElem (by omega), hv_snoc, h1, h2, Int.add_mul, Int.mul_assoc]

theorem Ws_bound (l : List UInt8) (i : Nat) (hl : l.length = 9) (hd : ∀ c ∈ l, isD c = true) (hi : i ≤ 9) : 0 ≤ Ws l i ∧ Ws l i ≤ 1000000000 := by
  have h1 := hv_bound (l.take i) (fun c hc => hd c (List.mem_of_mem_take hc))
  have h2 : (l.take i).length = i := by simp; omega
  rw [h2] at h1
  have h3 : (10 : Int) ^ i * 10 ^ (9 - i) = 1000000000 := by rw [← Int.pow_add, show i + (9 - i) = 9 by omega]; rfl
  have h4 : (0 : Int) ≤ 10 ^ (9 - i) := Int.pow_nonneg (by omega)
  unfold Ws
  refine ⟨Int.mul_nonneg h1.1 h4, ?_⟩
  rw [← h3]
  exact Int.mul_le_mul_of_nonneg_right (by omega) h4

theorem Ws_wrap (W d P : Int) (h1 : 0 ≤ W) (h2 : W ≤ 1000000000) (h3 : 0 ≤ d) (h4 : d ≤ 9) (h5 : 0 ≤ P) (h6 : P ≤ 100000000) : wrap64 (W + wrap64 (d * P)) = W + d * P := by
  have h7 : 0 ≤ d * P := Int.mul_nonneg h3 h5
  have h8 : d * P ≤ 9 * P := Int.mul_le_mul_of_nonneg_right h4 h5
  generalize d * P = x at *
  unfold wrap64
  omega

theorem L9_at (s : ByteArray) (k i : Nat) (hk : 1 + k ≤ s.size) (hi : i < 9) (hik : i < k) : (L9 s k)[i]'(by rw [L9_len]; omega) = s[1 + i]'(by omega) := by
  have h1 : i < ((s.data.toList.drop 1).take k).length := by simp; omega
  unfold L9
  rw [List.getElem_take, List.getElem_append_left h1, List.getElem_take, List.getElem_drop]
  rfl

theorem L9_at0 (s : ByteArray) (k i : Nat) (hi : i < 9) (hik : k ≤ i) : (L9 s k)[i]'(by rw [L9_len]; omega) = 48 := by
  have h1 : ((s.data.toList.drop 1).take k).length ≤ i := by simp; omega
  unfold L9
  rw [List.getElem_take, List.getElem_append_right h1, List.getElem_replicate]

set_option maxHeartbeats 1600000 in
set_option maxRecDepth 100000 in
theorem fm_yes (s : ByteArray) (k : Nat) (w : World) (hs : s.size ≤ 1048576) (h0 : 0 < s.size) (h : (s[0].toNat : Int) = 46) (hk : 1 + k ≤ s.size)
    (hd : ∀ (i : Nat) (h : i < k), isD (s[1 + i]'(by omega)) = true) (he : ∀ h : 1 + k < s.size, isD s[1 + k] = false) :
    Calls Try.prog 5 #[.string s] w fun e w' => e = .returned (.bool true) ∧ Grown w w' := by
  have HM : Hid (s.size ≤ maxLen) := hide (by unfold maxLen; omega)
  have HF : Hid (∀ w, Calls Try.prog 12 #[.string s] w fun e w' => e = .returned (.tuple #[.int .i64 (hv (L9 s k)), .string (s.extract (1 + k) s.size), .bool (decide (0 < k))]) ∧ ∃ q, w' = w.drewN q) :=
    hide (fun w => zz_frac _ _ _ _ w (frac_yes s k w (by omega) h0 h hk hd he))
  have HL := hide (L9_isD s k hk hd)
  have HD := hide hd
  have HE := hide he
  clear hd he
  have hb : decide (s.size ≤ 1048576) = true := by simp [hs]
  have e3 : ((s[0].toNat : Int) != 46) = false := by simpa using h
  have e4 : ((s.size : Int) == 0) = false := beq_eq_false_iff_ne.2 (by omega)
  have HV : Hid (∃ v, v = hv (L9 s k)) := ⟨_, rfl⟩
  obtain ⟨v, hv0⟩ := HV.out
  rw [← hv0] at HF
  have HV0 : Hid (v = hv (L9 s k)) := hv0
  clear HV hv0
  go_enter Try.func5, Try.ntmps5
  go_wp2_with fail
  refine (bytes11_c s w HM.out).mono ?_
  rintro e w1 ⟨rfl, hw⟩
  subst hw
  rw [hb]
  go_wp2_with fail
  refine (HF.out w1).mono ?_
  rintro e w2 ⟨rfl, q, hw⟩
  have HG : Hid (Grown w1 w2) := hide (by subst hw; exact grown_drewN (Grown.refl _) q)
  clear hw HF
  go_wp2_with fail
  go_loop [6] (fun i => ∃ j : Nat, j ≤ k ∧ i = .int .i64 j) (fun i => s.size - (intOf i).toNat)
  case atStart => exact ⟨0, Nat.zero_le _, rfl⟩
  case round =>
    obtain ⟨j, hj, rfl⟩ := hrel
    by_cases hlt : j < k
    · have hjs : 1 + j < s.size := by omega
      go_wp2_with fail
      refine (isDigit_c s[1 + j] w2).mono ?_
      rintro e w3 ⟨rfl, hw⟩
      subst hw
      rw [HD.out j hlt]
      go_wp2_with fail
      go_round
      case rel => exact ⟨j + 1, by omega, by go_num⟩
      case measure => simp [intOf]; omega
    · obtain rfl : j = k := by omega
      by_cases hjs : 1 + j < s.size
      · have hn := HE.out hjs
        have HN := hide hn
        clear hn
        go_wp2_with fail
        refine (isDigit_c s[1 + j] w2).mono ?_
        rintro e w3 ⟨rfl, hw⟩
        subst hw
        rw [HN.out]
        go_wp2_with fail
        go_loop [7, 8, 9] (fun wv pv iv => ∃ i : Nat, i ≤ 9 ∧ iv = .int .i64 i ∧ wv = .int .i64 (Ws (L9 s j) i) ∧ pv = .int .i64 (pl i)) (fun _ _ iv => 9 - (intOf iv).toNat)
        case atStart => exact ⟨0, by omega, rfl, by simp [Ws, hv], rfl⟩
        case round =>
          obtain ⟨i, hi, rfl, rfl, rfl⟩ := hrel
          by_cases hi9 : i < 9
          · obtain ⟨p1, p2, p3, p4, p5⟩ := pl_step i hi9
            have HP1 := hide p1
            clear p1 p4 p5
            obtain ⟨b1, b2⟩ := Ws_bound (L9 s j) i (L9_len s j) HL.out (by omega)
            have HW := hide (Ws_step (L9 s j) i (L9_len s j) hi9)
            by_cases hij : i < j
            · have his : 1 + i < s.size := by omega
              obtain ⟨d1, d2⟩ := (isD_iff _).1 (HD.out i hij)
              have HW' : Hid (Ws (L9 s j) (i + 1) = wrap64 (Ws (L9 s j) i + wrap64 (((s[1 + i].toNat : Int) - 48) * pl i))) := hide (by
                rw [HW.out, L9_at s j i hk hi9 hij, Ws_wrap _ _ _ b1 b2 (by omega) (by omega) p2 p3])
              clear HW
              generalize Ws (L9 s j) i = W at *
              generalize pl i = P at *
              go_wp2_with fail
              go_round
              case rel => exact ⟨i + 1, by omega, by go_num, by rw [HW'.out], by rw [← HP1.out]⟩
              case measure => simp [intOf]; omega
            · have HW' : Hid (Ws (L9 s j) (i + 1) = Ws (L9 s j) i) := hide (by
                rw [HW.out, L9_at0 s j i hi9 (by omega)]; simp)
              clear HW
              generalize Ws (L9 s j) i = W at *
              generalize pl i = P at *
              go_wp2_with fail
              go_round
              case rel => exact ⟨i + 1, by omega, by go_num, by rw [HW'.out], by rw [← HP1.out]⟩
              case measure => simp [intOf]; omega
          · obtain rfl : i = 9 := by omega
            have HW : Hid (Ws (L9 s j) 9 = v) := hide (by rw [HV0.out]; unfold Ws; rw [List.take_of_length_le (by rw [L9_len]; omega)]; simp)
            rw [HW.out]
            clear HW HV0
            go_wp2_with fail
            go_ret
            refine ⟨by simp, HG.out⟩
      · clear HE
        go_wp2_with fail
        go_loop [7, 8, 9] (fun wv pv iv => ∃ i : Nat, i ≤ 9 ∧ iv = .int .i64 i ∧ wv = .int .i64 (Ws (L9 s j) i) ∧ pv = .int .i64 (pl i)) (fun _ _ iv => 9 - (intOf iv).toNat)
        case atStart => exact ⟨0, by omega, rfl, by simp [Ws, hv], rfl⟩
        case round =>
          obtain ⟨i, hi, rfl, rfl, rfl⟩ := hrel
          by_cases hi9 : i < 9
          · obtain ⟨p1, p2, p3, p4, p5⟩ := pl_step i hi9
            have HP1 := hide p1
            clear p1 p4 p5
            obtain ⟨b1, b2⟩ := Ws_bound (L9 s j) i (L9_len s j) HL.out (by omega)
            have HW := hide (Ws_step (L9 s j) i (L9_len s j) hi9)
            by_cases hij : i < j
            · have his : 1 + i < s.size := by omega
              obtain ⟨d1, d2⟩ := (isD_iff _).1 (HD.out i hij)
              have HW' : Hid (Ws (L9 s j) (i + 1) = wrap64 (Ws (L9 s j) i + wrap64 (((s[1 + i].toNat : Int) - 48) * pl i))) := hide (by
                rw [HW.out, L9_at s j i hk hi9 hij, Ws_wrap _ _ _ b1 b2 (by omega) (by omega) p2 p3])
              clear HW
              generalize Ws (L9 s j) i = W at *
              generalize pl i = P at *
              go_wp2_with fail
              go_round
              case rel => exact ⟨i + 1, by omega, by go_num, by rw [HW'.out], by rw [← HP1.out]⟩
              case measure => simp [intOf]; omega
            · have HW' : Hid (Ws (L9 s j) (i + 1) = Ws (L9 s j) i) := hide (by
                rw [HW.out, L9_at0 s j i hi9 (by omega)]; simp)
              clear HW
              generalize Ws (L9 s j) i = W at *
              generalize pl i = P at *
              go_wp2_with fail
              go_round
              case rel => exact ⟨i + 1, by omega, by go_num, by rw [HW'.out], by rw [← HP1.out]⟩
              case measure => simp [intOf]; omega
          · obtain rfl : i = 9 := by omega
            have HW : Hid (Ws (L9 s j) 9 = v) := hide (by rw [HV0.out]; unfold Ws; rw [List.take_of_length_le (by rw [L9_len]; omega)]; simp)
            rw [HW.out]
            clear HW HV0
            go_wp2_with fail
            go_ret
            refine ⟨by simp, HG.out⟩

set_option maxHeartbeats 800000 in
set_option maxRecDepth 100000 in
theorem fm_no (s : ByteArray) (w : World) (hs : s.size ≤ 1048576) (h0 : 0 < s.size) (h : (s[0].toNat : Int) ≠ 46) :
    Calls Try.prog 5 #[.string s] w fun e w' => e = .returned (.bool true) ∧ Grown w w' := by
  have HM : Hid (s.size ≤ maxLen) := hide (by unfold maxLen; omega)
  have HF : Hid (∀ w, Calls Try.prog 12 #[.string s] w fun e w' => e = .returned (.tuple #[.int .i64 0, .string s, .bool true]) ∧ ∃ q, w' = w.drewN q) :=
    hide (fun w => zz_frac _ _ _ _ w ((frac_no s w h0 h).mono fun e w' ⟨h1, h2⟩ => ⟨h1, 0, h2⟩))
  have hb : decide (s.size ≤ 1048576) = true := by simp [hs]
  have e3 : ((s[0].toNat : Int) != 46) = true := by simpa using h
  have e4 : ((s.size : Int) == 0) = false := beq_eq_false_iff_ne.2 (by omega)
  go_enter Try.func5, Try.ntmps5
  go_wp2_with fail
  refine (bytes11_c s w HM.out).mono ?_
  rintro e w1 ⟨rfl, hw⟩
  subst hw
  rw [hb]
  go_wp2_with fail
  refine (HF.out w1).mono ?_
  rintro e w2 ⟨rfl, q, hw⟩
  have HG : Hid (Grown w1 w2) := hide (by subst hw; exact grown_drewN (Grown.refl _) q)
  clear hw HF
  go_wp2_with fail
  go_ret
  exact ⟨by simp, HG.out⟩

set_option maxHeartbeats 800000 in
set_option maxRecDepth 100000 in
theorem fm_nil (w : World) : Calls Try.prog 5 #[.string ⟨#[]⟩] w fun e w' => e = .returned (.bool true) ∧ Grown w w' := by
  have HF : Hid (∀ w, Calls Try.prog 12 #[.string ⟨#[]⟩] w fun e w' => e = .returned (.tuple #[.int .i64 0, .string ⟨#[]⟩, .bool true]) ∧ ∃ q, w' = w.drewN q) :=
    hide (fun w => zz_frac _ _ _ _ w ((frac_nil w).mono fun e w' ⟨h1, h2⟩ => ⟨h1, 0, h2⟩))
  have hb : decide ((ByteArray.mk #[]).size ≤ 1048576) = true := by decide
  go_enter Try.func5, Try.ntmps5
  go_wp2_with fail
  refine (bytes11_c ⟨#[]⟩ w (by decide)).mono ?_
  rintro e w1 ⟨rfl, hw⟩
  subst hw
  rw [hb]
  go_wp2_with fail
  refine (HF.out w1).mono ?_
  rintro e w2 ⟨rfl, q, hw⟩
  have HG : Hid (Grown w1 w2) := hide (by subst hw; exact grown_drewN (Grown.refl _) q)
  clear hw HF
  go_wp2_with fail
  go_ret
  exact ⟨by simp, HG.out⟩

set_option maxHeartbeats 800000 in
theorem fm_any (s : ByteArray) (w : World) (hm : s.size ≤ maxLen) :
    Calls Try.prog 5 #[.string s] w fun e w' => e = .returned (.bool true) ∧ Grown w w' := by
  by_cases hs : s.size ≤ 1048576
  · by_cases h0 : 0 < s.size
    · by_cases h : (s[0].toNat : Int) = 46
      · obtain ⟨k, hk, hd, he⟩ := count_c s h0
        exact fm_yes s k w hs h0 h hk hd he
      · exact fm_no s w hs h0 h
    · obtain rfl : s = ⟨#[]⟩ := by
        obtain ⟨⟨l⟩⟩ := s
        have : l.length = 0 := by simp [ByteArray.size] at h0; simp [h0]
        rw [List.eq_nil_of_length_eq_zero this]
      exact fm_nil w
  · have HM : Hid (s.size ≤ maxLen) := hm
    clear hm
    have hb : decide (s.size ≤ 1048576) = false := decide_eq_false hs
    go_enter Try.func5, Try.ntmps5
    go_wp2_with fail
    refine (bytes11_c s w HM.out).mono ?_
    rintro e w1 ⟨rfl, hw⟩
    subst hw
    rw [hb]
    go_wp2
    go_ret
    exact ⟨rfl, Grown.refl _⟩

end Go.Proofs.Qxb6600965a
