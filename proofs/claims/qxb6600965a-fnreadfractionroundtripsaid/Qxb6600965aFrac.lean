import Derived.Test.Qxb6600965aDec
namespace Go.Proofs.Qxb6600965a
open Go.RowKit

theorem hv_bound (l : List UInt8) (h : ∀ c ∈ l, isD c = true) : 0 ≤ hv l ∧ hv l < 10 ^ l.length := by
  induction l with
  | nil => simp [hv]
  | cons c l ih =>
    have h1 := ih (fun x hx => h x (List.mem_cons_of_mem _ hx))
    obtain ⟨d1, d2⟩ := (isD_iff c).1 (h c List.mem_cons_self)
    rw [hv_cons, List.length_cons, Int.pow_succ]
    generalize (10 : Int) ^ l.length = P at *
    obtain ⟨e, he⟩ : ∃ e, (c.toNat : Int) - 48 = e := ⟨_, rfl⟩
    rw [he]
    have h2 : 0 ≤ e * P := Int.mul_nonneg (by omega) (by omega)
    have h3 : e * P ≤ 9 * P := Int.mul_le_mul_of_nonneg_right (by omega) (by omega)
    omega

/-- The nine digits that are read. -/
def L9 (s : ByteArray) (k : Nat) : List UInt8 := (((s.data.toList.drop 1).take k) ++ List.replicate 9 48).take 9

theorem L9_len (s : ByteArray) (k : Nat) : (L9 s k).length = 9 := by unfold L9; simp

theorem L9_isD (s : ByteArray) (k : Nat) (hk : 1 + k ≤ s.size) (hd : ∀ (i : Nat) (h : i < k), isD (s[1 + i]'(by omega)) = true) : ∀ c ∈ L9 s k, isD c = true := by
  intro c hc
  have := List.mem_of_mem_take hc
  rcases List.mem_append.1 this with h | h
  · obtain ⟨i, hi, rfl⟩ := List.getElem_of_mem h
    have hi' : i < k := by simp at hi; omega
    rw [List.getElem_take, List.getElem_drop]
    exact hd i hi'
  · obtain ⟨_, rfl⟩ := List.mem_replicate.1 h
    decide

theorem L9_str (s : ByteArray) (k : Nat) : (s.extract 1 (1 + k) ++ ByteArray.mk #[48, 48, 48, 48, 48, 48, 48, 48, 48]).extract 0 9 = ByteArray.mk (L9 s k).toArray := by
  obtain ⟨⟨l⟩⟩ := s
  rw [ByteArray.extract_mk]
  rw [show ByteArray.mk #[48, 48, 48, 48, 48, 48, 48, 48, 48] = ByteArray.mk (List.replicate 9 (48 : UInt8)).toArray from rfl, ByteArray.mk_append_mk, ByteArray.extract_mk]
  rw [show 1 + k - 1 = k by omega]
  rfl

theorem ne_nil (s : ByteArray) (h0 : 0 < s.size) : s.toList ≠ [] := by
  rw [ByteArray.toList_eq]
  intro e
  have : s.data.toList.length = s.size := by simp
  rw [e] at this
  simp at this
  omega

theorem ne_empty (s : ByteArray) (h0 : 0 < s.size) : s.toList.isEmpty = false := by
  rw [List.isEmpty_eq_false_iff]; exact ne_nil s h0

set_option maxHeartbeats 800000 in
theorem frac_no (s : ByteArray) (w : World) (h0 : 0 < s.size) (h : (s[0].toNat : Int) ≠ 46) :
    Calls Try.prog 16 #[.string s] w fun e w' => e = .returned (.tuple #[.int .i64 0, .string s, .bool true]) ∧ w' = w := by
  have e1 := ne_nil s h0
  have e2 := ne_empty s h0
  have e3 : ((s[0].toNat : Int) != 46) = true := by simpa using h
  go_enter Try.func16, Try.ntmps16
  go_wp2
  exact bodyPost_ret (v := .tuple #[.int .i64 0, .string s, .bool true]) (by simp [results, Try.results16, go_sem]) rfl ⟨rfl, rfl⟩

theorem frac_nil (w : World) :
    Calls Try.prog 16 #[.string ⟨#[]⟩] w fun e w' => e = .returned (.tuple #[.int .i64 0, .string ⟨#[]⟩, .bool true]) ∧ w' = w := by
  go_enter Try.func16, Try.ntmps16
  go_wp2
  exact bodyPost_ret (v := .tuple #[.int .i64 0, .string ⟨#[]⟩, .bool true]) (by simp [results, Try.results16, go_sem]) rfl ⟨rfl, rfl⟩

set_option maxHeartbeats 800000 in
set_option maxRecDepth 100000 in
theorem frac_yes (s : ByteArray) (k : Nat) (w : World) (hs : s.size ≤ 5000000) (h0 : 0 < s.size) (h : (s[0].toNat : Int) = 46) (hk : 1 + k ≤ s.size)
    (hd : ∀ (i : Nat) (h : i < k), isD (s[1 + i]'(by omega)) = true) (he : ∀ h : 1 + k < s.size, isD s[1 + k] = false) :
    Calls Try.prog 16 #[.string s] w fun e w' => e = .returned (.tuple #[.int .i64 (hv (L9 s k)), .string (s.extract (1 + k) s.size), .bool (decide (0 < k))]) ∧ ∃ q, w' = w.drewN q := by
  have HN : Hid (∀ w, Calls Try.prog 15 #[.string (ByteArray.mk (L9 s k).toArray), .int .i64 0, .int .i64 999999999] w fun e w' => e = .returned (.tuple #[.int .i64 (hv (L9 s k)), .bool true]) ∧ w' = w) := hide (fun w => by
    have h1 := L9_isD s k hk hd
    have h2 := hv_bound _ h1
    rw [L9_len] at h2
    have h3 := number_list (L9 s k) 0 999999999 w (by rw [L9_len]; omega) h1
    have e : wrap64 (hv (L9 s k)) = hv (L9 s k) := by unfold wrap64; omega
    rw [e, decide_eq_true (by omega : 0 ≤ hv (L9 s k)), decide_eq_true (by omega : hv (L9 s k) ≤ 999999999)] at h3
    exact h3)
  have HD : Hid (∀ (c : Nat) (h1 : 1 ≤ c) (h : c < 1 + k), isD (s[c]'(by omega)) = true) := hide (fun c h1 h => by
    have := hd (c - 1) (by omega)
    simpa [show 1 + (c - 1) = c by omega] using this)
  have HE : Hid (∀ (c : Nat) (h1 : c = 1 + k) (h : c < s.size), isD (s[c]'(by omega)) = false) := hide (fun c h1 h => by subst h1; exact he h)
  clear hd he
  have e1 := ne_nil s h0
  have e2 := ne_empty s h0
  have e3 : ((s[0].toNat : Int) != 46) = false := by simpa using h
  go_enter Try.func16, Try.ntmps16
  go_wp2
  clear e1 e2 e3
  go_loop [5] (fun i => ∃ c : Nat, 1 ≤ c ∧ c ≤ 1 + k ∧ i = .int .i64 c) (fun i => s.size - (intOf i).toNat)
  case atStart => exact ⟨1, by omega, by omega, rfl⟩
  case round =>
    obtain ⟨c, hc1, hc2, rfl⟩ := hrel
    by_cases hlt : c < 1 + k
    · obtain ⟨d1, d2⟩ := (isD_iff _).1 (HD.out c hc1 hlt)
      have hcs : c < s.size := by omega
      go_wp2
      go_round
      case rel => exact ⟨c + 1, by omega, by omega, by go_num⟩
      case measure => simp [intOf]; omega
    · have HCK : Hid (c = 1 + k) := hide (by omega)
      have HN' : Hid (∀ w, Calls Try.prog 15 #[.string ((s.extract 1 c ++ ByteArray.mk #[48, 48, 48, 48, 48, 48, 48, 48, 48]).extract 0 9), .int .i64 0, .int .i64 999999999] w fun e w' => e = .returned (.tuple #[.int .i64 (hv (L9 s k)), .bool true]) ∧ w' = w) := hide (by
        rw [HCK.out, L9_str]; exact HN.out)
      have HX : Hid (s.extract c s.size = s.extract (1 + k) s.size) := hide (by rw [HCK.out])
      have HB : Hid (decide ((1 : Int) < (c : Int)) = decide (0 < k)) := hide (by rw [decide_eq_decide]; have := HCK.out; omega)
      clear HN
      by_cases hcs : c < s.size
      · have hn := HE.out c HCK.out hcs
        have hn' : ¬ (48 ≤ (s[c].toNat : Int) ∧ (s[c].toNat : Int) ≤ 57) := fun h => by rw [(isD_iff _).2 h] at hn; cases hn
        clear hn HE HD
        by_cases h1 : (s[c].toNat : Int) < 48
        · clear hn'
          go_wp2_with fail
          refine (HN'.out w).mono ?_
          rintro e w3 ⟨rfl, hw⟩
          subst hw
          go_wp2_with fail
          go_quiet (fail)
          go_wp2_with fail
          exact bodyPost_ret (v := .tuple #[.int .i64 (hv (L9 s k)), .string (s.extract c s.size), .bool (decide ((1 : Int) < (c : Int)))]) (by simp [results, Try.results16, go_sem]) rfl ⟨by rw [HX.out, HB.out], _, rfl⟩
        · have h2 : 57 < (s[c].toNat : Int) := by omega
          clear hn'
          go_wp2_with fail
          refine (HN'.out w).mono ?_
          rintro e w3 ⟨rfl, hw⟩
          subst hw
          go_wp2_with fail
          go_quiet (fail)
          go_wp2_with fail
          exact bodyPost_ret (v := .tuple #[.int .i64 (hv (L9 s k)), .string (s.extract c s.size), .bool (decide ((1 : Int) < (c : Int)))]) (by simp [results, Try.results16, go_sem]) rfl ⟨by rw [HX.out, HB.out], _, rfl⟩
      · clear HE HD
        go_wp2_with fail
        refine (HN'.out w).mono ?_
        rintro e w3 ⟨rfl, hw⟩
        subst hw
        go_wp2_with fail
        go_quiet (fail)
        go_wp2_with fail
        exact bodyPost_ret (v := .tuple #[.int .i64 (hv (L9 s k)), .string (s.extract c s.size), .bool (decide ((1 : Int) < (c : Int)))]) (by simp [results, Try.results16, go_sem]) rfl ⟨by rw [HX.out, HB.out], _, rfl⟩

theorem zz_frac (s r : ByteArray) (v : Int) (t : Bool) (w : World)
    (h : Calls Try.prog 16 #[.string s] w fun e w' => e = .returned (.tuple #[.int .i64 v, .string r, .bool t]) ∧ ∃ q, w' = w.drewN q) :
    Calls Try.prog 12 #[.string s] w fun e w' => e = .returned (.tuple #[.int .i64 v, .string r, .bool t]) ∧ ∃ q, w' = w.drewN q := by
  go_enter Try.func12, Try.ntmps12
  go_wp2_with fail
  refine h.mono ?_
  rintro e w1 ⟨rfl, q, hw⟩
  subst hw
  go_wp2
  exact bodyPost_ret (v := .tuple #[.int .i64 v, .string r, .bool t]) (by simp [results, Try.results12, go_sem]) rfl ⟨rfl, q, rfl⟩

theorem grown_drewN {w w' : World} (h : Grown w w') (q : Nat) : Grown w (w'.drewN q) := h

theorem bytes11_c (s : ByteArray) (w : World) (hs : s.size ≤ maxLen) :
    Calls Try.prog 11 #[.string s] w fun e w' => e = .returned (.bool (decide (s.size ≤ 1048576))) ∧ w' = w := by
  unfold maxLen at hs
  by_cases h : s.size ≤ 1048576
  · go_enter Try.func11, Try.ntmps11
    go_wp2
    go_ret
    exact ⟨by simp [h], rfl⟩
  · go_enter Try.func11, Try.ntmps11
    go_wp2
    go_ret
    refine ⟨?_, rfl⟩
    rw [decide_eq_false (by omega : ¬ s.size ≤ 1048576)]; simp

/-- The count of digits from place 1 on. -/
theorem count_c (s : ByteArray) (h0 : 0 < s.size) : ∃ k : Nat, ∃ hk : 1 + k ≤ s.size, (∀ (i : Nat) (h : i < k), isD (s[1 + i]'(by omega)) = true) ∧ (∀ h : 1 + k < s.size, isD s[1 + k] = false) := by
  have H : ∀ n, n + 1 ≤ s.size → (∀ (i : Nat) (h : i < n) (h' : 1 + i < s.size), isD (s[1 + i]) = true) ∨
      ∃ k : Nat, ∃ hk : 1 + k ≤ s.size, (∀ (i : Nat) (h : i < k), isD (s[1 + i]'(by omega)) = true) ∧ (∀ h : 1 + k < s.size, isD s[1 + k] = false) := by
    intro n
    induction n with
    | zero => exact fun _ => .inl (fun i h => absurd h (Nat.not_lt_zero _))
    | succ n ih =>
      intro hn
      rcases ih (by omega) with h | h
      · cases hb : isD (s[1 + n]'(by omega)) with
        | true =>
          refine .inl fun i hi hi' => ?_
          by_cases e : i = n
          · subst e; exact hb
          · exact h i (by omega) hi'
        | false => exact .inr ⟨n, by omega, fun i hi => h i hi (by omega), fun _ => hb⟩
      · exact .inr h
  rcases H (s.size - 1) (by omega) with h | h
  · exact ⟨s.size - 1, by omega, fun i hi => h i hi (by omega), fun h => absurd h (by omega)⟩
  · exact h
end Go.Proofs.Qxb6600965a
