import Derived.Test.Qxb6600965aRows
import Derived.WalkKit
import Derived.WalkSpells
import Derived.WalkLawsBesides
import Derived.Deep.RegionLaw
import Derived.Deep.QuietTactic
import Derived.Deep.LoopGhost
import Derived.BigQuiet
import Derived.KernelRfl
namespace Go.Proofs.Qxb6600965a
open Go.RowKit

theorem hide {p : Prop} (h : p) : Hid p := h

/-- A decimal digit. -/
def isD (c : UInt8) : Bool := decide (48 ≤ (c.toNat : Int)) && decide ((c.toNat : Int) ≤ 57)

theorem isD_iff (c : UInt8) : isD c = true ↔ 48 ≤ (c.toNat : Int) ∧ (c.toNat : Int) ≤ 57 := by simp [isD]

/-- The decimal value of a row of digits, unbounded. -/
def hv (l : List UInt8) : Int := l.foldl (fun n c => n * 10 + ((c.toNat : Int) - 48)) 0

theorem hv_nil : hv [] = 0 := rfl
theorem hv_snoc (l : List UInt8) (c : UInt8) : hv (l ++ [c]) = hv l * 10 + ((c.toNat : Int) - 48) := by simp [hv]

theorem wrap_step (a d : Int) : wrap64 (wrap64 (wrap64 a * 10) + d) = wrap64 (a * 10 + d) := by unfold wrap64; omega
theorem wrap_step' (a d : Int) : wrap64 (wrap64 a * 10 + d) = wrap64 (a * 10 + d) := by unfold wrap64; omega

theorem take_snoc (s : ByteArray) (k : Nat) (h : k < s.size) : s.data.toList.take (k + 1) = s.data.toList.take k ++ [s[k]] := by
  rw [List.take_succ_eq_append_getElem (by simpa using h)]; rfl

theorem isDigit_c (c : UInt8) (w : World) :
    Calls Try.prog 9 #[.int .u8 c.toNat] w fun e w' => e = .returned (.bool (isD c)) ∧ w' = w := by
  unfold isD
  by_cases h1 : 48 ≤ (c.toNat : Int)
  · by_cases h2 : (c.toNat : Int) ≤ 57
    · go_enter Try.func9, Try.ntmps9
      go_wp2
      go_ret
      exact ⟨by simp [h1, h2], rfl⟩
    · go_enter Try.func9, Try.ntmps9
      go_wp2
      go_ret
      refine ⟨?_, rfl⟩
      rw [decide_eq_false (by omega : ¬ (c.toNat : Int) ≤ 57)]; simp
  · go_enter Try.func9, Try.ntmps9
    go_wp2
    go_ret
    refine ⟨?_, rfl⟩
    rw [decide_eq_false (by omega : ¬ 48 ≤ (c.toNat : Int))]; simp

set_option maxHeartbeats 800000 in
theorem number_ok (s : ByteArray) (a b : Int) (w : World) (hs : s.size ≤ maxLen) (hd : ∀ (k : Nat) (h : k < s.size), isD s[k] = true) :
    Calls Try.prog 15 #[.string s, .int .i64 a, .int .i64 b] w fun e w' =>
      e = .returned (.tuple #[.int .i64 (wrap64 (hv s.data.toList)), .bool (decide (a ≤ wrap64 (hv s.data.toList)) && decide (wrap64 (hv s.data.toList) ≤ b))]) ∧ w' = w := by
  unfold maxLen at hs
  go_enter Try.func15, Try.ntmps15
  go_wp2
  go_loop [8, 12] (fun n i => ∃ k : Nat, k ≤ s.size ∧ i = .int .i64 k ∧ n = .int .i64 (wrap64 (hv (s.data.toList.take k)))) (fun _ i => s.size - (intOf i).toNat)
  case atStart => exact ⟨0, Nat.zero_le _, rfl, by simp [hv, wrap64]⟩
  case round =>
    obtain ⟨k, hk, rfl, rfl⟩ := hrel
    by_cases hlt : k < s.size
    · obtain ⟨d1, d2⟩ := (isD_iff _).1 (hd k hlt)
      have HS : Hid (hv (s.data.toList.take (k + 1)) = hv (s.data.toList.take k) * 10 + ((s[k].toNat : Int) - 48)) := hide (by rw [take_snoc s k hlt, hv_snoc])
      clear hd
      generalize hv (s.data.toList.take k) = H at *
      go_wp2
      all_goals
        go_round
        case rel => exact ⟨k + 1, by omega, by go_num, by rw [HS.out, ← wrap_step]⟩
        case measure => simp [intOf]; omega
    · clear hd
      have hall : s.data.toList.take k = s.data.toList := List.take_of_length_le (by simp; omega)
      have HV : Hid (wrap64 (hv (s.data.toList.take k)) = wrap64 (hv s.data.toList)) := hide (by rw [hall])
      clear hall
      generalize wrap64 (hv (s.data.toList.take k)) = v at *
      by_cases h1 : a ≤ v
      · by_cases h2 : v ≤ b
        · go_wp2
          exact bodyPost_ret (v := .tuple #[.int .i64 v, .bool true]) (by simp [results, Try.results15, go_sem]) rfl ⟨by rw [← HV.out]; simp [h1, h2], rfl⟩
        · go_wp2
          exact bodyPost_ret (v := .tuple #[.int .i64 v, .bool false]) (by simp [results, Try.results15, go_sem]) rfl ⟨by rw [← HV.out, decide_eq_false (by omega : ¬ v ≤ b), Bool.and_false], rfl⟩
      · go_wp2
        exact bodyPost_ret (v := .tuple #[.int .i64 v, .bool false]) (by simp [results, Try.results15, go_sem]) rfl ⟨by rw [← HV.out, decide_eq_false (by omega : ¬ a ≤ v), Bool.false_and], rfl⟩

set_option maxHeartbeats 800000 in
/-- j: the first byte that is no digit. -/
theorem number_no (s : ByteArray) (a b : Int) (w : World) (hs : s.size ≤ maxLen) (j : Nat) (hj : j < s.size) (hn : isD s[j] = false) (hd : ∀ (k : Nat) (h : k < j), isD (s[k]'(by omega)) = true) :
    Calls Try.prog 15 #[.string s, .int .i64 a, .int .i64 b] w fun e w' =>
      e = .returned (.tuple #[.int .i64 0, .bool false]) ∧ w' = w := by
  unfold maxLen at hs
  go_enter Try.func15, Try.ntmps15
  go_wp2
  go_loop [8, 12] (fun n i => ∃ k : Nat, ∃ v : Int, k ≤ j ∧ i = .int .i64 k ∧ n = .int .i64 v) (fun _ i => s.size - (intOf i).toNat)
  case atStart => exact ⟨0, 0, Nat.zero_le _, rfl, rfl⟩
  case round =>
    obtain ⟨k, v, hk, rfl, rfl⟩ := hrel
    have hlt : k < s.size := by omega
    by_cases hkj : k < j
    · obtain ⟨d1, d2⟩ := (isD_iff _).1 (hd k hkj)
      clear hd hn
      go_wp2
      all_goals
        go_round
        case rel => exact ⟨k + 1, _, by omega, by go_num, rfl⟩
        case measure => simp [intOf]; omega
    · obtain rfl : k = j := by omega
      have hn' : ¬ (48 ≤ (s[k].toNat : Int) ∧ (s[k].toNat : Int) ≤ 57) := fun h => by rw [(isD_iff _).2 h] at hn; cases hn
      clear hn hd
      by_cases h1 : (s[k].toNat : Int) < 48
      · go_wp2
        exact bodyPost_ret (v := .tuple #[.int .i64 0, .bool false]) (by simp [results, Try.results15, go_sem]) rfl ⟨rfl, rfl⟩
      · have h2 : 57 < (s[k].toNat : Int) := by omega
        go_wp2
        exact bodyPost_ret (v := .tuple #[.int .i64 0, .bool false]) (by simp [results, Try.results15, go_sem]) rfl ⟨rfl, rfl⟩

/-- Either all of the first n bytes are digits, or there is a first one that is none. -/
theorem first_bad (s : ByteArray) (n : Nat) (hn : n ≤ s.size) :
    (∀ (k : Nat) (h : k < n), isD (s[k]'(by omega)) = true) ∨ ∃ (j : Nat) (hj : j < n), isD (s[j]'(by omega)) = false ∧ ∀ (k : Nat) (h : k < j), isD (s[k]'(by omega)) = true := by
  induction n with
  | zero => exact .inl (fun k h => absurd h (Nat.not_lt_zero _))
  | succ n ih =>
    rcases ih (by omega) with h | ⟨j, hj, h⟩
    · cases hb : isD (s[n]'(by omega)) with
      | true =>
        refine .inl fun k hk => ?_
        by_cases e : k = n
        · subst e; exact hb
        · exact h k (by omega)
      | false => exact .inr ⟨n, by omega, hb, h⟩
    · exact .inr ⟨j, by omega, h⟩

theorem zz_num (s : ByteArray) (a b v : Int) (t : Bool) (w : World)
    (h : Calls Try.prog 15 #[.string s, .int .i64 a, .int .i64 b] w fun e w' => e = .returned (.tuple #[.int .i64 v, .bool t]) ∧ w' = w) :
    Calls Try.prog 8 #[.string s, .int .i64 a, .int .i64 b] w fun e w' => e = .returned (.tuple #[.int .i64 v, .bool t]) ∧ w' = w := by
  go_enter Try.func8, Try.ntmps8
  go_wp2_with fail
  refine h.mono ?_
  rintro e w1 ⟨rfl, hw⟩
  subst hw
  go_wp2
  exact bodyPost_ret (v := .tuple #[.int .i64 v, .bool t]) (by simp [results, Try.results8, go_sem]) rfl ⟨rfl, rfl⟩

end Go.Proofs.Qxb6600965a
