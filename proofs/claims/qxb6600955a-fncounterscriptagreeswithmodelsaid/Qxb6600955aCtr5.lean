import Derived.Test.Qxb6600955aCtr4
namespace Go.Proofs.Qxb6600955a
open Go.RowKit

theorem idx_mod {n f i : Nat} (hf : f < n) (hi : i < n) : (f + i) % n = idx n f i := by
  unfold idx
  split
  · rw [Nat.mod_eq_sub_mod (by omega), Nat.mod_eq_of_lt (by omega)]
  · rw [Nat.mod_eq_of_lt (by omega)]

set_option maxRecDepth 100000 in
theorem ringWithin_c (b off c f r : Nat) (ss : List Int) (lo hi : Int) (w : World) (hc : ∀ i, i < ss.length → w.cell? ⟨b, off + i, none⟩ = some (.int .i64 (ss.getD i 0))) (hf : f < ss.length) (hr : r ≤ ss.length) (hn : ss.length ≤ 5000000) :
    Calls Try.prog 20 #[.slice (some ⟨b, off, none⟩) ss.length c, .int .i64 f, .int .i64 r, .int .i64 lo, .int .i64 hi] w (SaysOnly (∀ i, i < r → lo ≤ rget ss f i ∧ rget ss f i ≤ hi) w) := by
  obtain ⟨n, HN⟩ : ∃ n, Hid (ss.length = n) := ⟨_, rfl⟩
  rw [HN.out] at hf hr hn ⊢
  have HC := hide hc
  clear hc
  go_enter Try.func20, Try.ntmps20
  go_wp2_with fail
  go_loopg [12, 13] r (fun g iv sv wr => ∃ i : Nat, i + g = r ∧ iv = .int .i64 i ∧ w = wr ∧ Hid (∀ j, j < i → lo ≤ rget ss f j ∧ rget ss f j ≤ hi))
  case atStart => exact ⟨0, by omega, rfl, rfl, fun j hj => by omega⟩
  case round =>
    obtain ⟨i, hig, rfl, rfl, HA⟩ := hrel
    by_cases hlt : i < r
    · have hj : (f + i) % n = idx n f i := idx_mod hf (by omega)
      have hjl : idx n f i < n := idx_lt hf (by omega)
      have hcell := HC.out (idx n f i) (by rw [HN.out]; exact hjl)
      have hmod : ((f : Int) + (i : Int)) % (n : Int) = ((idx n f i : Nat) : Int) := by rw [← hj]; simp
      have HG : Hid (rget ss f i = ss.getD (idx n f i) 0) := by
        show rget ss f i = ss.getD (idx n f i) 0
        unfold rget; rw [HN.out]
      generalize idx n f i = j at *
      generalize ss.getD j 0 = s at *
      clear hj
      by_cases h1 : lo ≤ s
      · by_cases h2 : s ≤ hi
        · go_wp2_with fail
          go_roundg (gk - 1)
          case measure => omega
          case rel =>
            refine ⟨i + 1, by omega, by go_num, rfl, fun j' hj' => ?_⟩
            by_cases e : j' = i
            · rw [e, HG.out]; exact ⟨h1, h2⟩
            · exact HA.out j' (by omega)
        · go_wp2_with fail
          go_ret
          exact SaysOnly.mk false (by simp) (by simp) rfl
      · go_wp2_with fail
        go_ret
        exact SaysOnly.mk false (by simp) (by simp) rfl
    · go_wp2_with fail
      go_ret
      have e : i = r := by omega
      subst e
      exact SaysOnly.mk true (by simp) (fun _ => HA.out) rfl

/-- An empty ring holds no run. -/
theorem ringWithin_none (a : Option Addr) (n c : Nat) (f lo hi : Int) (p : Prop) (hp : p) (w : World) :
    Calls Try.prog 20 #[.slice a n c, .int .i64 f, .int .i64 0, .int .i64 lo, .int .i64 hi] w (SaysOnly p w) := by
  go_enter Try.func20, Try.ntmps20
  go_wp2_with fail
  refine wp_loop_once ?_
  go_wp2_with fail
  go_ret
  exact SaysOnly.mk true (by simp) (fun _ => hp) rfl

theorem set_take (ss : List Int) (n k : Nat) (hk : k < n) (hn : ss.length = n) :
    (((ss.take k).map (Value.int .i64) ++ List.replicate (n - k) (Value.int .i64 0)).toArray.setIfInBounds k (.int .i64 (ss.getD k 0))) = ((ss.take (k + 1)).map (Value.int .i64) ++ List.replicate (n - (k + 1)) (Value.int .i64 0)).toArray := by
  apply Array.ext'
  simp only [Array.toList_setIfInBounds]
  have hl : ((ss.take k).map (Value.int .i64)).length = k := by simp; omega
  rw [show n - k = (n - (k + 1)) + 1 from by omega, List.replicate_succ, List.set_append_right _ _ (by omega), hl, Nat.sub_self, List.set_cons_zero]
  have e : ss.getD k 0 = ss[k] := by simp [List.getD, hn, hk]
  rw [List.take_succ_eq_append_getElem (by omega), e, List.map_append, List.append_assoc]
  rfl

set_option maxRecDepth 100000 in
set_option maxHeartbeats 1000000 in
theorem cloneInts_c (b off c : Nat) (ss : List Int) (w : World) (hc : ∀ i, i < ss.length → w.cell? ⟨b, off + i, none⟩ = some (.int .i64 (ss.getD i 0))) (hn : ss.length ≤ 5000000) (hbl : b < w.heap.size) :
    Calls Try.prog 21 #[.slice (some ⟨b, off, none⟩) ss.length c] w fun e w' => e = .returned (.slice (some ⟨w.heap.size, 0, none⟩) ss.length ss.length) ∧
      Blk w' w.heap.size (ss.map (Value.int .i64)).toArray 3 ∧ Kp [] w w' := by
  have hnil := fun (w : World) (a : Option Addr) (n c : Nat) => Lib.run_eql_slice_nil (P := Try.prog) w 27 3 a n c 0 0 Try.underlying27
  have hmk := mkInts (P := Try.prog) (t := 27) (e := 3) Try.underlying27 Try.infoInt ss.length (by omega) (by omega)
  obtain ⟨n, HN⟩ : ∃ n, Hid (n = ss.length) := ⟨_, rfl⟩
  rw [← HN.out] at hmk hn ⊢
  have HC := hide hc
  clear hc
  go_enter Try.func21, Try.ntmps21
  go_wp2_with fail
  clear hmk hnil
  go_loopg [4] n (fun g i wr => ∃ k : Nat, k + g = n ∧ i = .int .i64 k ∧ Blk wr w.heap.size ((ss.take k).map (Value.int .i64) ++ List.replicate (n - k) (Value.int .i64 0)).toArray 3 ∧ Kp [] w wr)
  case atStart =>
    refine ⟨0, by omega, rfl, ?_, (Kp.refl _ _).alloc _⟩
    have e : ((ss.take 0).map (Value.int .i64) ++ List.replicate (n - 0) (Value.int .i64 0)).toArray = madeCells #[Value.int IntKind.i64 0] n := by
      apply Array.ext'
      rw [toList_madeCells_one]
      simp
    rw [e]
    exact Blk.new _ _ _
  case round =>
    obtain ⟨k, hkg, rfl, hB, hK⟩ := hrel
    by_cases hlt : k < n
    · have hcell : wr.cell? ⟨b, off + k, none⟩ = some (.int .i64 (ss.getD k 0)) := by
        rw [← HC.out k (by rw [← HN.out]; exact hlt)]
        exact World.cell?_of_block (hK.block b hbl (by simp))
      have hold : ∃ v, wr.cell? ⟨w.heap.size, k, none⟩ = some v := by
        rw [hB.cell]
        refine ⟨_, Array.getElem?_eq_getElem (by simp; have := HN.out; omega)⟩
      obtain ⟨v, hold⟩ := hold
      have fz := hB.frozen
      have hB' := hB.set k (.int .i64 (ss.getD k 0))
      rw [set_take ss n k hlt HN.out.symm] at hB'
      have HB := hide hB'
      have HK := hide hK
      clear hB hB' hK
      generalize ss.getD k 0 = s at *
      go_wp2_with fail
      go_roundg (gk - 1)
      case measure => omega
      case rel => exact ⟨k + 1, by omega, by go_num, HB.out, HK.out.setCell (.inl (Nat.le_refl _)) _⟩
    · have e : k = n := by omega
      subst e
      rw [Nat.sub_self, List.replicate_zero, List.append_nil, List.take_of_length_le (by rw [HN.out]; exact Nat.le_refl _)] at hB
      go_wp2_with fail
      go_ret
      exact ⟨by simp, hB, hK⟩

theorem cloneInts_nil (w : World) : Calls Try.prog 21 #[.slice none 0 0] w fun e w' => e = .returned (.slice none 0 0) ∧ w = w' := by
  have hnil := fun (w : World) (a : Option Addr) (n c : Nat) => Lib.run_eql_slice_nil (P := Try.prog) w 27 3 a n c 0 0 Try.underlying27
  go_enter Try.func21, Try.ntmps21
  go_wp2
  go_ret
  exact ⟨rfl, rfl⟩

theorem cloneInts_zero (x : Addr) (c : Nat) (w : World) : Calls Try.prog 21 #[.slice (some x) 0 c] w fun e w' => e = .returned (.slice (some ⟨w.heap.size, 0, none⟩) 0 0) ∧ Blk w' w.heap.size #[] 3 ∧ Kp [] w w' := by
  have hnil := fun (w : World) (a : Option Addr) (n c : Nat) => Lib.run_eql_slice_nil (P := Try.prog) w 27 3 a n c 0 0 Try.underlying27
  have hmk : ∀ w : World, (Instr.makeSlice 27 (.int .i64 0) (.int .i64 0)).run Try.prog w = .ok (.slice (some ⟨w.heap.size, 0, none⟩) 0 0) (w.alloc (.cells (madeCells _ (0 * 1)) 3)) := mkInts (P := Try.prog) (t := 27) (e := 3) Try.underlying27 Try.infoInt 0 (by omega) (by omega)
  go_enter Try.func21, Try.ntmps21
  go_wp2_with fail
  refine wp_loop_once ?_
  go_wp2_with fail
  go_ret
  refine ⟨rfl, ?_, (Kp.refl _ _).alloc _⟩
  have e : (#[] : Array Value) = madeCells #[Value.int IntKind.i64 0] 0 := by
    apply Array.ext'
    rw [toList_madeCells_one]
    rfl
  rw [e]
  exact Blk.new _ _ _
end Go.Proofs.Qxb6600955a
