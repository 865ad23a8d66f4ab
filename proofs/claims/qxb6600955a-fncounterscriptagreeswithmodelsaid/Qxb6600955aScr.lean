import Derived.Test.Qxb6600955aRuns
namespace Go.Proofs.Qxb6600955a
open Go.RowKit

theorem bytes10_yes (x1 x2 : Int) (a : Option Addr) (n c : Nat) (w : World) (hn : n ≤ 1048576) :
    Calls Try.prog 10 #[.int .i64 x1, .int .i64 x2, .slice a n c] w fun e w' => e = .returned (.bool true) ∧ w = w' := by
  have h1 : ¬ (1048576 : Int) < (n : Int) := by omega
  go_enter Try.func10, Try.ntmps10
  go_wp2
  go_ret
  exact ⟨rfl, rfl⟩

theorem bytes10_no (x1 x2 : Int) (a : Option Addr) (n c : Nat) (w : World) (hn : ¬ n ≤ 1048576) :
    Calls Try.prog 10 #[.int .i64 x1, .int .i64 x2, .slice a n c] w fun e w' => e = .returned (.bool false) ∧ w = w' := by
  have h1 : (1048576 : Int) < (n : Int) := by omega
  go_enter Try.func10, Try.ntmps10
  go_wp2
  go_ret
  exact ⟨rfl, rfl⟩

theorem Try.infoByte : (Try.prog.info? 5).map (fun i => (i.zero, i.size, i.bytes)) = some (some (.int .u8 0), 1, 1) := by kernel_rfl

theorem set_takeB (ss : List Int) (n k : Nat) (hk : k < n) (hn : ss.length = n) :
    (((ss.take k).map (Value.int .u8) ++ List.replicate (n - k) (Value.int .u8 0)).toArray.setIfInBounds k (.int .u8 (ss.getD k 0))) = ((ss.take (k + 1)).map (Value.int .u8) ++ List.replicate (n - (k + 1)) (Value.int .u8 0)).toArray := by
  apply Array.ext'
  simp only [Array.toList_setIfInBounds]
  have hl : ((ss.take k).map (Value.int .u8)).length = k := by simp; omega
  rw [show n - k = (n - (k + 1)) + 1 from by omega, List.replicate_succ, List.set_append_right _ _ (by omega), hl, Nat.sub_self, List.set_cons_zero]
  have e : ss.getD k 0 = ss[k] := by simp [List.getD, hn, hk]
  rw [List.take_succ_eq_append_getElem (by omega), e, List.map_append, List.append_assoc]
  rfl

set_option maxRecDepth 100000 in
set_option maxHeartbeats 1000000 in
theorem cloneBytes_c (b off c : Nat) (ss : List Int) (w : World) (hc : ∀ i, i < ss.length → w.cell? ⟨b, off + i, none⟩ = some (.int .u8 (ss.getD i 0))) (hn : ss.length ≤ 5000000) (hbl : b < w.heap.size) :
    Calls Try.prog 11 #[.slice (some ⟨b, off, none⟩) ss.length c] w fun e w' => e = .returned (.slice (some ⟨w.heap.size, 0, none⟩) ss.length ss.length) ∧
      Blk w' w.heap.size (ss.map (Value.int .u8)).toArray 5 ∧ Kp [] w w' := by
  have hnil := fun (w : World) (a : Option Addr) (n c : Nat) => Lib.run_eql_slice_nil (P := Try.prog) w 22 5 a n c 0 0 Try.underlying22
  have hmk := mkInts (P := Try.prog) (t := 22) (e := 5) Try.underlying22 Try.infoByte ss.length (by omega) (by omega)
  obtain ⟨n, HN⟩ : ∃ n, Hid (n = ss.length) := ⟨_, rfl⟩
  rw [← HN.out] at hmk hn ⊢
  have HC := hide hc
  clear hc
  go_enter Try.func11, Try.ntmps11
  go_wp2_with fail
  clear hmk hnil
  go_loopg [4] n (fun g i wr => ∃ k : Nat, k + g = n ∧ i = .int .i64 k ∧ Blk wr w.heap.size ((ss.take k).map (Value.int .u8) ++ List.replicate (n - k) (Value.int .u8 0)).toArray 5 ∧ Kp [] w wr)
  case atStart =>
    refine ⟨0, by omega, rfl, ?_, (Kp.refl _ _).alloc _⟩
    have e : ((ss.take 0).map (Value.int .u8) ++ List.replicate (n - 0) (Value.int .u8 0)).toArray = madeCells #[Value.int IntKind.u8 0] n := by
      apply Array.ext'
      rw [toList_madeCells_one]
      simp
    rw [e]
    exact Blk.new _ _ _
  case round =>
    obtain ⟨k, hkg, rfl, hB, hK⟩ := hrel
    by_cases hlt : k < n
    · have hcell : wr.cell? ⟨b, off + k, none⟩ = some (.int .u8 (ss.getD k 0)) := by
        rw [← HC.out k (by rw [← HN.out]; exact hlt)]
        exact World.cell?_of_block (hK.block b hbl (by simp))
      have hold : ∃ v, wr.cell? ⟨w.heap.size, k, none⟩ = some v := by
        rw [hB.cell]
        refine ⟨_, Array.getElem?_eq_getElem (by simp; have := HN.out; omega)⟩
      obtain ⟨v, hold⟩ := hold
      have fz := hB.frozen
      have hB' := hB.set k (.int .u8 (ss.getD k 0))
      rw [set_takeB ss n k hlt HN.out.symm] at hB'
      have HB := hide hB'
      have HK := hide hK
      clear hB hB' hK
      generalize ss.getD k 0 = s at *
      go_wp2_with fail
      go_roundg (gk - 1)
      case measure => omega
      case rel => exact ⟨k + 1, by omega, by go_num, HB.out, HK.out.setCell (.inl (Nat.le_refl _)) _⟩
    · have e : k = n := by omega
      subst e
      rw [Nat.sub_self, List.replicate_zero, List.append_nil, List.take_of_length_le (by rw [HN.out]; exact Nat.le_refl _)] at hB
      go_wp2_with fail
      go_ret
      exact ⟨by simp, hB, hK⟩

theorem cloneBytes_nil (w : World) : Calls Try.prog 11 #[.slice none 0 0] w fun e w' => e = .returned (.slice none 0 0) ∧ w = w' := by
  have hnil := fun (w : World) (a : Option Addr) (n c : Nat) => Lib.run_eql_slice_nil (P := Try.prog) w 22 5 a n c 0 0 Try.underlying22
  go_enter Try.func11, Try.ntmps11
  go_wp2
  go_ret
  exact ⟨rfl, rfl⟩

theorem cloneBytes_zero (x : Addr) (c : Nat) (w : World) : Calls Try.prog 11 #[.slice (some x) 0 c] w fun e w' => e = .returned (.slice (some ⟨w.heap.size, 0, none⟩) 0 0) ∧ Kp [] w w' := by
  have hnil := fun (w : World) (a : Option Addr) (n c : Nat) => Lib.run_eql_slice_nil (P := Try.prog) w 22 5 a n c 0 0 Try.underlying22
  have hmk : ∀ w : World, (Instr.makeSlice 22 (.int .i64 0) (.int .i64 0)).run Try.prog w = .ok (.slice (some ⟨w.heap.size, 0, none⟩) 0 0) (w.alloc (.cells (madeCells _ (0 * 1)) 5)) := mkInts (P := Try.prog) (t := 22) (e := 5) Try.underlying22 Try.infoByte 0 (by omega) (by omega)
  go_enter Try.func11, Try.ntmps11
  go_wp2_with fail
  refine wp_loop_once ?_
  go_wp2_with fail
  go_ret
  exact ⟨rfl, (Kp.refl _ _).alloc _⟩

/-! zzLiveRuns -/
def aliveB (mx t lf s : Int) : Bool := !(decide (s < lf) || decide (t ≤ s)) && !(decide (0 ≤ mx) && decide (mx < t - s))
def endsB (mn mx t lf : Int) (S : List Int) : Bool := S.any fun s => aliveB mx t lf s && decide (mn ≤ t - s)
def moreB (mx t lf : Int) (S : List Int) : Bool := S.any fun s => aliveB mx t lf s && (decide (mx < 0) || decide (t - s < mx))

theorem aliveB_iff (mx t lf s : Int) : aliveB mx t lf s = true ↔ aliveL mx t lf s := by
  unfold aliveB aliveL
  simp
  omega

theorem endsB_iff (mn mx t lf : Int) (S : List Int) : endsB mn mx t lf S = true ↔ liveEnds mn mx t lf S := by
  unfold endsB liveEnds
  simp [aliveB_iff]

theorem moreB_iff (mx t lf : Int) (S : List Int) : moreB mx t lf S = true ↔ liveMore mx t lf S := by
  unfold moreB liveMore
  simp [aliveB_iff]

theorem endsB_step (mn mx t lf : Int) (S : List Int) (i : Nat) (hi : i < S.length) : endsB mn mx t lf (S.take (i + 1)) = (endsB mn mx t lf (S.take i) || (aliveB mx t lf (S.getD i 0) && decide (mn ≤ t - S.getD i 0))) := by
  unfold endsB
  rw [List.take_succ_eq_append_getElem hi, List.any_append]
  simp [List.getD, hi]

theorem moreB_step (mx t lf : Int) (S : List Int) (i : Nat) (hi : i < S.length) : moreB mx t lf (S.take (i + 1)) = (moreB mx t lf (S.take i) || (aliveB mx t lf (S.getD i 0) && (decide (mx < 0) || decide (t - S.getD i 0 < mx)))) := by
  unfold moreB
  rw [List.take_succ_eq_append_getElem hi, List.any_append]
  simp [List.getD, hi]

set_option maxRecDepth 100000 in
set_option maxHeartbeats 2000000 in
theorem liveRuns_c (a : Option Addr) (c : Nat) (S : List Int) (lf t mn mx : Int) (w : World) (h : RowAt w a S.length S) (hS : ∀ i, i < S.length → 0 ≤ S.getD i 0 ∧ S.getD i 0 ≤ 100000) (hn : S.length ≤ 100000) (t0 : 0 ≤ t) (t1 : t ≤ 100000) :
    Calls Try.prog 14 #[.slice a S.length c, .int .i64 lf, .int .i64 t, .int .i64 mn, .int .i64 mx] w fun e w' => e = .returned (.tuple #[.bool (endsB mn mx t lf S), .bool (moreB mx t lf S)]) ∧ w = w' := by
  obtain ⟨n, HN⟩ : ∃ n, Hid (S.length = n) := ⟨_, rfl⟩
  have HH := hide h
  have HS := hide hS
  clear h hS
  rw [HN.out] at hn ⊢
  go_enter Try.func14, Try.ntmps14
  go_wp2_with fail
  go_loopg [10, 11, 12] n (fun g ev mv iv wr => ∃ i : Nat, i + g = n ∧ iv = .int .i64 i ∧ w = wr ∧ ev = .bool (endsB mn mx t lf (S.take i)) ∧ mv = .bool (moreB mx t lf (S.take i)))
  case atStart => exact ⟨0, by omega, rfl, rfl, rfl, rfl⟩
  case round =>
    obtain ⟨i, hig, rfl, rfl, rfl, rfl⟩ := hrel
    by_cases hlt : i < n
    · have hl : i < S.length := by rw [HN.out]; exact hlt
      obtain ⟨b, off, rfl, _, hcell⟩ := HH.out.at_ (by omega)
      have hc := hcell i hl
      have hb := HS.out i hl
      have HE := hide (endsB_step mn mx t lf S i hl)
      have HM := hide (moreB_step mx t lf S i hl)
      clear hcell hl
      generalize S.getD i 0 = s at *
      generalize endsB mn mx t lf (S.take i) = E at *
      generalize moreB mx t lf (S.take i) = M at *
      by_cases h1 : s < lf
      · go_wp2_with fail
        go_roundg (gk - 1)
        case measure => omega
        case rel => exact ⟨i + 1, by omega, by go_num, rfl, by rw [HE.out]; simp [aliveB, h1], by rw [HM.out]; simp [aliveB, h1]⟩
      · by_cases h2 : t ≤ s
        · go_wp2_with fail
          go_roundg (gk - 1)
          case measure => omega
          case rel => exact ⟨i + 1, by omega, by go_num, rfl, by rw [HE.out]; simp [aliveB, h2], by rw [HM.out]; simp [aliveB, h2]⟩
        · by_cases h3 : 0 ≤ mx
          · by_cases h4 : mx < t - s
            · have hA : aliveB mx t lf s = false := by simp [aliveB, h3, h4]
              have HE' : Hid (endsB mn mx t lf (S.take (i + 1)) = E) := by
                show endsB mn mx t lf (S.take (i + 1)) = E
                rw [HE.out, hA]; simp
              have HM' : Hid (moreB mx t lf (S.take (i + 1)) = M) := by
                show moreB mx t lf (S.take (i + 1)) = M
                rw [HM.out, hA]; simp
              clear HE HM
              clear hA
              go_wp2_with fail
              go_roundg (gk - 1)
              case measure => omega
              case rel => exact ⟨i + 1, by omega, by go_num, rfl, by rw [HE'.out], by rw [HM'.out]⟩
            · have hA : aliveB mx t lf s = true := by simp [aliveB, h4]; omega
              have h3' : ¬ mx < 0 := by omega
              by_cases h5 : mn ≤ t - s
              · by_cases h6 : t - s < mx
                · have HE' : Hid (endsB mn mx t lf (S.take (i + 1)) = true) := by
                    show endsB mn mx t lf (S.take (i + 1)) = true
                    rw [HE.out, hA]; simp [h5]
                  have HM' : Hid (moreB mx t lf (S.take (i + 1)) = true) := by
                    show moreB mx t lf (S.take (i + 1)) = true
                    rw [HM.out, hA]; simp [h6]
                  clear HE HM hA
                  go_wp2_with fail
                  go_roundg (gk - 1)
                  case measure => omega
                  case rel => exact ⟨i + 1, by omega, by go_num, rfl, by rw [HE'.out], by rw [HM'.out]⟩
                · have HE' : Hid (endsB mn mx t lf (S.take (i + 1)) = true) := by
                    show endsB mn mx t lf (S.take (i + 1)) = true
                    rw [HE.out, hA]; simp [h5]
                  have HM' : Hid (moreB mx t lf (S.take (i + 1)) = M) := by
                    show moreB mx t lf (S.take (i + 1)) = M
                    rw [HM.out, hA, decide_eq_false h3', decide_eq_false h6]; simp
                  clear HE HM hA
                  go_wp2_with fail
                  go_roundg (gk - 1)
                  case measure => omega
                  case rel => exact ⟨i + 1, by omega, by go_num, rfl, by rw [HE'.out], by rw [HM'.out]⟩
              · by_cases h6 : t - s < mx
                · have HE' : Hid (endsB mn mx t lf (S.take (i + 1)) = E) := by
                    show endsB mn mx t lf (S.take (i + 1)) = E
                    rw [HE.out, hA, decide_eq_false h5]; simp
                  have HM' : Hid (moreB mx t lf (S.take (i + 1)) = true) := by
                    show moreB mx t lf (S.take (i + 1)) = true
                    rw [HM.out, hA]; simp [h6]
                  clear HE HM hA
                  go_wp2_with fail
                  go_roundg (gk - 1)
                  case measure => omega
                  case rel => exact ⟨i + 1, by omega, by go_num, rfl, by rw [HE'.out], by rw [HM'.out]⟩
                · have HE' : Hid (endsB mn mx t lf (S.take (i + 1)) = E) := by
                    show endsB mn mx t lf (S.take (i + 1)) = E
                    rw [HE.out, hA, decide_eq_false h5]; simp
                  have HM' : Hid (moreB mx t lf (S.take (i + 1)) = M) := by
                    show moreB mx t lf (S.take (i + 1)) = M
                    rw [HM.out, hA, decide_eq_false h3', decide_eq_false h6]; simp
                  clear HE HM hA
                  go_wp2_with fail
                  go_roundg (gk - 1)
                  case measure => omega
                  case rel => exact ⟨i + 1, by omega, by go_num, rfl, by rw [HE'.out], by rw [HM'.out]⟩
          · have h3' : mx < 0 := by omega
            have hA : aliveB mx t lf s = true := by simp [aliveB, h3]; omega
            have HM' : Hid (moreB mx t lf (S.take (i + 1)) = true) := by
              show moreB mx t lf (S.take (i + 1)) = true
              rw [HM.out, hA]; simp [h3']
            by_cases h5 : mn ≤ t - s
            · have HE' : Hid (endsB mn mx t lf (S.take (i + 1)) = true) := by
                show endsB mn mx t lf (S.take (i + 1)) = true
                rw [HE.out, hA]; simp [h5]
              clear HE HM hA
              go_wp2_with fail
              go_roundg (gk - 1)
              case measure => omega
              case rel => exact ⟨i + 1, by omega, by go_num, rfl, by rw [HE'.out], by rw [HM'.out]⟩
            · have HE' : Hid (endsB mn mx t lf (S.take (i + 1)) = E) := by
                show endsB mn mx t lf (S.take (i + 1)) = E
                rw [HE.out, hA, decide_eq_false h5]; simp
              clear HE HM hA
              go_wp2_with fail
              go_roundg (gk - 1)
              case measure => omega
              case rel => exact ⟨i + 1, by omega, by go_num, rfl, by rw [HE'.out], by rw [HM'.out]⟩
    · have e : i = n := by omega
      subst e
      go_wp2_with fail
      go_ret2
      refine ⟨?_, rfl⟩
      rw [List.take_of_length_le (by rw [HN.out]; exact Nat.le_refl _)]
      simp
end Go.Proofs.Qxb6600955a
