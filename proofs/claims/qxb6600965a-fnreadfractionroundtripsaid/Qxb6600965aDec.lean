import Derived.Test.Qxb6600965aItoa
import Derived.Laws.OwnMore
namespace Go.Proofs.Qxb6600965a
open Go.RowKit

theorem itoa_zero (w : World) : Calls Try.prog 10 #[.int .i64 0] w fun e w' => e = .returned (.string ⟨#[48]⟩) ∧ w' = w := by
  go_enter Try.func10, Try.ntmps10
  go_wp2
  go_ret
  exact ⟨rfl, rfl⟩

theorem itoa_c (n : Nat) (w : World) (h1 : n ≤ 9223372036854775807) :
    Calls Try.prog 10 #[.int .i64 n] w fun e w' => ∃ t : ByteArray, e = .returned (.string t) ∧ t.size ≤ 24 ∧ (∀ c ∈ t.data.toList, isD c = true) ∧ hv t.data.toList = n ∧ Grown w w' := by
  rcases Nat.eq_zero_or_pos n with rfl | h0
  · refine (itoa_zero w).mono ?_
    rintro e w' ⟨rfl, rfl⟩
    exact ⟨⟨#[48]⟩, rfl, by simp [ByteArray.size], by simp [isD], by simp [hv], Grown.refl _⟩
  · refine (itoa_pos n w h0 h1).mono ?_
    rintro e w' ⟨l, rfl, hl, hd, hv, hg⟩
    exact ⟨⟨l.toArray⟩, rfl, by simpa [ByteArray.size] using hl, hd, hv, hg⟩

theorem number_list (l : List UInt8) (a b : Int) (w : World) (hs : l.length ≤ 5000000) (hd : ∀ c ∈ l, isD c = true) :
    Calls Try.prog 15 #[.string ⟨l.toArray⟩, .int .i64 a, .int .i64 b] w fun e w' =>
      e = .returned (.tuple #[.int .i64 (wrap64 (hv l)), .bool (decide (a ≤ wrap64 (hv l)) && decide (wrap64 (hv l) ≤ b))]) ∧ w' = w := by
  have := number_ok ⟨l.toArray⟩ a b w (by unfold maxLen; simp [ByteArray.size]; omega) (fun k h => hd _ (by
    show l.toArray[k]'(by simpa [ByteArray.size] using h) ∈ l
    simp))
  simpa using this

theorem Has.snoc {cs : Array Value} {l : List UInt8} (h : Has cs 0 l) (ho : l.length < cs.size) (c : UInt8) : Has (cs.setIfInBounds l.length (.int .u8 c.toNat)) 0 (l ++ [c]) := by
  intro i hi
  rw [Nat.zero_add]
  by_cases e : i = l.length
  · subst e
    simp [ho]
  · have hi' : i < l.length := by simp at hi; omega
    have := h i hi'
    rw [Array.getElem?_setIfInBounds_ne (by omega)]
    rw [Nat.zero_add] at this
    rw [this]
    simp [List.getElem_append_left hi']

theorem hv_zeros (z : Nat) (l : List UInt8) : hv (List.replicate z 48 ++ l) = hv l := by
  induction z with
  | zero => rfl
  | succ z ih => rw [List.replicate_succ, List.cons_append, hv_cons, ih]; simp
theorem mkInts {P : Program} {t e : TypeId} {z : Value} {size bytes : Nat} (ht : P.underlying t = some (.slice e)) (hinfo : (P.info? e).map (fun i => (i.zero, i.size, i.bytes)) = some (some z, size, bytes))
    (n : Nat) (hb : bytes * n ≤ 281474976710656) (h63 : n ≤ 9223372036854775807) (w : World) :
    (Instr.makeSlice t (.int .i64 (n : Int)) (.int .i64 (n : Int))).run P w = .ok (.slice (some ⟨w.heap.size, 0, none⟩) n n) (w.alloc (.cells (madeCells z.cells (n * size)) e)) := by
  obtain ⟨i, hi, hzz⟩ := Option.map_eq_some_iff.1 hinfo
  simp only [Prod.mk.injEq] at hzz
  obtain ⟨hz, hs, hby⟩ := hzz
  have hb' : (i.bytes : Int) * (n : Int) ≤ 281474976710656 := by
    have h : ((i.bytes * n : Nat) : Int) ≤ 281474976710656 := by rw [hby]; omega
    rwa [Int.natCast_mul] at h
  have hr := run_make (P := P) w t e i z ht hi hz .i64 .i64 n n (by omega) (Int.le_refl _) hb' (by omega)
  simp only [Int.toNat_natCast, hs] at hr
  exact hr

theorem Try.infoByte : (Try.prog.info? 5).map (fun i => (i.zero, i.size, i.bytes)) = some (some (.int .u8 0), 1, 1) := by kernel_rfl

set_option maxRecDepth 100000 in
set_option maxHeartbeats 1600000 in
theorem dec_good (n z : Nat) (w : World) (hz : z ≤ 4096) (h1 : n ≤ 9223372036854775807) :
    Calls Try.prog 4 #[.int .i64 n, .int .i64 z] w fun e w' => e = .returned (.bool true) ∧ Grown w w' := by
  go_enter Try.func4, Try.ntmps4
  go_wp2_with fail
  refine (itoa_c n w h1).mono ?_
  rintro e w1 ⟨t, rfl, hl, hD, hV, hG⟩
  have HD := hide hD
  have HV := hide hV
  have HG := hide hG
  clear hD hV hG
  have hmk := mkInts (P := Try.prog) (t := 28) (e := 5) Try.underlying28 Try.infoByte (z + t.size) (by omega) (by omega)
  rw [Int.natCast_add] at hmk
  go_wp2_with fail
  clear hmk
  go_loopg [7] z (fun g iv wr => ∃ (k : Nat) (cs : Array Value), k + g = z ∧ iv = .int .i64 k ∧ Hid (Blk wr w1.heap.size cs 5) ∧ Hid (Has cs 0 (List.replicate k 48)) ∧ cs.size = z + t.size ∧ Hid (Grown w wr))
  case atStart =>
    exact ⟨0, _, by omega, rfl, hide (Blk.new _ _ _), hide (fun i h => absurd h (Nat.not_lt_zero _)), by rw [size_madeCells], hide (HG.out.alloc _ _)⟩
  case round =>
    obtain ⟨k, cs, hk, rfl, HB, HH, hcs, HG1⟩ := hrel
    by_cases h : k < z
    · have f1 := HB.out.frozen k
      have c1 : wr.cell? ⟨w1.heap.size, k, none⟩ = some (cs[k]'(by omega)) := by rw [HB.out.cell]; simp
      have HB' := hide (HB.out.set k (.int .u8 48))
      have HH' : Hid (Has (cs.setIfInBounds k (.int .u8 48)) 0 (List.replicate (k + 1) 48)) := hide (by
        have := HH.out.snoc (by simp; omega) 48
        rw [List.length_replicate] at this
        rw [List.replicate_succ']
        exact this)
      clear HB HH
      go_wp2_with fail
      go_roundg (gk - 1)
      case measure => omega
      case rel => exact ⟨k + 1, _, by omega, by go_num, HB', HH', by simpa using hcs, hide (HG1.out.setCell (by have := HG.out.2.2; omega) _)⟩
    · obtain rfl : k = z := by omega
      go_wp2_with fail
      clear h hk
      go_loopg [8] t.size (fun g iv wr => ∃ (j : Nat) (cs : Array Value), j + g = t.size ∧ iv = .int .i64 j ∧ Hid (Blk wr w1.heap.size cs 5) ∧ Hid (Has cs 0 (List.replicate k 48 ++ t.data.toList.take j)) ∧ cs.size = k + t.size ∧ Hid (Grown w wr))
      case atStart =>
        exact ⟨0, cs, by omega, rfl, HB, hide (by rw [List.take_zero, List.append_nil]; exact HH.out), hcs, HG1⟩
      case round =>
        clear HB HH HG1 hcs
        obtain ⟨j, ds, hj, rfl, HB, HH, hds, HG1⟩ := hrel
        by_cases h : j < t.size
        · have f1 := HB.out.frozen (k + j)
          have c1 : wr.cell? ⟨w1.heap.size, k + j, none⟩ = some (ds[k + j]'(by omega)) := by rw [HB.out.cell]; simp
          have HB' := hide (HB.out.set (k + j) (.int .u8 t[j].toNat))
          have HH' : Hid (Has (ds.setIfInBounds (k + j) (.int .u8 t[j].toNat)) 0 (List.replicate k 48 ++ t.data.toList.take (j + 1))) := hide (by
            have hlen : (List.replicate k (48 : UInt8) ++ t.data.toList.take j).length = k + j := by
              have : t.data.toList.length = t.size := by simp
              simp only [List.length_append, List.length_replicate, List.length_take, this]; omega
            have := HH.out.snoc (by omega) t[j]
            rw [hlen, List.append_assoc, ← take_snoc t j h] at this
            exact this)
          clear HB HH
          go_wp2_with fail
          go_roundg (gk - 1)
          case measure => omega
          case rel => exact ⟨j + 1, _, by omega, by go_num, HB', HH', by simpa using hds, hide (HG1.out.setCell (by have := HG.out.2.2; omega) _)⟩
        · obtain rfl : j = t.size := by omega
          have hall : t.data.toList.take t.size = t.data.toList := List.take_of_length_le (by simp)
          have hH := HH.out
          rw [hall] at hH
          have hlen : (List.replicate k (48 : UInt8) ++ t.data.toList).length = k + t.size := by simp
          have hc := conv_has wr w1.heap.size 0 (k + t.size) (k + t.size) ds 5 _ HB.out hH hlen
          have HN : Hid (∀ (a b : Int) (w : World), Calls Try.prog 8 #[.string ⟨(List.replicate k 48 ++ t.data.toList).toArray⟩, .int .i64 a, .int .i64 b] w fun e w' =>
              e = .returned (.tuple #[.int .i64 n, .bool (decide (a ≤ (n : Int)) && decide ((n : Int) ≤ b))]) ∧ w' = w) := hide (fun a b w => zz_num _ a b _ _ w (by
            have := number_list (List.replicate k 48 ++ t.data.toList) a b w (by omega) (fun c hc => by
              rcases List.mem_append.1 hc with hc | hc
              · obtain ⟨_, rfl⟩ := List.mem_replicate.1 hc
                decide
              · exact HD.out c hc)
            have e : wrap64 (hv (List.replicate k 48 ++ t.data.toList)) = n := by rw [hv_zeros, HV.out]; unfold wrap64; omega
            rw [e] at this
            exact this))
          generalize ByteArray.mk (List.replicate k (48 : UInt8) ++ t.data.toList).toArray = S at *
          clear hH hlen hall HH HB HD HV hds
          go_wp2_with fail
          refine (HN.out n n wr).mono ?_
          rintro e w3 ⟨rfl, hw⟩
          subst hw
          rw [decide_eq_true (Int.le_refl (n : Int)), Bool.and_self]
          by_cases h0 : n = 0
          · subst h0
            go_wp2_with fail
            go_ret
            exact ⟨rfl, HG1.out⟩
          · go_wp2_with fail
            refine (HN.out 0 (n - 1) w3).mono ?_
            rintro e w4 ⟨rfl, hw⟩
            subst hw
            rw [decide_eq_false (by omega : ¬ (n : Int) ≤ n - 1), Bool.and_false]
            go_wp2_with fail
            go_ret
            exact ⟨rfl, HG1.out⟩

set_option maxHeartbeats 400000 in
theorem dec_any (a0 a1 : Int) (w : World) (h0 : a0 ≤ 9223372036854775807) :
    Calls Try.prog 4 #[.int .i64 a0, .int .i64 a1] w fun e w' => e = .returned (.bool true) ∧ Grown w w' := by
  by_cases h1 : a1 < 0
  · go_enter Try.func4, Try.ntmps4
    go_wp2_with fail
    go_ret
    exact ⟨rfl, Grown.refl _⟩
  · by_cases h2 : 4096 < a1
    · go_enter Try.func4, Try.ntmps4
      go_wp2_with fail
      go_ret
      exact ⟨rfl, Grown.refl _⟩
    · by_cases h3 : a0 < 0
      · go_enter Try.func4, Try.ntmps4
        go_wp2_with fail
        go_ret
        exact ⟨rfl, Grown.refl _⟩
      · obtain ⟨n, rfl⟩ := Int.eq_ofNat_of_zero_le (by omega : 0 ≤ a0)
        obtain ⟨z, rfl⟩ := Int.eq_ofNat_of_zero_le (by omega : 0 ≤ a1)
        exact dec_good n z w (by omega) (by omega)
end Go.Proofs.Qxb6600965a
