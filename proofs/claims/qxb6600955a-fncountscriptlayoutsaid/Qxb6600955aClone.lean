import Derived.Test.Qxb6600955aComp3
import Derived.Deep.OwnRows
import Derived.WalkSpells
import Derived.Lib.SliceRun
namespace Go.Proofs.Qxb6600955a
open Go.RowKit

theorem mk_eq {P : Program} {t e : TypeId} {z : Value} {size bytes : Nat} (ht : P.underlying t = some (.slice e)) (hinfo : (P.info? e).map (fun i => (i.zero, i.size, i.bytes)) = some (some z, size, bytes))
    (n : Nat) (hb : bytes * n ≤ 281474976710656) (h63 : n ≤ 9223372036854775807) (w : World) :
    (Instr.makeSlice t (.int .i64 (n : Int)) (.int .i64 (n : Int))).run P w = .ok (.slice (some ⟨w.heap.size, 0, none⟩) n n) (w.alloc (.cells (madeCells z.cells (n * size)) e)) := by
  obtain ⟨i, hi, hzz⟩ := Option.map_eq_some_iff.1 hinfo
  simp only [Prod.mk.injEq] at hzz
  obtain ⟨hz, hs, hby⟩ := hzz
  have hb' : (i.bytes : Int) * (n : Int) ≤ 281474976710656 := by
    have h : ((i.bytes * n : Nat) : Int) ≤ 281474976710656 := by rw [hby]; omega
    rwa [Int.natCast_mul] at h
  have hr := run_make (P := P) w t e i z ht hi hz .i64 .i64 n n (by omega) (Int.le_refl _) hb' (by omega)
  simp only [Int.toNat_natCast, hs] at hr
  exact hr

structure Call where
  mn : Int
  mx : Int
  pt : Int
  nx : Int
  ot : Bool

def zeroCall : Call := ⟨0, 0, 0, 0, false⟩

/-- The cells of a row of calls, from offset 'off' of block b on: at least the first n. -/
def CallsAt (w : World) (b off : Nat) (cs : List Call) : Prop := ∀ i, i < cs.length →
  w.cell? ⟨b, off + i * 5, none⟩ = some (.int .i64 (cs.getD i zeroCall).mn) ∧ w.cell? ⟨b, off + i * 5 + 1, none⟩ = some (.int .i64 (cs.getD i zeroCall).mx) ∧
  w.cell? ⟨b, off + i * 5 + 2, none⟩ = some (.int .i64 (cs.getD i zeroCall).pt) ∧ w.cell? ⟨b, off + i * 5 + 3, none⟩ = some (.int .i32 (cs.getD i zeroCall).nx) ∧
  w.cell? ⟨b, off + i * 5 + 4, none⟩ = some (.bool (cs.getD i zeroCall).ot)

theorem Try.info56 : (Try.prog.info? 56).map (fun i => (i.zero, i.size, i.bytes)) = some (some (.agg #[.int .i64 0, .int .i64 0, .int .i64 0, .int .i32 0, .bool false]), 5, 32) := by kernel_rfl

theorem take_getD (cs : List Call) (k i : Nat) (h : i < k) : (cs.take k).getD i zeroCall = cs.getD i zeroCall := by
  simp [List.getD, h]

theorem set_cell (cur : Array Value) (o p : Nat) (v : Value) (h : o < cur.size) : (cur.setIfInBounds o v)[p]? = if p = o then some v else cur[p]? := by
  rw [Array.getElem?_setIfInBounds]
  by_cases e : o = p
  · subst e; simp [h]
  · simp [e, Ne.symm e]

theorem callsAt_step (w : World) (g n k : Nat) (cur : Array Value) (cs : List Call) (hb : Blk w g cur 56) (hs : cur.size = n * 5) (hk : k < n) (hn : n = cs.length) (h : CallsAt w g 0 (cs.take k)) :
    (∃ cur', Blk (((((w.setCell ⟨g, k * 5, none⟩ (.int .i64 (cs.getD k zeroCall).mn)).setCell ⟨g, k * 5 + 1, none⟩ (.int .i64 (cs.getD k zeroCall).mx)).setCell ⟨g, k * 5 + 2, none⟩ (.int .i64 (cs.getD k zeroCall).pt)).setCell ⟨g, k * 5 + 3, none⟩ (.int .i32 (cs.getD k zeroCall).nx)).setCell ⟨g, k * 5 + 4, none⟩ (.bool (cs.getD k zeroCall).ot)) g cur' 56 ∧ cur'.size = n * 5) ∧
    CallsAt (((((w.setCell ⟨g, k * 5, none⟩ (.int .i64 (cs.getD k zeroCall).mn)).setCell ⟨g, k * 5 + 1, none⟩ (.int .i64 (cs.getD k zeroCall).mx)).setCell ⟨g, k * 5 + 2, none⟩ (.int .i64 (cs.getD k zeroCall).pt)).setCell ⟨g, k * 5 + 3, none⟩ (.int .i32 (cs.getD k zeroCall).nx)).setCell ⟨g, k * 5 + 4, none⟩ (.bool (cs.getD k zeroCall).ot)) g 0 (cs.take (k + 1)) := by
  have hB := ((((hb.set (k * 5) (.int .i64 (cs.getD k zeroCall).mn)).set (k * 5 + 1) (.int .i64 (cs.getD k zeroCall).mx)).set (k * 5 + 2) (.int .i64 (cs.getD k zeroCall).pt)).set (k * 5 + 3) (.int .i32 (cs.getD k zeroCall).nx)).set (k * 5 + 4) (.bool (cs.getD k zeroCall).ot)
  refine ⟨⟨_, hB, by simpa using hs⟩, ?_⟩
  intro i hi
  simp at hi
  rw [take_getD _ _ _ (by omega), hB.cell, hB.cell, hB.cell, hB.cell, hB.cell]
  have z : ∀ p, ((((((cur.setIfInBounds (k * 5) (.int .i64 (cs.getD k zeroCall).mn)).setIfInBounds (k * 5 + 1) (.int .i64 (cs.getD k zeroCall).mx)).setIfInBounds (k * 5 + 2) (.int .i64 (cs.getD k zeroCall).pt)).setIfInBounds (k * 5 + 3) (.int .i32 (cs.getD k zeroCall).nx)).setIfInBounds (k * 5 + 4) (.bool (cs.getD k zeroCall).ot)))[p]? =
      if p = k * 5 + 4 then some (.bool (cs.getD k zeroCall).ot) else if p = k * 5 + 3 then some (.int .i32 (cs.getD k zeroCall).nx) else if p = k * 5 + 2 then some (.int .i64 (cs.getD k zeroCall).pt)
      else if p = k * 5 + 1 then some (.int .i64 (cs.getD k zeroCall).mx) else if p = k * 5 then some (.int .i64 (cs.getD k zeroCall).mn) else cur[p]? := by
    intro p
    rw [set_cell _ _ _ _ (by simp; omega), set_cell _ _ _ _ (by simp; omega), set_cell _ _ _ _ (by simp; omega), set_cell _ _ _ _ (by simp; omega), set_cell _ _ _ _ (by omega)]
  rw [z, z, z, z, z]
  by_cases e : i = k
  · subst e
    refine ⟨?_, ?_, ?_, ?_, ?_⟩
    · rw [if_neg (by omega), if_neg (by omega), if_neg (by omega), if_neg (by omega), if_pos (by omega)]
    · rw [if_neg (by omega), if_neg (by omega), if_neg (by omega), if_pos (by omega)]
    · rw [if_neg (by omega), if_neg (by omega), if_pos (by omega)]
    · rw [if_neg (by omega), if_pos (by omega)]
    · rw [if_pos (by omega)]
  · have := h i (by simp; omega)
    rw [take_getD _ _ _ (by omega), hb.cell, hb.cell, hb.cell, hb.cell, hb.cell] at this
    obtain ⟨a0, a1, a2, a3, a4⟩ := this
    refine ⟨?_, ?_, ?_, ?_, ?_⟩
    all_goals
      rw [if_neg (by omega), if_neg (by omega), if_neg (by omega), if_neg (by omega), if_neg (by omega)]
      assumption

theorem clone_nil (w : World) : Calls Try.prog 28 #[.slice none 0 0] w fun e w' => e = .returned (.slice none 0 0) ∧ w = w' := by
  have hnil := fun (w : World) (a : Option Addr) (n c : Nat) => Lib.run_eql_slice_nil (P := Try.prog) w 52 56 a n c 0 0 Try.underlying52
  go_enter Try.func28, Try.ntmps28
  go_wp2
  go_ret
  exact ⟨rfl, rfl⟩

theorem clone_zero (x : Addr) (c : Nat) (w : World) : Calls Try.prog 28 #[.slice (some x) 0 c] w fun e w' => e = .returned (.slice (some ⟨w.heap.size, 0, none⟩) 0 0) ∧ Kp [] w w' := by
  have hnil := fun (w : World) (a : Option Addr) (n c : Nat) => Lib.run_eql_slice_nil (P := Try.prog) w 52 56 a n c 0 0 Try.underlying52
  have hmk : ∀ w : World, (Instr.makeSlice 52 (.int .i64 0) (.int .i64 0)).run Try.prog w = .ok (.slice (some ⟨w.heap.size, 0, none⟩) 0 0) (w.alloc (.cells (madeCells _ (0 * 5)) 56)) := mk_eq (P := Try.prog) (t := 52) (e := 56) Try.underlying52 Try.info56 0 (by omega) (by omega)
  go_enter Try.func28, Try.ntmps28
  go_wp2_with fail
  refine wp_loop_once ?_
  go_wp2_with fail
  go_ret
  exact ⟨rfl, (Kp.refl _ _).alloc _⟩

set_option maxRecDepth 100000 in
set_option maxHeartbeats 1000000 in
theorem clone_c (b off c : Nat) (cs : List Call) (w : World) (hc : CallsAt w b off cs) (hn : cs.length ≤ 100000) (hbl : b < w.heap.size) :
    Calls Try.prog 28 #[.slice (some ⟨b, off, none⟩) cs.length c] w fun e w' => e = .returned (.slice (some ⟨w.heap.size, 0, none⟩) cs.length cs.length) ∧
      CallsAt w' w.heap.size 0 cs ∧ Kp [] w w' := by
  have hnil := fun (w : World) (a : Option Addr) (n c : Nat) => Lib.run_eql_slice_nil (P := Try.prog) w 52 56 a n c 0 0 Try.underlying52
  have hmk := mk_eq (P := Try.prog) (t := 52) (e := 56) Try.underlying52 Try.info56 cs.length (by omega) (by omega)
  obtain ⟨n, HN⟩ : ∃ n, Hid (n = cs.length) := ⟨_, rfl⟩
  rw [← HN.out] at hmk hn ⊢
  have HC := hide hc
  clear hc
  go_enter Try.func28, Try.ntmps28
  go_wp2_with fail
  clear hmk hnil
  go_loopw [4] (fun i wr => ∃ k : Nat, k ≤ n ∧ i = .int .i64 k ∧ (∃ cur, Blk wr w.heap.size cur 56 ∧ cur.size = n * 5) ∧ CallsAt wr w.heap.size 0 (cs.take k) ∧ Kp [] w wr) (fun i _ => n - (intOf i).toNat)
  case atStart =>
    refine ⟨0, Nat.zero_le _, rfl, ⟨_, Blk.new _ _ _, size_madeCells _ _⟩, ?_, (Kp.refl _ _).alloc _⟩
    intro i hi
    simp at hi
  case round =>
    obtain ⟨k, hk, rfl, ⟨cur, hcur, hsz⟩, hcp, hkp⟩ := hrel
    by_cases hlt : k < n
    · have hb1 : CallsAt wr b off cs := fun i hi => by
        have := HC.out i hi
        have hx : wr.heap[b]? = w.heap[b]? := hkp.block b hbl (by simp)
        simpa [World.cell?, hx] using this
      obtain ⟨e0, e1, e2, e3, e4⟩ := hb1 k (by rw [← HN.out]; exact hlt)
      clear hb1
      have old : ∀ o, o < n * 5 → ∃ v, wr.cell? ⟨w.heap.size, o, none⟩ = some v := fun o ho => by
        rw [hcur.cell]
        exact ⟨cur[o], by simp [hsz, ho]⟩
      obtain ⟨o0, g0⟩ := old (k * 5) (by omega)
      obtain ⟨o1, g1⟩ := old (k * 5 + 1) (by omega)
      obtain ⟨o2, g2⟩ := old (k * 5 + 2) (by omega)
      obtain ⟨o3, g3⟩ := old (k * 5 + 3) (by omega)
      obtain ⟨o4, g4⟩ := old (k * 5 + 4) (by omega)
      clear old
      have fz := hcur.frozen
      have S := callsAt_step wr w.heap.size n k cur cs hcur hsz hlt HN.out hcp
      have HS := hide S
      clear S
      clear hcp hcur hsz
      generalize cs.getD k zeroCall = x at *
      go_wp2_with fail
      go_roundw
      case rel => exact ⟨k + 1, by omega, by go_num, HS.out.1, HS.out.2, ((((hkp.setCell (.inl (Nat.le_refl _)) _).setCell (.inl (Nat.le_refl _)) _).setCell (.inl (Nat.le_refl _)) _).setCell (.inl (Nat.le_refl _)) _).setCell (.inl (Nat.le_refl _)) _⟩
      case measure => simp [intOf]; omega
    · go_wp2_with fail
      go_ret
      have e : k = cs.length := by have := HN.out; omega
      rw [e, List.take_of_length_le (Nat.le_refl _)] at hcp
      exact ⟨rfl, hcp, hkp⟩
end Go.Proofs.Qxb6600955a
