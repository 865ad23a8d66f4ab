import Derived.Test.Qxb6600955aComp
import Derived.Deep.DeepCutAuto
namespace Go.Proofs.Qxb6600955a
open Go.RowKit

theorem new1 (w : World) (o : Obj) : (w.alloc o).drew.heap[w.heap.size]? = some o := heap_alloc_new w o

set_option maxRecDepth 100000 in
set_option maxHeartbeats 3200000 in
theorem count_yes (b nb base n : Nat) (parts lo hi p nx : Int) (pv rv zz : Value) (ps rs : List Value) (cl : Option Addr) (w : World) (hb : Blk w b #[pv, rv, .int .i64 parts, zz, .bool false] 70)
    (ho : w.ownsRow base 79 5 pv n ps) (hr : w.ownsRow base 65 2 rv n rs) (hbase : base ≤ w.heap.size) (hn : n ≤ 999999)
    (hpb : pv.ownBlock ≠ some b) (hrb : rv.ownBlock ≠ some b) (hpr : ∀ k, pv.ownBlock = some k → rv.ownBlock ≠ some k)
    (c7 : w.cell? ⟨nb, 7, none⟩ = some (.int .i64 lo)) (c8 : w.cell? ⟨nb, 8, none⟩ = some (.int .i64 hi)) (hnb : nb ≠ b) (hf : (false || decide (100000 < partsAfter parts lo hi p)) = false) :
    Calls Try.prog 33 #[.pointer (some ⟨b, 0, none⟩), .pointer (some ⟨nb, 0, none⟩), .pointer cl, .int .i64 p, .int .i32 nx] w fun e w' => e = .returned (.int .i32 n) ∧
      ∃ pv' rv', Blk w' b #[pv', rv', .int .i64 (partsAfter parts lo hi p), zz, .bool false] 70 ∧ w'.ownsRow base 79 5 pv' (n + 1) (ps ++ [.pointer cl, .int .i32 nx, .int .i32 0, .int .i32 n, .int .u8 1]) ∧
       w'.ownsRow base 65 2 rv' (n + 1) (rs ++ [.int .i64 lo, .int .i64 hi]) ∧ Kp [some b, pv.ownBlock, rv.ownBlock] w w' ∧
       (∀ k, pv'.ownBlock = some k → pv.ownBlock = some k ∨ w.heap.size ≤ k) ∧ (∀ k, rv'.ownBlock = some k → rv.ownBlock = some k ∨ w.heap.size ≤ k) ∧ (∀ k, pv'.ownBlock = some k → rv'.ownBlock ≠ some k) := by
  obtain ⟨i0, hi0, hz0, hz1, hz2⟩ := info_parts Try.info65
  have HF := hide hf
  clear hf
  have lb := hb.lt
  have ln := World.block_lt_of_cell? w _ c7
  go_enter Try.func33, Try.ntmps33
  go_upto_if 21 with fail
  go_cut [11] (fun v wx => v = .int .i64 (copies lo hi) ∧ w = wx)
  case first =>
    by_cases hm : hi < 0
    · go_wp2_with fail
      go_meet
      exact ⟨by unfold copies; rw [if_pos hm], rfl⟩
    · go_wp2_with fail
      go_meet
      exact ⟨by unfold copies; rw [if_neg (by omega)], rfl⟩
  case rest =>
    obtain ⟨rfl, rfl⟩ := hcut
    go_wp2_with fail
    refine (written_c b parts _ false pv rv zz _ hb).mono ?_
    rintro e w1 ⟨rfl, hb1, hk1⟩
    rw [show wrap64 (parts + wrap64 (copies lo hi * p)) = partsAfter parts lo hi p from rfl, unhide HF] at hb1
    have c4 := hb1.cell 4
    have c1 := hb1.cell 1
    have f1 := hb1.frozen 1
    simp at c4 c1
    have d7 : w1.cell? ⟨nb, 7, none⟩ = some (.int .i64 lo) := by rw [← c7]; exact World.cell?_of_block (hk1.block nb ln (by simp; exact hnb))
    have d8 : w1.cell? ⟨nb, 8, none⟩ = some (.int .i64 hi) := by rw [← c8]; exact World.cell?_of_block (hk1.block nb ln (by simp; exact hnb))
    have hr1 := hk1.owns hr (by intro k hk; simp; rintro rfl; exact hrb hk)
    have ho1 := hk1.owns ho (by intro k hk; simp; rintro rfl; exact hpb hk)
    have hs1 := hk1.size
    clear c7 c8
    have HB1 := hide hb1
    have lb1 := hb1.lt
    clear hb1
    go_upto_region 7 with fail
    go_cut [] (fun wx => ∃ rv', Blk wx b #[pv, rv', .int .i64 (partsAfter parts lo hi p), zz, .bool false] 70 ∧ wx.ownsRow base 79 5 pv n ps ∧
      wx.ownsRow base 65 2 rv' (n + 1) (rs ++ [.int .i64 lo, .int .i64 hi]) ∧ Kp [some b, pv.ownBlock, rv.ownBlock] w wx ∧
      (∀ k, rv'.ownBlock = some k → rv.ownBlock = some k ∨ w.heap.size ≤ k) ∧ (∀ k, rv'.ownBlock = some k → k < wx.heap.size) ∧ (∃ g cap, rv' = .slice (some ⟨g, 0, none⟩) (n + 1) cap))
    case first =>
      go_region_law
        ((refine step_append_lies _ (by rfl) _ _ _ (by rfl) base 65 i0 _ 2 16 Try.underlying68 hi0 hz0 hz1 hz2 rfl (by omega) rv n rs (by rfl) ((hr1.alloc _).drew)
            ⟨w1.heap.size, 0, none⟩ 1 1 [.int .i64 lo, .int .i64 hi] (by rfl) (by rfl) (World.news_of_block (cs := #[.int .i64 lo, .int .i64 hi]) (t := 65) (fr := (0, 0)) (new1 w1 _)) (by simp [Value.oneCell'])
            (by omega) (by unfold maxLen; omega) (by omega) (by simp; omega) (w1.heap.size + 1) (by simp) ?_; intro g cap w2 hown2 hgrow hat hlt; have hb2 := grown_blk hgrow (HB1.out.alloc _).drew (Ne.symm hrb); have c1' := hb2.cell 1; have f1' := hb2.frozen 1; simp at c1'))
      all_goals
        clear c1 c4 f1 d7 d8
        have hgb : g ≠ b := by rintro rfl; rcases hat with hat | hat; exact hrb hat; omega
        have hb3 := hb2.set 1 (.slice (some ⟨g, 0, none⟩) (n + 1) cap)
        have hr3 := owns_setCell hown2 (a := ⟨b, 1, none⟩) (by simpa [Value.ownBlock] using hgb) (.slice (some ⟨g, 0, none⟩) (n + 1) cap)
        have ho3 := owns_setCell (a := ⟨b, 1, none⟩) (grown_owns hgrow ((ho1.alloc _).drew) (fun k hk e => hpr k hk e.symm)) hpb (.slice (some ⟨g, 0, none⟩) (n + 1) cap)
        have hk3 : Kp [some b, pv.ownBlock, rv.ownBlock] w (w2.setCell ⟨b, 1, none⟩ (.slice (some ⟨g, 0, none⟩) (n + 1) cap)) :=
          (((hk1.mono (cs := [some b, pv.ownBlock, rv.ownBlock]) (by simp; intro i _ h; exact .inl h)).alloc _).drew.grown hgrow (fun k _ e => by simp [e])).setCell (.inr (by simp)) _
        simp at hb3
        go_wp2_with fail
        go_meet
        refine ⟨_, hb3, ho3, hr3, hk3, ?_, ?_, g, cap, rfl⟩
        · intro k hk
          simp [Value.ownBlock] at hk
          subst hk
          rcases hat with hat | hat
          · exact .inl hat
          · exact .inr (by omega)
        · intro k hk
          simp [Value.ownBlock] at hk
          subst hk
          simpa using hlt
    case rest =>
      obtain ⟨rv', hb4, ho4, hr4, hk4, hn4, hl4, g, cap, rfl⟩ := hcut
      clear c1 c4 f1 d7 d8
      have c1 := hb4.cell 1
      simp at c1
      go_wp2_with fail
      refine (emit_c b base n pv ps cl nx 0 n 1 _ _ _ _ _ hb4 ho4 (by have := hk4.size; omega) (by omega) hpb).mono ?_
      rintro e w5 ⟨pv', rfl, hb5, ho5, hk5, hn5⟩
      have hpg : pv.ownBlock ≠ some g := fun e => by
        rcases hn4 g rfl with h | h
        · exact hpr g e h
        · have := (ho.lt g e).2; omega
      have hgb : g ≠ b := by
        rintro rfl
        rcases hn4 g rfl with h | h
        · exact hrb h
        · omega
      go_wp2_with fail
      go_ret
      refine ⟨by simp, pv', _, hb5, ho5, hk5.owns hr4 ?_, hk4.trans hk5 (by simp; intro i _ h; rcases h with h | h <;> simp [h]), ?_, hn4, ?_⟩
      · intro k hk
        simp [Value.ownBlock] at hk
        subst hk
        simp [hgb]
        exact fun e => hpg e.symm
      · intro k hk
        rcases hn5 k hk with h | h
        · exact .inl h
        · exact .inr (by have := hk4.size; omega)
      · intro k hk e
        simp [Value.ownBlock] at e
        subst e
        rcases hn5 g hk with h | h
        · exact hpg h
        · have := hl4 g rfl; omega
end Go.Proofs.Qxb6600955a
