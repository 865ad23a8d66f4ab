import Derived.Test.Qxb6600955aCtr5
import Derived.Laws.CopyOwn
import Derived.Deep.RegionLaw
namespace Go.Proofs.Qxb6600955a
open Go.RowKit

/-- The grown ring's content. -/
def grownList (ss : List Int) (f N : Nat) : List Int := ss.drop f ++ ss.take f ++ List.replicate (N - ss.length) 0

theorem splice_two {α : Type} (z : α) (N : Nat) (X1 X2 : List α) :
    splice (splice (List.replicate N z) 0 X1) X1.length X2 = X1 ++ X2 ++ List.replicate (N - (X1.length + X2.length)) z := by
  have s1 : splice (List.replicate N z) 0 X1 = X1 ++ List.replicate (N - X1.length) z := by simp [splice]
  rw [s1]
  unfold splice
  rw [List.take_left, List.drop_append, List.drop_eq_nil_of_le (by omega), List.nil_append, Nat.add_sub_cancel_left, List.drop_replicate, List.append_assoc, Nat.sub_sub]

theorem kp_below {w W w5 : World} {g : Nat} (h : Kp [] w W) (hb : Below g W w5) (hg : w.heap.size ≤ g) : Kp [] w w5 :=
  ⟨hb.os.trans h.os, hb.tape.trans h.tape, hb.output.trans h.output, Nat.le_trans h.size hb.size, fun k hk hn => (hb.block k (by omega)).trans (h.block k hk hn)⟩

theorem blk_below {W w5 : World} {g : Nat} (hb : Below g W w5) {b : Nat} {cs : Array Value} {t : TypeId} (h : Blk W b cs t) (hg : b < g) : Blk w5 b cs t := by
  unfold Blk at *
  rw [hb.block b hg]; exact h

theorem src_cells {W : World} {gs : Nat} {ss : List Int} (h : Blk W gs (ss.map (Value.int .i64)).toArray 3) (f : Nat) (cs : List Int) (hcs : ∀ j u, cs[j]? = some u → ss[f + j]? = some u) :
    ∀ j v, (cs.map (Value.int .i64))[j]? = some v → W.cell? ((⟨gs, f, none⟩ : Addr).add j) = some v := by
  intro j v hv
  have e : (⟨gs, f, none⟩ : Addr).add j = ⟨gs, f + j, none⟩ := by
    unfold Addr.add
    split
    · simp_all
    · rfl
  rw [e, h.cell]
  simp only [List.getElem?_map, Option.map_eq_some_iff] at hv
  obtain ⟨u, hu, rfl⟩ := hv
  simp [hcs j u hu]

theorem ints_one (l : List Int) : ∀ v ∈ l.map (Value.int .i64), v.oneCell' = true := by
  intro v hv
  simp only [List.mem_map] at hv
  obtain ⟨u, _, rfl⟩ := hv
  rfl

theorem grow_final {w W w5 : World} {b g f n N : Nat} {ss : List Int} {sv : Value} (hK : Kp [] w W) (hB : Below g W w5) (hb : Blk W b #[sv, .int .i64 f, .int .i64 n] 62) (hbg : b < g) (hgw : w.heap.size ≤ g)
    (hG : w5.heap[g]? = some (.cells (splice (splice (List.replicate N (Value.int .i64 0)) 0 ((ss.drop f).map (Value.int .i64))) (n - f) ((ss.take f).map (Value.int .i64))).toArray 3 (0, 0))) (hn : ss.length = n) (hf : f ≤ n) (hN : n < N) :
    Ctr ((w5.setCell ⟨b, 0, none⟩ (.slice (some ⟨g, 0, none⟩) N N)).setCell ⟨b, 1, none⟩ (.int .i64 0)) b (.slice (some ⟨g, 0, none⟩) N N) (grownList ss f N) 0 n ∧
    Kp [some b] w ((w5.setCell ⟨b, 0, none⟩ (.slice (some ⟨g, 0, none⟩) N N)).setCell ⟨b, 1, none⟩ (.int .i64 0)) := by
  have hlen : (grownList ss f N).length = N := by simp [grownList]; omega
  have e1 : ((ss.drop f).map (Value.int .i64)).length = n - f := by simp; omega
  have e2 : ((ss.take f).map (Value.int .i64)).length = f := by simp; omega
  have hG' : Blk w5 g ((grownList ss f N).map (Value.int .i64)).toArray 3 := by
    have e := splice_two (Value.int .i64 0) N ((ss.drop f).map (Value.int .i64)) ((ss.take f).map (Value.int .i64))
    rw [e1, e2] at e
    rw [e] at hG
    unfold Blk
    rw [hG, grownList, List.map_append, List.map_append, List.map_replicate, hn, show n - f + f = n from by omega]
  refine ⟨⟨by simpa using ((blk_below hB hb hbg).set 0 (.slice (some ⟨g, 0, none⟩) N N)).set 1 (.int .i64 0), .inr ⟨g, by rw [hlen], by omega, (hG'.set_ne (by simp; omega) _).set_ne (by simp; omega) _⟩⟩, ?_⟩
  exact (((kp_below hK hB hgw).mono (cs := [some b]) (by simp)).setCell (.inr (by simp)) _).setCell (.inr (by simp)) _

theorem Try.sizeInt : (Try.prog.info? 3).map (·.size) = some 1 := by kernel_rfl

set_option maxRecDepth 100000 in
set_option maxHeartbeats 2000000 in
theorem grow_c (b f n : Nat) (sv : Value) (ss : List Int) (mn mx : Int) (w : World) (hc : Ctr w b sv ss f n) (hn : ss.length = n) (hl : n ≤ 2000000) (hf : f ≤ n) (hf2 : 0 < n → f < n) :
    Calls Try.prog 38 #[.pointer (some ⟨b, 0, none⟩), .agg #[.int .i64 mn, .int .i64 mx]] w fun e w' => e = .returned (.tuple #[]) ∧ ∃ N g, n < N ∧ N ≤ 2 * n + 4 ∧ w.heap.size ≤ g ∧
      Ctr w' b (.slice (some ⟨g, 0, none⟩) N N) (grownList ss f N) 0 n ∧ Kp [some b] w w' := by
  obtain ⟨a, rfl⟩ := hc.slice
  rw [hn] at hc
  have c0 := hc.blk.cell 0
  have c1 := hc.blk.cell 1
  have lb := hc.blk.lt
  simp at c0 c1
  have HC := hide hc
  have HN := hide hn
  clear hc hn
  go_enter Try.func38, Try.ntmps38
  go_upto_region 1 with fail
  go_cut [4] (fun v wx => ∃ room : Int, v = .int .i64 room ∧ room ≤ 2 * (n : Int) + 4 ∧ Kp [] w wx ∧ wx.heap.size = w.heap.size + 1)
  case first =>
    by_cases hA : 2 * (n : Int) < 4
    · by_cases hB : wrap64 (mn + 2) < 4
      all_goals
        go_region
        go_wp2_with fail
        go_meet
        exact ⟨_, rfl, by omega, ((Kp.refl _ _).alloc _).drew, by simp⟩
    · by_cases hB : wrap64 (mn + 2) < 2 * (n : Int)
      all_goals
        go_region
        go_wp2_with fail
        go_meet
        exact ⟨_, rfl, by omega, ((Kp.refl _ _).alloc _).drew, by simp⟩
  case rest =>
    obtain ⟨room, rfl, hroom, hk1, hs1⟩ := hcut
    obtain ⟨N, hN, hN1, hN2⟩ : ∃ N : Nat, (if room < (n : Int) + 1 then (n : Int) + 1 else room) = (N : Int) ∧ n < N ∧ N ≤ 2 * n + 4 := by
      refine ⟨(if room < (n : Int) + 1 then (n : Int) + 1 else room).toNat, ?_, ?_, ?_⟩
      · split <;> omega
      · split <;> omega
      · split <;> omega
    have hC1 := HC.out.kept hk1 (by simp) (by simp)
    clear c0 c1
    have c0 := hC1.blk.cell 0
    have c1 := hC1.blk.cell 1
    simp at c0 c1
    have hmk := mkInts (P := Try.prog) (t := 27) (e := 3) Try.underlying27 Try.infoInt N (by omega) (by omega)
    have HS := hide hs1
    clear hs1
    go_upto_region 3 with fail
    have hCW := hC1.kept ((Kp.refl [] _).alloc (.cells (madeCells #[Value.int IntKind.i64 0] N) 3)) (by simp) (by simp)
    have hKW : Kp [] w (wc.alloc (.cells (madeCells #[Value.int IntKind.i64 0] N) 3)) := hk1.alloc _
    have hGW : Blk (wc.alloc (.cells (madeCells #[Value.int IntKind.i64 0] N) 3)) wc.heap.size (List.replicate N (Value.int IntKind.i64 0)).toArray 3 := by
      have e : (List.replicate N (Value.int IntKind.i64 0)).toArray = madeCells #[Value.int IntKind.i64 0] N := by
        apply Array.ext'
        rw [toList_madeCells_one]
      rw [e]
      exact Blk.new _ _ _
    have hgw : w.heap.size ≤ wc.heap.size := hk1.size
    have hrl : ∀ x, a = some ⟨x, 0, none⟩ → x < wc.heap.size := fun x hx => by
      rcases hC1.row with ⟨e, _⟩ | ⟨g', e, _, hb'⟩
      · rw [hx] at e; simp at e
      · rw [hx] at e
        simp only [Value.slice.injEq, Option.some.injEq, Addr.mk.injEq, and_true] at e
        have := hb'.lt
        omega
    have hbg : b < wc.heap.size := hC1.blk.lt
    clear c0 c1 hk1 hC1 hN hmk HS hroom HC
    generalize wc.alloc (.cells (madeCells #[Value.int IntKind.i64 0] N) 3) = W at *
    generalize wc.heap.size = g at *
    have c0 := hCW.blk.cell 0
    have c1 := hCW.blk.cell 1
    have fz := hCW.blk.frozen
    simp at c0 c1
    have HCW := hide hCW
    have HKW := hide hKW
    have HGW := hide hGW
    clear hCW hKW hGW
    by_cases hz : 0 < n
    · have hff := hf2 hz
      rcases HCW.out.row with ⟨_, e⟩ | ⟨gs, e, hgs, hbs⟩
      · exact absurd (HN.out) (by rw [e]; simp; omega)
      · rw [HN.out] at e
        simp only [Value.slice.injEq, and_true] at e
        subst e
        have hf0 : (0 : Int) ≤ (f : Int) := by omega
        have hf1 : (f : Int) ≤ (n : Int) := by omega
        have hf3 : ¬ n = f := by omega
        have HBS := hide hbs
        have hgsg : gs < g := hrl gs rfl
        clear hbs
        have hsrc1 := src_cells HBS.out f (ss.drop f) (fun j u hu => by rw [List.getElem?_drop] at hu; exact hu)
        have hsrc2 := fun w5 (hb5 : Below g W w5) => src_cells (blk_below hb5 HBS.out hgsg) 0 (ss.take f) (fun j u hu => by rw [List.getElem?_take] at hu; split at hu <;> simp_all)
        have hone1 := ints_one (ss.drop f)
        have hone2 := ints_one (ss.take f)
        have HFIN := hide (fun w5 (hb5 : Below g W w5) hg5 => grow_final (ss := ss) (N := N) HKW.out hb5 HCW.out.blk hbg hgw hg5 HN.out hf hN1)
        have hlen1 : ((ss.drop f).map (Value.int .i64)).length = n - f := by simp; have := HN.out; omega
        have hlen2 : ((ss.take f).map (Value.int .i64)).length = f := by simp; have := HN.out; omega
        have HS2 := hide hsrc2
        clear hsrc2
        generalize (ss.drop f).map (Value.int .i64) = X1 at *
        generalize (ss.take f).map (Value.int .i64) = X2 at *
        go_cut [6] (fun v wx => v = .int .i64 ((n - f : Nat) : Int) ∧ wx.heap[g]? = some (.cells (splice (List.replicate N (Value.int .i64 0)) 0 X1).toArray 3 (0, 0)) ∧ Below g W wx)
        case first =>
          go_region_law
            ((refine step_copy_splice (by rfl) (.tmp 27) (.tmp 36) 27 27 (by rfl) 3 Try.underlying27 Try.sizeInt (some ⟨g, 0, none⟩) (some ⟨gs, f, none⟩) N N (n - f) (n - f) (by rfl) (by rfl) g 0 (List.replicate N (Value.int .i64 0)) 3 (by exact HGW.out) X1 (by rw [hlen1]; exact (Nat.min_eq_left (by omega)).symm) (fun _ => ⟨rfl, _, rfl, hsrc1⟩) (by rw [hlen1]; simp; omega) hone1 g W (Below.refl _ _).drew (Nat.le_refl _) ?_; intro w4 hg4 hb4))
          all_goals
            go_wp2_with fail
            go_meet
            exact ⟨by simp, hg4.out, hb4⟩
        case rest =>
          obtain ⟨rfl, hg4, hb4⟩ := hcut
          have HG4 := hide hg4
          clear hg4 c0 c1 hsrc1 fz
          have hbb := blk_below hb4 HCW.out.blk hbg
          have c0 := hbb.cell 0
          have c1 := hbb.cell 1
          have fz := hbb.frozen
          simp at c0 c1
          have HBB := hide hbb
          clear hbb
          have hm0 : (0 : Int) ≤ ((n - f : Nat) : Int) := by omega
          have hm1 : ((n - f : Nat) : Int) ≤ (N : Int) := by omega
          have hm2 : ¬ N = n - f := by omega
          have hcl : (splice (List.replicate N (Value.int .i64 0)) 0 X1).length = N := by rw [length_splice _ _ _ (by rw [hlen1]; simp; omega)]; simp
          generalize hml : n - f = m at *
          have hsrc2 := HS2.out wc hb4
          go_upto_region 4 with fail
          go_cut [] (fun wx => wx.heap[g]? = some (.cells (splice (splice (List.replicate N (Value.int .i64 0)) 0 X1) m X2).toArray 3 (0, 0)) ∧ Below g W wx)
          case first =>
            go_region_law
              ((refine step_copy_splice (by rfl) (.tmp 40) (.tmp 49) 27 27 (by rfl) 3 Try.underlying27 Try.sizeInt (some ⟨g, m, none⟩) (some ⟨gs, 0, none⟩) (N - m) (N - m) f n (by rfl) (by rfl) g m (splice (List.replicate N (Value.int .i64 0)) 0 X1) 3 (by exact HG4.out) X2 (by rw [hlen2]; exact (Nat.min_eq_left (by omega)).symm) (fun _ => ⟨rfl, _, rfl, hsrc2⟩) (by rw [hlen2, hcl]; omega) hone2 g W hb4.drew (Nat.le_refl _) ?_; intro w5 hg5 hb5))
            all_goals
              go_wp2_with fail
              go_meet
              exact ⟨hg5.out, hb5⟩
          case rest =>
            obtain ⟨hg5, hb5⟩ := hcut
            have HF := hide (HFIN.out wc hb5 hg5)
            clear hg5 c0 c1 hsrc2 fz
            have hbb := blk_below hb5 HCW.out.blk hbg
            have c0 := hbb.cell 0
            have c1 := hbb.cell 1
            have fz := hbb.frozen
            simp at c0 c1
            clear hbb
            go_wp2_with fail
            go_end0
            exact ⟨rfl, N, g, hN1, hN2, hgw, HF.out.1, HF.out.2⟩
    · have hn0 : n = 0 := by omega
      subst hn0
      have hf00 : f = 0 := by omega
      subst hf00
      have hss : ss = [] := List.length_eq_zero_iff.1 HN.out
      have HFIN := hide (fun w5 (hb5 : Below g W w5) hg5 => grow_final (ss := ss) (N := N) HKW.out hb5 HCW.out.blk hbg hgw hg5 HN.out hf hN1)
      subst hss
      cases a with
      | none =>
        go_cut [6] (fun v wx => v = .int .i64 0 ∧ wx.heap[g]? = some (.cells (splice (List.replicate N (Value.int .i64 0)) 0 []).toArray 3 (0, 0)) ∧ Below g W wx)
        case first =>
          go_region_law
            ((refine step_copy_splice (by rfl) (.tmp 27) (.tmp 36) 27 27 (by rfl) 3 Try.underlying27 Try.sizeInt (some ⟨g, 0, none⟩) none N N 0 0 (by rfl) (by rfl) g 0 (List.replicate N (Value.int .i64 0)) 3 (by exact HGW.out) [] (by simp) (fun h => by simp at h) (by simp) (by simp) g W (Below.refl _ _).drew (Nat.le_refl _) ?_; intro w4 hg4 hb4))
          all_goals
            go_wp2_with fail
            go_meet
            exact ⟨by simp, hg4.out, hb4⟩
        case rest =>
          obtain ⟨rfl, hg4, hb4⟩ := hcut
          have HG4 := hide hg4
          clear hg4 c0 c1 fz
          have hbb := blk_below hb4 HCW.out.blk hbg
          have c0 := hbb.cell 0
          have c1 := hbb.cell 1
          have fz := hbb.frozen
          simp at c0 c1
          clear hbb
          have hcl : (splice (List.replicate N (Value.int .i64 0)) 0 []).length = N := by rw [length_splice _ _ _ (by simp)]; simp
          go_upto_region 4 with fail
          go_cut [] (fun wx => wx.heap[g]? = some (.cells (splice (splice (List.replicate N (Value.int .i64 0)) 0 []) 0 []).toArray 3 (0, 0)) ∧ Below g W wx)
          case first =>
            go_region_law
              ((refine step_copy_splice (by rfl) (.tmp 40) (.tmp 49) 27 27 (by rfl) 3 Try.underlying27 Try.sizeInt (some ⟨g, 0, none⟩) none N N 0 0 (by rfl) (by rfl) g 0 (splice (List.replicate N (Value.int .i64 0)) 0 []) 3 (by exact HG4.out) [] (by simp) (fun h => by simp at h) (by simp) (by simp) g W hb4.drew (Nat.le_refl _) ?_; intro w5 hg5 hb5))
            all_goals
              go_wp2_with fail
              go_meet
              exact ⟨hg5.out, hb5⟩
          case rest =>
            obtain ⟨hg5, hb5⟩ := hcut
            have HF := hide (HFIN.out wc hb5 hg5)
            clear hg5 c0 c1 fz
            have hbb := blk_below hb5 HCW.out.blk hbg
            have c0 := hbb.cell 0
            have c1 := hbb.cell 1
            have fz := hbb.frozen
            simp at c0 c1
            clear hbb
            go_wp2_with fail
            go_end0
            exact ⟨rfl, N, g, hN1, hN2, hgw, HF.out.1, HF.out.2⟩
      | some x =>
        go_cut [6] (fun v wx => v = .int .i64 0 ∧ wx.heap[g]? = some (.cells (splice (List.replicate N (Value.int .i64 0)) 0 []).toArray 3 (0, 0)) ∧ Below g W wx)
        case first =>
          go_region_law
            ((refine step_copy_splice (by rfl) (.tmp 27) (.tmp 36) 27 27 (by rfl) 3 Try.underlying27 Try.sizeInt (some ⟨g, 0, none⟩) (some x) N N 0 0 (by rfl) (by rfl) g 0 (List.replicate N (Value.int .i64 0)) 3 (by exact HGW.out) [] (by simp) (fun h => by simp at h) (by simp) (by simp) g W (Below.refl _ _).drew (Nat.le_refl _) ?_; intro w4 hg4 hb4))
          all_goals
            go_wp2_with fail
            go_meet
            exact ⟨by simp, hg4.out, hb4⟩
        case rest =>
          obtain ⟨rfl, hg4, hb4⟩ := hcut
          have HG4 := hide hg4
          clear hg4 c0 c1 fz
          have hbb := blk_below hb4 HCW.out.blk hbg
          have c0 := hbb.cell 0
          have c1 := hbb.cell 1
          have fz := hbb.frozen
          simp at c0 c1
          clear hbb
          have hcl : (splice (List.replicate N (Value.int .i64 0)) 0 []).length = N := by rw [length_splice _ _ _ (by simp)]; simp
          go_upto_region 4 with fail
          go_cut [] (fun wx => wx.heap[g]? = some (.cells (splice (splice (List.replicate N (Value.int .i64 0)) 0 []) 0 []).toArray 3 (0, 0)) ∧ Below g W wx)
          case first =>
            go_region_law
              ((refine step_copy_splice (by rfl) (.tmp 40) (.tmp 49) 27 27 (by rfl) 3 Try.underlying27 Try.sizeInt (some ⟨g, 0, none⟩) (some x) N N 0 0 (by rfl) (by rfl) g 0 (splice (List.replicate N (Value.int .i64 0)) 0 []) 3 (by exact HG4.out) [] (by simp) (fun h => by simp at h) (by simp) (by simp) g W hb4.drew (Nat.le_refl _) ?_; intro w5 hg5 hb5))
            all_goals
              go_wp2_with fail
              go_meet
              exact ⟨hg5.out, hb5⟩
          case rest =>
            obtain ⟨hg5, hb5⟩ := hcut
            have HF := hide (HFIN.out wc hb5 hg5)
            clear hg5 c0 c1 fz
            have hbb := blk_below hb5 HCW.out.blk hbg
            have c0 := hbb.cell 0
            have c1 := hbb.cell 1
            have fz := hbb.frozen
            simp at c0 c1
            clear hbb
            go_wp2_with fail
            go_end0
            exact ⟨rfl, N, g, hN1, hN2, hgw, HF.out.1, HF.out.2⟩
end Go.Proofs.Qxb6600955a
