import Derived.Test.Qxb6600955aGrow
namespace Go.Proofs.Qxb6600955a
open Go.RowKit

theorem idx_inj {n f i j : Nat} (_hf : f < n) (hi : i < n) (hj : j < n) (h : idx n f i = idx n f j) : i = j := by
  unfold idx at h
  split at h <;> split at h <;> omega

theorem rget_set_ne {ss : List Int} {f i r : Nat} {t : Int} (hf : f < ss.length) (hi : i < ss.length) (hr : r < ss.length) (h : i ≠ r) : rget (ss.set (idx ss.length f r) t) f i = rget ss f i := by
  unfold rget
  rw [List.length_set, List.getD, List.getD, List.getElem?_set_ne (fun e => h (idx_inj hf hi hr e.symm))]

theorem rget_set {ss : List Int} {f r : Nat} {t : Int} (hf : f < ss.length) (hr : r < ss.length) : rget (ss.set (idx ss.length f r) t) f r = t := by
  unfold rget
  rw [List.length_set, List.getD, List.getElem?_set_self (idx_lt hf hr)]
  rfl

theorem grownList_length {ss : List Int} {f N : Nat} (hf : f ≤ ss.length) (hN : ss.length < N) : (grownList ss f N).length = N := by
  simp [grownList]; omega

theorem rget_grown {ss : List Int} {f N i : Nat} (hf : f ≤ ss.length) (hf2 : 0 < ss.length → f < ss.length) (hN : ss.length < N) (hi : i < ss.length) : rget (grownList ss f N) 0 i = rget ss f i := by
  have hf3 := hf2 (by omega)
  unfold rget
  rw [grownList_length hf hN]
  have e : idx N 0 i = i := by unfold idx; rw [if_neg (by omega)]; omega
  rw [e]
  unfold idx grownList
  simp only [List.getD]
  congr 1
  rw [List.getElem?_append_left (by simp; omega)]
  split
  · rw [List.getElem?_append_right (by simp; omega), List.getElem?_take, if_pos (by simp; omega)]
    congr 1
    simp
    omega
  · rw [List.getElem?_append_left (by simp; omega), List.getElem?_drop]

/-- What the ring is once a run has been laid at its end. -/
structure Laid (ss ss2 : List Int) (f f1 r : Nat) (t : Int) : Prop where
  ring : Ring ss2 f1 (r + 1)
  same : ∀ i, i < r → rget ss2 f1 i = rget ss f i
  last : rget ss2 f1 r = t
  len : ss2.length = ss.length ∨ ss2.length ≤ 2 * r + 4

theorem laid_of {ss ss1 : List Int} {f f1 r : Nat} {t : Int} (h : Ring ss f r) (t0 : 0 ≤ t) (t1 : t ≤ 9223372036854775807) (hf : f1 < ss1.length) (hr : r < ss1.length) (hl : ss1.length ≤ 5000000) (hs : ∀ i, i < r → rget ss1 f1 i = rget ss f i)
    (hlen : ss1.length = ss.length ∨ ss1.length ≤ 2 * r + 4) : Laid ss (ss1.set (idx ss1.length f1 r) t) f f1 r t := by
  refine ⟨⟨⟨by simp; omega, fun _ => by simpa using hf⟩, by simp; omega, by simpa using hl, fun i hi => ?_⟩, fun i hi => ?_, rget_set hf hr, by simpa using hlen⟩
  · by_cases e : i = r
    · subst e; rw [rget_set hf hr]; exact ⟨t0, t1⟩
    · rw [rget_set_ne hf (by omega) hr e, hs i (by omega)]
      exact h.pos i (by omega)
  · rw [rget_set_ne hf (by omega) hr (by omega), hs i hi]

set_option maxRecDepth 100000 in
set_option maxHeartbeats 2000000 in
theorem start_no (b f r : Nat) (sv : Value) (ss : List Int) (mn mx t : Int) (w : World) (hc : Ctr w b sv ss f (r + 1)) (hr : Ring ss f (r + 1)) (t0 : 0 ≤ t) (t1 : t ≤ 9223372036854775807) (he : rget ss f r = t) :
    Calls Try.prog 32 #[.pointer (some ⟨b, 0, none⟩), .agg #[.int .i64 mn, .int .i64 mx], .int .i64 t] w fun e w' => e = .returned (.bool false) ∧ Kp [] w w' := by
  have lb := hc.blk.lt
  have c2 := (hc.blk.alloc (.cells #[.int .i64 mn, .int .i64 mx] 65)).cell 2
  simp at c2
  have hC := hc.kept ((Kp.refl [] w).alloc (.cells #[.int .i64 mn, .int .i64 mx] 65)) (by simp) (by simp)
  have H0 := matched_r hC hr r (by omega) t t0 t1 0
  rw [he] at H0
  have H0 := hide H0
  have hln := hr.ln
  have hrn := hr.rn
  clear hc hr he hC
  go_enter Try.func32, Try.ntmps32
  go_wp2_with fail
  refine (unhide H0).mono ?_
  rintro e w1 ⟨rfl, q, rfl⟩
  go_wp2_with fail
  go_ret
  exact ⟨by simp, ((Kp.refl _ _).alloc _).dN _⟩

theorem set_cells (ss : List Int) (j : Nat) (t : Int) : (ss.map (Value.int .i64)).toArray.setIfInBounds j (.int .i64 t) = ((ss.set j t).map (Value.int .i64)).toArray := by
  apply Array.ext'
  simp only [Array.toList_setIfInBounds]
  rw [List.map_set]

set_option maxRecDepth 100000 in
set_option maxHeartbeats 4000000 in
theorem start_yes (b f r : Nat) (sv : Value) (ss : List Int) (mn mx t : Int) (w : World) (hc : Ctr w b sv ss f r) (hr : Ring ss f r) (hln : ss.length ≤ 2000000) (t0 : 0 ≤ t) (t1 : t ≤ 9223372036854775807) (he : ∀ i, r = i + 1 → rget ss f i ≠ t) :
    Calls Try.prog 32 #[.pointer (some ⟨b, 0, none⟩), .agg #[.int .i64 mn, .int .i64 mx], .int .i64 t] w fun e w' => e = .returned (.bool true) ∧
      ∃ sv2 ss2 f1, Laid ss ss2 f f1 r t ∧ Ctr w' b sv2 ss2 (pruned ss2 t mn mx (r + 1) f1).1 (pruned ss2 t mn mx (r + 1) f1).2 ∧ Kp [some b, sv.ownBlock] w w' ∧ ∀ g, sv2.ownBlock = some g → sv.ownBlock = some g ∨ w.heap.size ≤ g := by
  have lb := hc.blk.lt
  have HC0 := hide hc
  have HR := hide hr
  have hrn := hr.rn
  have hfn := hr.fn
  have hC := hc.kept ((Kp.refl [] w).alloc (.cells #[.int .i64 mn, .int .i64 mx] 65)) (by simp) (by simp)
  have hB : Blk (w.alloc (.cells #[.int .i64 mn, .int .i64 mx] 65)) w.heap.size #[.int .i64 mn, .int .i64 mx] 65 := Blk.new _ _ _
  have HK : Hid (Kp [] w (w.alloc (.cells #[.int .i64 mn, .int .i64 mx] 65))) := (Kp.refl _ _).alloc _
  have HE := hide he
  clear hc hr he
  go_enter Try.func32, Try.ntmps32
  go_upto_region 1 with fail
  generalize w.alloc (.cells #[.int .i64 mn, .int .i64 mx] 65) = W at *
  have HC := hide hC
  have HB := hide hB
  have c2 := hC.blk.cell 2
  simp at c2
  clear hC hB
  -- no run has started at the clock
  go_cut [22] (fun v wx => v = .bool false ∧ ∃ q, wx = W.drewN q)
  case first =>
    cases r with
    | zero =>
      go_wp2_with fail
      go_meet
      exact ⟨rfl, 0, rfl⟩
    | succ r =>
      have hne := HE.out r rfl
      have H0 := matched_r HC.out HR.out r (by omega) t t0 t1 0
      have hp := HR.out.pos r (by omega)
      generalize rget ss f r = s at *
      have hs : (t - s == 0) = false := beq_eq_false_iff_ne.2 (by omega)
      have H0 := hide H0
      clear hne HE
      go_wp2_with fail
      refine (unhide H0).mono ?_
      rintro e w1 ⟨rfl, q, rfl⟩
      go_wp2_with fail
      go_meet
      exact ⟨by simp, q, rfl⟩
  case rest =>
    obtain ⟨rfl, q, rfl⟩ := hcut
    have HC2 := hide (HC.out.drewN q)
    have HB2 := hide (HB.out.dN q)
    have HK2 := hide (HK.out.dN q)
    clear HC HB HK c2 HE
    go_upto_region 3 with fail
    generalize W.drewN q = W2 at *
    obtain ⟨a, rfl⟩ := HC2.out.slice
    have c0 := HC2.out.blk.cell 0
    have c2 := HC2.out.blk.cell 2
    simp at c0 c2
    go_quiet (fail)
    go_upto_if 32 with fail
    go_cut [] (fun wx => ∃ a1 ss1 f1, Ctr wx b (.slice a1 ss1.length ss1.length) ss1 f1 r ∧ f1 < ss1.length ∧ r < ss1.length ∧ ss1.length ≤ 5000000 ∧ (∀ i, i < r → rget ss1 f1 i = rget ss f i) ∧ (ss1.length = ss.length ∨ ss1.length ≤ 2 * r + 4) ∧
      Kp [some b] w wx ∧ Blk wx w.heap.size #[.int .i64 mn, .int .i64 mx] 65 ∧ (∀ g, (Value.slice a1 ss1.length ss1.length).ownBlock = some g → (Value.slice a ss.length ss.length).ownBlock = some g ∨ w.heap.size ≤ g))
    case first =>
      by_cases hfull : r = ss.length
      · have hb1 : ((r : Int) == (ss.length : Int)) = true := beq_iff_eq.2 (by omega)
        have d0 := HB2.out.cell 0
        have d1 := HB2.out.cell 1
        simp at d0 d1
        have HFU := hide hfull
        clear hfull
        go_wp2_with fail
        refine (grow_c b f r _ ss mn mx _ (HC2.out.drewN nq) HFU.out.symm (by have := HFU.out; omega) (by have := HFU.out; omega) (fun h => by have := HFU.out; have := hfn.2 (by omega); omega)).mono ?_
        rintro e w3 ⟨rfl, N, g, hN1, hN2, hg, hC, hk⟩
        have hglen := grownList_length (f := f) (N := N) hfn.1 (by have := HFU.out; omega)
        have HK3 := hide (((HK2.out.mono (cs := [some b]) (by simp)).dN nq).trans hk (by simp))
        have HB3 := hide (hk.blk (HB2.out.dN nq) (by simp; omega))
        have HC3 := hide hC
        have hgw : w.heap.size ≤ g := Nat.le_trans HK2.out.size hg
        have HGL := hide hglen
        clear hk hC hg hglen
        go_wp2_with fail
        go_meet
        refine ⟨some ⟨g, 0, none⟩, grownList ss f N, 0, by rw [HGL.out]; exact HC3.out, by rw [HGL.out]; omega, by rw [HGL.out]; exact hN1, by rw [HGL.out]; omega, ?_, .inr (by rw [HGL.out]; exact hN2), HK3.out, HB3.out, ?_⟩
        · intro i hi
          exact rget_grown hfn.1 hfn.2 (by have := HFU.out; omega) (by have := HFU.out; omega)
        · intro x hx
          simp only [Value.ownBlock, Option.some.injEq] at hx
          exact .inr (by omega)
      · have hb1 : ((r : Int) == (ss.length : Int)) = false := beq_eq_false_iff_ne.2 (by omega)
        go_wp2_with fail
        go_meet
        exact ⟨a, ss, f, HC2.out.drewN _, hfn.2 (by omega), by omega, by omega, fun _ _ => rfl, .inl rfl, (HK2.out.mono (by simp)).dN _, HB2.out.dN _, fun g hg => .inl hg⟩
    case rest =>
      obtain ⟨a1, ss1, f1, hC3, hf1, hr1, hl1, hs1, hlen1, hK3, hB3, hown⟩ := hcut
      clear HC2 HB2 HK2 c0 c2
      obtain ⟨g1, hg1⟩ : ∃ g1, a1 = some ⟨g1, 0, none⟩ ∧ g1 ≠ b ∧ Blk wc g1 (ss1.map (Value.int .i64)).toArray 3 := by
        rcases hC3.row with ⟨_, e⟩ | ⟨g1, e, h1, h2⟩
        · rw [e] at hr1; simp at hr1
        · simp only [Value.slice.injEq, and_true] at e
          exact ⟨g1, e, h1, h2⟩
      obtain ⟨rfl, hg1b, hG1⟩ := hg1
      have hjl := idx_lt hf1 hr1
      have H39 : Hid (∀ W', Blk W' b #[.slice (some ⟨g1, 0, none⟩) ss1.length ss1.length, .int .i64 f1, .int .i64 r] 62 → Calls Try.prog 39 #[.pointer (some ⟨b, 0, none⟩), .int .i64 r] W' fun e w' => e = .returned (.int .i64 (idx ss1.length f1 r : Nat)) ∧ W' = w') :=
        fun W' hW' => at_c b ss1.length f1 r ss1.length _ _ W' hW' (by omega) (by omega) (by omega)
      have hLaid := laid_of HR.out t0 t1 hf1 hr1 hl1 hs1 hlen1
      have hG2 := hG1.set (idx ss1.length f1 r) (.int .i64 t)
      rw [set_cells] at hG2
      have hold : ∃ v, wc.cell? ⟨g1, idx ss1.length f1 r, none⟩ = some v := by
        rw [hG1.cell]
        exact ⟨_, Array.getElem?_eq_getElem (by simpa using hjl)⟩
      obtain ⟨ov, hold⟩ := hold
      have fz1 := hG1.frozen
      have hb3 := hC3.blk
      have c0 := hb3.cell 0
      have c2 := hb3.cell 2
      simp at c0 c2
      have HL := hide hLaid
      have HG2 := hide hG2
      have hrep : g1 ≠ w.heap.size := by
        rintro rfl
        have h1 := hG1
        have h2 := hB3
        unfold Blk at h1 h2
        rw [h1] at h2
        simp at h2
      have HBB := hide hb3
      have HC3 := hide hC3
      have HK3 := hide hK3
      have HB3 := hide hB3
      have HOWN := hide hown
      clear hLaid hG2 hb3 hC3 hK3 hB3 hs1 hlen1 hown hG1
      have hj0 : (0 : Int) ≤ ((idx ss1.length f1 r : Nat) : Int) := by omega
      have hj1 : ((idx ss1.length f1 r : Nat) : Int) < (ss1.length : Int) := by omega
      go_upto_region 5 with fail
      go_cut [] (fun wx => Blk wx g1 ((ss1.set (idx ss1.length f1 r) t).map (Value.int .i64)).toArray 3 ∧ Blk wx b #[.slice (some ⟨g1, 0, none⟩) ss1.length ss1.length, .int .i64 f1, .int .i64 r] 62 ∧ Kp [some g1] wc wx)
      case first =>
        go_region_with
          (first
            | (go_at_call 39; refine (unhide H39 _ (by exact unhide HBB)).mono ?_; rintro e w' ⟨rfl, rfl⟩))
        all_goals
          go_wp2_with fail
          go_meet
          exact ⟨HG2.out.drew, (HBB.out.set_ne (by simpa using hg1b) _).drew, ((Kp.refl _ _).setCell (.inr (by simp)) _).drew⟩
      case rest =>
        obtain ⟨hG4, hB4, hK4⟩ := hcut
        clear c0 c2 hold fz1
        have hs2 : (ss1.set (idx ss1.length f1 r) t).length = ss1.length := by simp
        have hC5 : Ctr (wc.setCell ⟨b, 2, none⟩ (.int .i64 ((r : Int) + 1))) b (.slice (some ⟨g1, 0, none⟩) ss1.length ss1.length) (ss1.set (idx ss1.length f1 r) t) f1 (r + 1) :=
          ⟨by simpa using hB4.set 2 (.int .i64 ((r : Int) + 1)), .inr ⟨g1, by rw [hs2], hg1b, hG4.set_ne (by simp; omega) _⟩⟩
        have hB5 : Blk (wc.setCell ⟨b, 2, none⟩ (.int .i64 ((r : Int) + 1))) w.heap.size #[.int .i64 mn, .int .i64 mx] 65 := (hK4.blk HB3.out (by simp; omega)).set_ne (by simp; omega) _
        have hKF : Kp [some b, (Value.slice a ss.length ss.length).ownBlock] w (wc.setCell ⟨b, 2, none⟩ (.int .i64 ((r : Int) + 1))) :=
          ((HK3.out.mono (cs := [some b, (Value.slice a ss.length ss.length).ownBlock]) (by simp; intro i _ h; exact .inl h)).trans hK4 (fun i hi hm => by
            simp only [List.mem_singleton, Option.some.injEq] at hm
            subst hm
            rcases HOWN.out i rfl with h | h
            · simp [h]
            · omega)).setCell (.inr (by simp)) _
        have c2 := hB4.cell 2
        have fz := hB4.frozen
        simp at c2
        have d0 := hB5.cell 0
        have d1 := hB5.cell 1
        simp at d0 d1
        have HC5 := hide hC5
        have HKF := hide hKF
        clear hC5 hKF hB5 hG4 hB4 hK4 hs2 HG2 HBB HC3 HK3 HB3 H39
        go_wp2_with fail
        refine (prune_c b f1 (r + 1) _ _ mn mx t _ HC5.out HL.out.ring t0 t1).mono ?_
        rintro e w6 ⟨rfl, hC6, hk6⟩
        have HK6 := hide (HKF.out.trans hk6 (by simp; intro i _ h; exact .inl h))
        have HC6 := hide hC6
        clear hC6 hk6 d0 d1 c2 fz
        go_wp2_with fail
        go_ret
        exact ⟨by simp, _, _, f1, HL.out, HC6.out, HK6.out, HOWN.out⟩
end Go.Proofs.Qxb6600955a
