import Derived.Test.Qxb6600955aCtr2
import Derived.Deep.CutBlock
namespace Go.Proofs.Qxb6600955a
open Go.RowKit

/-- What a mismatch leaves: every run that started before t goes. -/
def skipped (ss : List Int) (t : Int) : Nat → Nat → Nat × Nat
  | 0, f => (f, 0)
  | r + 1, f => if 0 < t - rget ss f 0 then skipped ss t r (idx ss.length f 1) else (f, r + 1)

def skipIf (ss : List Int) (t : Int) (m : Bool) (r f : Nat) : Nat × Nat := if m then (f, r) else skipped ss t r f

theorem Ring.skipped {ss : List Int} {t : Int} : ∀ {r f : Nat}, Ring ss f r → Ring ss (skipped ss t r f).1 (skipped ss t r f).2
  | 0, _, h => h
  | r + 1, f, h => by
    unfold Qxb6600955a.skipped
    split
    · exact Ring.skipped h.drop
    · exact h

theorem Ring.pruned {ss : List Int} {t mn mx : Int} : ∀ {r f : Nat}, Ring ss f r → Ring ss (pruned ss t mn mx r f).1 (pruned ss t mn mx r f).2
  | 0, _, h => h
  | r + 1, f, h => by
    unfold Qxb6600955a.pruned
    split
    · exact Ring.pruned h.drop
    · exact h

/-- What pass answers, and the runs that it leaves, once mismatched runs are gone and the rest are pruned. -/
def passEnds (ss : List Int) (t mn : Int) (f r : Nat) : Bool := decide (0 < r) && decide (mn ≤ t - rget ss f 0)
def passMore (ss : List Int) (t mx : Int) (f r : Nat) : Bool := decide (0 < r) && (decide (mx < 0) || decide (t - rget ss f (r - 1) < mx))
def passRuns (ss : List Int) (t mx : Int) (f r : Nat) : Nat := if passMore ss t mx f r then r else 0

set_option maxRecDepth 100000 in
set_option maxHeartbeats 2000000 in
theorem pass_c (b f0 r0 : Nat) (sv : Value) (ss : List Int) (mn mx t : Int) (m : Bool) (w : World) (hc : Ctr w b sv ss f0 r0) (hr : Ring ss f0 r0) (t0 : 0 ≤ t) (t1 : t ≤ 9223372036854775807) (f2 r2 : Nat)
    (h2 : pruned ss t mn mx (skipIf ss t m r0 f0).2 (skipIf ss t m r0 f0).1 = (f2, r2)) :
    Calls Try.prog 31 #[.pointer (some ⟨b, 0, none⟩), .agg #[.int .i64 mn, .int .i64 mx], .int .i64 t, .bool m] w fun e w' => e = .returned (.tuple #[.bool (passEnds ss t mn f2 r2), .bool (passMore ss t mx f2 r2)]) ∧
      Ctr w' b sv ss f2 (passRuns ss t mx f2 r2) ∧ Kp [some b] w w' := by
  have lb := hc.blk.lt
  have HC := hide hc
  have HR := hide hr
  have H2 := hide h2
  clear hc hr h2
  go_enter Try.func31, Try.ntmps31
  go_upto_block 0 with fail
  go_cut [] (fun wx => Ctr wx b sv ss (skipIf ss t m r0 f0).1 (skipIf ss t m r0 f0).2 ∧ Kp [some b] w wx ∧ Blk wx w.heap.size #[.int .i64 mn, .int .i64 mx] 65)
  case first =>
    cases m with
    | true =>
      go_wp2_with fail
      refine wp_loop_once ?_
      go_wp2_with fail
      go_meet
      exact ⟨HC.out.kept ((Kp.refl [] _).alloc _) (by simp) (by simp), (Kp.refl _ _).alloc _, Blk.new _ _ _⟩
    | false =>
      go_wp2_with fail
      go_loopg [] r0 (fun r wr => ∃ f, Ctr wr b sv ss f r ∧ Ring ss f r ∧ skipped ss t r f = skipped ss t r0 f0 ∧ Kp [some b] w wr ∧ Blk wr w.heap.size #[.int .i64 mn, .int .i64 mx] 65)
      case atStart =>
        exact ⟨f0, HC.out.kept ((Kp.refl [] _).alloc _) (by simp) (by simp), HR.out, rfl, (Kp.refl _ _).alloc _, Blk.new _ _ _⟩
      case round =>
        obtain ⟨f, hC, hR, hp, hK, hB⟩ := hrel
        have c2 := hC.blk.cell 2
        simp at c2
        have HC' := hide hC
        have HR' := hide hR
        have HP := hide hp
        have HK := hide hK
        have HB := hide hB
        clear hC hR hp hK hB HC HR
        cases gk with
        | zero =>
          go_wp2_with fail
          go_meet
          have e : skipIf ss t false r0 f0 = (f, 0) := HP.out.symm
          exact ⟨by rw [e]; exact HC'.out, HK.out, HB.out⟩
        | succ r =>
          obtain ⟨a, rfl⟩ := HC'.out.slice
          have hfn := HR'.out.fn
          have hrn := HR'.out.rn
          have hln := HR'.out.ln
          have H0 : Hid (Calls Try.prog 34 #[.pointer (some ⟨b, 0, none⟩), .int .i64 0, .int .i64 t] wr fun e w' => e = .returned (.int .i64 (t - rget ss f 0)) ∧ ∃ q', w' = wr.drewN q') :=
            matched_r HC'.out HR'.out 0 (by omega) t t0 t1 0
          have hpos := HR'.out.pos 0 (by omega)
          generalize e0 : rget ss f 0 = s0 at *
          have E0 := hide e0
          clear e0
          by_cases hm : 0 < t - s0
          · have HPR : Hid (skipped ss t (r + 1) f = skipped ss t r (idx ss.length f 1)) := by
              show skipped ss t (r + 1) f = skipped ss t r (idx ss.length f 1)
              simp only [skipped, E0.out]
              rw [if_pos hm]
            go_wp2_with fail
            refine (unhide H0).mono ?_
            rintro e w2 ⟨rfl, q, rfl⟩
            go_wp2_with fail
            refine (drop_c b ss.length f (r + 1) ss.length a _ (by exact HC'.out.blk) hfn.1 (by omega) (by omega) (by omega) (by omega)).mono ?_
            rintro e w2 ⟨rfl, hb2, hk2⟩
            have HC2 := hide ((HC'.out.drewN q).frame hk2 hb2)
            have HK2 := hide ((HK.out.dN q).trans hk2 (by simp))
            have HB2 := hide (hk2.blk (HB.out.dN q) (by simp; omega))
            clear hb2 hk2
            go_wp2_with fail
            go_roundg r
            case measure => omega
            case rel => exact ⟨_, HC2.out, HR'.out.drop, by rw [← HP.out, HPR.out], HK2.out, HB2.out⟩
          · have HPR : Hid (skipped ss t (r + 1) f = (f, r + 1)) := by
              show skipped ss t (r + 1) f = (f, r + 1)
              simp only [skipped, E0.out]
              rw [if_neg hm]
            go_wp2_with fail
            refine (unhide H0).mono ?_
            rintro e w2 ⟨rfl, q, rfl⟩
            go_wp2_with fail
            go_meet
            have e : skipIf ss t false r0 f0 = (f, r + 1) := HP.out.symm.trans HPR.out
            exact ⟨by rw [e]; exact HC'.out.drewN _, HK.out.dN _, HB.out.dN _⟩
  case rest =>
    obtain ⟨hC, hK, hB⟩ := hcut
    have hR : Ring ss (skipIf ss t m r0 f0).1 (skipIf ss t m r0 f0).2 := by
      unfold skipIf
      split
      · exact HR.out
      · exact HR.out.skipped
    have d0 := hB.cell 0
    have d1 := hB.cell 1
    simp at d0 d1
    go_wp2_with fail
    refine (prune_c b _ _ sv ss mn mx t _ hC hR t0 t1).mono ?_
    rintro e w2 ⟨rfl, hC2, hK2⟩
    have hR2 := hR.pruned (t := t) (mn := mn) (mx := mx)
    rw [H2.out] at hC2 hR2
    have HB2 := hide (hK2.blk hB (by simp; omega))
    have HK2 := hide (hK.trans hK2 (by simp))
    have HC2 := hide hC2
    have HR2 := hide hR2
    clear hC hK hB hR hC2 hK2 hR2 d0 d1 HC HR H2
    have c2 := HC2.out.blk.cell 2
    have d0 := HB2.out.cell 0
    have d1 := HB2.out.cell 1
    simp at c2 d0 d1
    cases r2 with
    | zero =>
      go_wp2_with fail
      go_ret2
      exact ⟨rfl, HC2.out, HK2.out⟩
    | succ r =>
      have H0 : Hid (∀ q, Calls Try.prog 34 #[.pointer (some ⟨b, 0, none⟩), .int .i64 0, .int .i64 t] (w2.drewN q) fun e w' => e = .returned (.int .i64 (t - rget ss f2 0)) ∧ ∃ q', w' = w2.drewN q') :=
        fun q => matched_r HC2.out HR2.out 0 (by omega) t t0 t1 q
      have H1 : Hid (∀ q0 q, Calls Try.prog 34 #[.pointer (some ⟨b, 0, none⟩), .int .i64 r, .int .i64 t] ((w2.drewN q0).drewN q) fun e w' => e = .returned (.int .i64 (t - rget ss f2 r)) ∧ ∃ q', w' = (w2.drewN q0).drewN q') :=
        fun q0 q => matched_r (HC2.out.drewN q0) HR2.out r (by omega) t t0 t1 q
      have hrn := HR2.out.rn
      have hln := HR2.out.ln
      have HE : Hid (passEnds ss t mn f2 (r + 1) = decide (mn ≤ t - rget ss f2 0)) := by
        show passEnds ss t mn f2 (r + 1) = decide (mn ≤ t - rget ss f2 0)
        simp [passEnds]
      have HM : Hid (passMore ss t mx f2 (r + 1) = (decide (mx < 0) || decide (t - rget ss f2 r < mx))) := by
        show passMore ss t mx f2 (r + 1) = (decide (mx < 0) || decide (t - rget ss f2 r < mx))
        simp [passMore]
      generalize e0 : rget ss f2 0 = s0 at *
      clear e0
      generalize e1 : rget ss f2 r = s1 at *
      clear e1
      go_wp2_with fail
      go_quiet ((go_at_call 34; exact unhide H0 _))
      go_wp2_with fail
      have H1' := hide (unhide H1 nq)
      have HC3 := hide (HC2.out.drewN nq)
      have HK3 := hide (HK2.out.dN nq)
      have HB3 := hide (HB2.out.dN nq)
      clear c2 d0 d1 H0 H1 HC2 HK2 HB2
      generalize w2.drewN nq = w3 at *
      have c2 := HC3.out.blk.cell 2
      have d0 := HB3.out.cell 0
      have d1 := HB3.out.cell 1
      simp at c2 d0 d1
      by_cases hx : mx < 0
      · have HM' : Hid (passMore ss t mx f2 (r + 1) = true) := by
          show passMore ss t mx f2 (r + 1) = true
          rw [HM.out]; simp [hx]
        go_quiet (fail)
        go_wp2_with fail
        go_ret2
        refine ⟨by rw [HE.out, HM'.out]; simp, ?_, HK3.out.dN _⟩
        unfold passRuns
        rw [HM'.out]
        exact HC3.out.drewN _
      · have hxd : decide (mx < 0) = false := decide_eq_false hx
        by_cases hm : t - s1 < mx
        · have HM' : Hid (passMore ss t mx f2 (r + 1) = true) := by
            show passMore ss t mx f2 (r + 1) = true
            rw [HM.out]; simp [hm]
          go_quiet ((go_at_call 34; exact unhide H1' _))
          go_wp2_with fail
          go_ret2
          refine ⟨by rw [HE.out, HM'.out]; simp, ?_, HK3.out.dN _⟩
          unfold passRuns
          rw [HM'.out]
          exact HC3.out.drewN _
        · have HM' : Hid (passMore ss t mx f2 (r + 1) = false) := by
            show passMore ss t mx f2 (r + 1) = false
            rw [HM.out, hxd, decide_eq_false hm]; rfl
          have hmd : decide (t - s1 < mx) = false := decide_eq_false hm
          go_quiet ((go_at_call 34; exact unhide H1' _))
          go_wp2_with fail
          refine (reset_c b f2 (r + 1) sv _ (by exact HC3.out.blk)).mono ?_
          rintro e w5 ⟨rfl, hb5, hk5⟩
          have HC5 := hide ((HC3.out.drewN _).frame hk5 hb5)
          have HK5 := hide ((HK3.out.dN _).trans hk5 (by simp))
          clear hb5 hk5
          go_wp2_with fail
          go_ret2
          refine ⟨by rw [HE.out, HM'.out]; simp, ?_, HK5.out⟩
          unfold passRuns
          rw [HM'.out]
          exact HC5.out
end Go.Proofs.Qxb6600955a
