import Derived.Test.Qxb6600955aIdem
import Derived.Test.Qxb6600955aModel
namespace Go.Proofs.Qxb6600955a
open Go.RowKit

/-- The runs' starts, oldest first. -/
def runsOf (ss : List Int) (f r : Nat) : List Int := (List.range r).map (rget ss f)

theorem runsOf_len (ss : List Int) (f r : Nat) : (runsOf ss f r).length = r := by simp [runsOf]
theorem runsOf_zero (ss : List Int) (f : Nat) : runsOf ss f 0 = [] := rfl
theorem runsOf_snoc (ss : List Int) (f r : Nat) : runsOf ss f (r + 1) = runsOf ss f r ++ [rget ss f r] := by simp [runsOf, List.range_succ]

theorem runsOf_cons {ss : List Int} {f r : Nat} (h : Ring ss f (r + 1)) : runsOf ss f (r + 1) = rget ss f 0 :: runsOf ss (idx ss.length f 1) r := by
  have h1 := h.rn
  have hf := h.fn.2 (by omega)
  simp only [runsOf, List.range_succ_eq_map, List.map_cons, List.map_map, List.cons.injEq, true_and]
  apply List.map_congr_left
  intro i hi
  simp at hi
  exact (rget_step hf (by omega)).symm

theorem runsOf_head {ss : List Int} {f r : Nat} (h : Ring ss f (r + 1)) : (runsOf ss f (r + 1)).head? = some (rget ss f 0) := by rw [runsOf_cons h]; rfl

theorem runsOf_second {ss : List Int} {f r : Nat} (h : Ring ss f (r + 1 + 1)) : (runsOf ss (idx ss.length f 1) (r + 1)).head? = some (rget ss f 1) := by
  have h1 := h.rn
  rw [runsOf_head h.drop, rget_step (h.fn.2 (by omega)) (by omega)]

theorem dropNow_iff {ss : List Int} {t mn mx : Int} {f r : Nat} (h : Ring ss f (r + 1)) :
    dropNow ss t mn mx f (r + 1) = true ↔ ((0 ≤ mx ∧ mx < t - rget ss f 0) ∨ (∃ b, (runsOf ss (idx ss.length f 1) r).head? = some b ∧ mn ≤ t - b)) := by
  unfold dropNow
  rw [decide_eq_true_eq]
  cases r with
  | zero =>
    simp [runsOf_zero]
  | succ r =>
    rw [runsOf_second h]
    simp

theorem runs_pruned {ss : List Int} {t mn mx : Int} : ∀ {r f : Nat}, Ring ss f r → runsOf ss (pruned ss t mn mx r f).1 (pruned ss t mn mx r f).2 = pruneL t mn mx (runsOf ss f r)
  | 0, f, _ => by simp [pruned, runsOf_zero, pruneL]
  | r + 1, f, h => by
    rw [runsOf_cons h, pruned, pruneL]
    by_cases hd : dropNow ss t mn mx f (r + 1) = true
    · rw [if_pos hd, if_pos ((dropNow_iff h).1 hd)]
      exact runs_pruned h.drop
    · rw [if_neg hd, if_neg (fun e => hd ((dropNow_iff h).2 e)), ← runsOf_cons h]

theorem runs_laid {ss ss2 : List Int} {f f1 r : Nat} {t : Int} (h : Laid ss ss2 f f1 r t) : runsOf ss2 f1 (r + 1) = runsOf ss f r ++ [t] := by
  rw [runsOf_snoc, h.last]
  congr 1
  apply List.map_congr_left
  intro i hi
  simp at hi
  exact h.same i hi

theorem pruneL_len (t mn mx : Int) : ∀ L : List Int, (pruneL t mn mx L).length ≤ L.length
  | [] => by simp [pruneL]
  | a :: rest => by
    rw [pruneL]
    split
    · have := pruneL_len t mn mx rest
      simp; omega
    · exact Nat.le_refl _

/-- pass's answers read off the list of what prune has left. -/
theorem passEnds_nil (ss : List Int) (t mn : Int) (f : Nat) : passEnds ss t mn f 0 = false := rfl
theorem passEnds_iff {ss : List Int} {t mn : Int} {f r : Nat} : passEnds ss t mn f (r + 1) = true ↔ mn ≤ t - rget ss f 0 := by simp [passEnds]
theorem passMore_iff {ss : List Int} {t mx : Int} {f r : Nat} : passMore ss t mx f (r + 1) = true ↔ (mx < 0 ∨ t - rget ss f r < mx) := by simp [passMore]

/-- THE PASS AT CLOCK t, on the ring, against the model. -/
theorem pass_agrees {ss : List Int} {f0 r0 f2 r2 : Nat} {mn mx t lf : Int} {S : List Int} (m : Bool) (hr : Ring ss f0 r0) (hI : Inv mn mx (t - 1) (runsOf ss f0 r0) S lf)
    (h2 : pruned ss t mn mx (skipIf ss t m r0 f0).2 (skipIf ss t m r0 f0).1 = (f2, r2)) :
    (passEnds ss t mn f2 r2 = true ↔ liveEnds mn mx t (if m then lf else t) S) ∧ (passMore ss t mx f2 r2 = true ↔ liveMore mx t (if m then lf else t) S) ∧
    Inv mn mx t (runsOf ss f2 (passRuns ss t mx f2 r2)) S (if m then lf else t) ∧ Ring ss f2 (passRuns ss t mx f2 r2) ∧ passRuns ss t mx f2 r2 ≤ r0 := by
  cases m with
  | false =>
    have hlt : ∀ i, i < r0 → rget ss f0 i < t := fun i hi => by
      obtain ⟨D, hS, _⟩ := hI.dom
      have : rget ss f0 i ∈ runsOf ss f0 r0 := by
        simp only [runsOf, List.mem_map, List.mem_range]
        exact ⟨i, hi, rfl⟩
      have := (hI.rng (rget ss f0 i) (by rw [hS]; exact List.mem_append_right _ this)).2
      omega
    have hz := skipped_all r0 f0 hr hlt
    have hsk := hr.skipped (t := t)
    have e1 : skipIf ss t false r0 f0 = skipped ss t r0 f0 := rfl
    rw [e1, hz] at h2
    simp only [pruned, Prod.mk.injEq] at h2
    obtain ⟨rfl, rfl⟩ := h2
    rw [hz] at hsk
    obtain ⟨a, b, c⟩ := hI.miss
    refine ⟨?_, ?_, ?_, ?_, ?_⟩
    · simp [passEnds]; exact b
    · simp [passMore]; exact c
    · simp [passRuns, passMore, runsOf_zero]; exact a
    · simpa [passRuns, passMore] using hsk
    · simp [passRuns, passMore]
  | true =>
    have e1 : skipIf ss t true r0 f0 = (f0, r0) := rfl
    rw [e1] at h2
    have hrun := runs_pruned (t := t) (mn := mn) (mx := mx) hr
    have hR2 := hr.pruned (t := t) (mn := mn) (mx := mx)
    rw [h2] at hrun hR2
    have hlen : r2 ≤ r0 := by
      have := pruneL_len t mn mx (runsOf ss f0 r0)
      rw [← hrun, runsOf_len, runsOf_len] at this
      exact this
    cases r2 with
    | zero =>
      rw [runsOf_zero] at hrun
      obtain ⟨a, b, c⟩ := hI.hit_none hrun.symm
      refine ⟨?_, ?_, ?_, ?_, ?_⟩
      · simp [passEnds]; exact b
      · simp [passMore]; exact c
      · simp [passRuns, passMore, runsOf_zero]; exact a
      · simpa [passRuns, passMore] using hR2
      · simp [passRuns, passMore]
    | succ r =>
      have hx : (pruneL t mn mx (runsOf ss f0 r0)).head? = some (rget ss f2 0) := by rw [← hrun, runsOf_head hR2]
      have hl : pruneL t mn mx (runsOf ss f0 r0) = runsOf ss f2 r ++ [rget ss f2 r] := by rw [← hrun, runsOf_snoc]
      obtain ⟨a, b, c, d⟩ := hI.hit_some hx hl
      refine ⟨passEnds_iff.trans a.symm, passMore_iff.trans b.symm, ?_⟩
      by_cases hm : passMore ss t mx f2 (r + 1) = true
      · have e : passRuns ss t mx f2 (r + 1) = r + 1 := by rw [passRuns, if_pos hm]
        rw [e]
        refine ⟨?_, hR2, hlen⟩
        rw [hrun]
        exact c (passMore_iff.1 hm)
      · have e : passRuns ss t mx f2 (r + 1) = 0 := by rw [passRuns, if_neg hm]
        rw [e]
        refine ⟨d (fun x => hm (passMore_iff.2 x)), ⟨hR2.fn, by omega, hR2.ln, fun i hi => by omega⟩, by omega⟩
end Go.Proofs.Qxb6600955a
