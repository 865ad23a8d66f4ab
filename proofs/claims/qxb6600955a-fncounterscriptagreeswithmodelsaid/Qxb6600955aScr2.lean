import Derived.Test.Qxb6600955aScr
namespace Go.Proofs.Qxb6600955a
open Go.RowKit

/-- The law's state between two calls: at clock t, S the starts so far, lf the last mismatch. -/
structure Scr (w wr : World) (base b gs n : Nat) (zs : List Int) (mn mx t : Int) (sv : Value) (ss : List Int) (f r : Nat) (S : List Int) (lf : Int) (av : Value) (k : Nat) : Prop where
  ctr : Ctr wr b sv ss f r
  ring : Ring ss f r
  len : ss.length ≤ 20000
  inv : Inv mn mx t (runsOf ss f r) S lf
  hav : wr.ownsRow base 3 1 av S.length (S.map (Value.int .i64))
  cells : ∀ i, i < n → wr.cell? ⟨gs, i, none⟩ = some (.int .u8 (zs.getD i 0))
  Slen : S.length ≤ k
  keep : Kp [] w wr
  size : base ≤ wr.heap.size
  hb : b < base
  hgs : n ≠ 0 → gs < base ∧ gs ≠ b
  new : w.heap.size ≤ b ∧ w.heap.size ≤ base
  own : ∀ g, sv.ownBlock = some g → base ≤ g ∧ av.ownBlock ≠ some g

section
variable {w wr : World} {base b gs n : Nat} {zs : List Int} {mn mx t : Int} {sv : Value} {ss : List Int} {f r : Nat} {S : List Int} {lf : Int} {av : Value} {k : Nat}

theorem Scr.avne (h : Scr w wr base b gs n zs mn mx t sv ss f r S lf av k) : av.ownBlock ≠ some b := fun e => by
  have := (h.hav.lt _ e).1
  have := h.hb
  omega

theorem Scr.cells' (h : Scr w wr base b gs n zs mn mx t sv ss f r S lf av k) {w' : World} {bs : List (Option Nat)} (hk : Kp bs wr w') (hn : n ≠ 0 → some gs ∉ bs) : ∀ i, i < n → w'.cell? ⟨gs, i, none⟩ = some (.int .u8 (zs.getD i 0)) := fun i hi => by
  rw [← h.cells i hi]
  have h1 := h.hgs (by omega)
  have h2 := h.size
  exact World.cell?_of_block (hk.block gs (by omega) (hn (by omega)))

/-- The pass. -/
theorem Scr.passed (h : Scr w wr base b gs n zs mn mx (t - 1) sv ss f r S lf av k) (m : Bool) {w' : World} {f2 r2 : Nat} (h2 : pruned ss t mn mx (skipIf ss t m r f).2 (skipIf ss t m r f).1 = (f2, r2))
    (hc : Ctr w' b sv ss f2 (passRuns ss t mx f2 r2)) (hk : Kp [some b] wr w') :
    passEnds ss t mn f2 r2 = endsB mn mx t (if m then lf else t) S ∧ passMore ss t mx f2 r2 = moreB mx t (if m then lf else t) S ∧
    Scr w w' base b gs n zs mn mx t sv ss f2 (passRuns ss t mx f2 r2) S (if m then lf else t) av k := by
  obtain ⟨h1, h3, h4, h5, h6⟩ := pass_agrees m h.ring h.inv h2
  refine ⟨?_, ?_, ?_⟩
  · rw [Bool.eq_iff_iff, h1, endsB_iff]
  · rw [Bool.eq_iff_iff, h3, moreB_iff]
  · have hav := h.avne
    have hnew := h.new
    refine ⟨hc, h5, h.len, h4, hk.owns h.hav (fun i hi => by simp; rintro rfl; exact hav hi), h.cells' hk (fun hn => by simp; exact (h.hgs hn).2), h.Slen, h.keep.trans hk (fun i hi hm => by simp at hm; omega), Nat.le_trans h.size hk.size, h.hb, h.hgs, h.new, h.own⟩

/-- A start that answers no. -/
theorem Scr.refused (h : Scr w wr base b gs n zs mn mx t sv ss f r S lf av k) {w' : World} (hk : Kp [] wr w') : Scr w w' base b gs n zs mn mx t sv ss f r S lf av k :=
  ⟨h.ctr.kept hk (by simp) (by simp), h.ring, h.len, h.inv, hk.owns h.hav (by simp), h.cells' hk (by simp), h.Slen, h.keep.trans hk (by simp), Nat.le_trans h.size hk.size, h.hb, h.hgs, h.new, h.own⟩

/-- A start that answers yes, and the append behind it. -/
theorem Scr.started (h : Scr w wr base b gs n zs mn mx t sv ss f r S lf av k) (t0 : 0 ≤ t) (hne : ∀ s ∈ S, s < t) (hkk : S.length + 1 ≤ 5000) {w' w6 : World} {sv2 : Value} {ss2 : List Int} {f1 : Nat} (hL : Laid ss ss2 f f1 r t)
    (hc : Ctr w' b sv2 ss2 (pruned ss2 t mn mx (r + 1) f1).1 (pruned ss2 t mn mx (r + 1) f1).2) (hk : Kp [some b, sv.ownBlock] wr w') (ho : ∀ g, sv2.ownBlock = some g → sv.ownBlock = some g ∨ wr.heap.size ≤ g)
    {av' : Value} (hav' : w6.ownsRow base 3 1 av' (S.length + 1) (S.map (Value.int .i64) ++ [.int .i64 t])) (hg : Kp [av.ownBlock] w' w6) (hn6 : ∀ i, av'.ownBlock = some i → av.ownBlock = some i ∨ w'.heap.size ≤ i) :
    Scr w w6 base b gs n zs mn mx t sv2 ss2 (pruned ss2 t mn mx (r + 1) f1).1 (pruned ss2 t mn mx (r + 1) f1).2 (S ++ [t]) lf av' (S.length + 1) := by
  have havne := h.avne
  have hnew := h.new
  have hsz := h.size
  have hs1 := hk.size
  have hs2 := hg.size
  have hbb := h.hb
  have avlt : ∀ i, av.ownBlock = some i → base ≤ i ∧ i < wr.heap.size := h.hav.lt
  have svlt : ∀ g, sv2.ownBlock = some g → g < w'.heap.size := fun g hg => by
    rcases hc.row with ⟨e, _⟩ | ⟨g', e, _, hb'⟩
    · rw [e] at hg; simp [Value.ownBlock] at hg
    · rw [e] at hg; simp only [Value.ownBlock, Option.some.injEq] at hg; rw [← hg]; exact hb'.lt
  have sva : ∀ g, sv2.ownBlock = some g → base ≤ g ∧ av.ownBlock ≠ some g := fun g hg => by
    rcases ho g hg with h1 | h1
    · exact h.own g h1
    · exact ⟨by omega, fun e => by have := (avlt g e).2; omega⟩
  have hlen : runsOf ss f r = [] ∨ r ≤ S.length := by
    right
    obtain ⟨D, hS, _⟩ := h.inv.dom
    have : (runsOf ss f r).length ≤ S.length := by rw [hS]; simp
    rw [runsOf_len] at this
    exact this
  have hrS : r ≤ S.length := by
    rcases hlen with e | e
    · have := runsOf_len ss f r; rw [e] at this; simp at this; omega
    · exact e
  refine ⟨hc.kept hg (by simp; exact fun e => havne e.symm) (fun g hg' => by simp; exact fun e => (sva g hg').2 e.symm), hL.ring.pruned, ?_, ?_, by simpa using hav', ?_, by simp, (h.keep.trans hk ?_).trans hg ?_, by omega, h.hb, h.hgs, h.new, ?_⟩
  · have := h.len
    rcases hL.len with e | e <;> omega
  · rw [runs_pruned hL.ring, runs_laid hL]
    exact h.inv.start hne t0
  · intro i hi
    have h1 := h.hgs (by omega)
    rw [← h.cells i hi]
    refine (World.cell?_of_block (hg.block gs (by omega) ?_)).trans (World.cell?_of_block (hk.block gs (by omega) ?_))
    · simp; intro e; have := (avlt gs e.symm).1; omega
    · simp; exact ⟨h1.2, fun e => by have := (h.own gs e.symm).1; omega⟩
  · intro i hi hm
    simp at hm
    rcases hm with hm | hm
    · omega
    · have := (h.own i hm.symm).1; omega
  · intro i hi hm
    simp at hm
    have := (avlt i hm.symm).1
    omega
  · intro g hg'
    refine ⟨(sva g hg').1, fun e => ?_⟩
    rcases hn6 g e with h1 | h1
    · exact (sva g hg').2 h1
    · have := svlt g hg'; omega

/-- The row of starts, as zzLiveRuns reads it. -/
theorem Scr.row (h : Scr w wr base b gs n zs mn mx t sv ss f r S lf av k) (tk : t ≤ 100000) : ∃ a c, av = .slice a S.length c ∧ RowAt wr a S.length S ∧ (∀ i, i < S.length → 0 ≤ S.getD i 0 ∧ S.getD i 0 ≤ 100000) := by
  have hb : ∀ i, i < S.length → 0 ≤ S.getD i 0 ∧ S.getD i 0 ≤ 100000 := fun i hi => by
    have hm : S.getD i 0 ∈ S := by
      rw [List.getD, List.getElem?_eq_getElem hi]
      exact List.getElem_mem _
    have := h.inv.rng _ hm
    omega
  rcases h.hav.2 with ⟨rfl, h0⟩ | ⟨g, cap, cur, rfl, hb', hg, h4, h5, h6, h7⟩
  · exact ⟨none, 0, by rw [h0], ⟨rfl, fun i hi => by omega, fun hne => absurd h0 hne⟩, hb⟩
  · refine ⟨_, cap, rfl, ⟨rfl, fun i hi => by have := hb i hi; omega, fun _ => ⟨g, 0, rfl, (Array.getElem?_eq_some_iff.1 hg).1, fun i hi => ?_⟩⟩, hb⟩
    rw [Nat.zero_add, h.hav.cellAt i (by omega)]
    simp [hi, List.getD]
end
end Go.Proofs.Qxb6600955a
