import Derived.Test.Qxb6600955aLay
import Derived.LaidEqlPtr
namespace Go.Proofs.Qxb6600955a
open Go.RowKit

section
variable {w wr : World} {base bc bt gc : Nat} {p0 p1 : Addr} {cs : List Call} {k : Nat} {acc : List Nat} {parts p' : Int} {failed : Bool} {pv rv av : Value}

theorem L1.ltp (h : L1 w wr base bc bt gc p0 p1 cs k acc parts failed pv rv av) : pv.ownBlock ≠ some bc ∧ pv.ownBlock ≠ some bt ∧ rv.ownBlock ≠ some bc ∧ rv.ownBlock ≠ some bt ∧ av.ownBlock ≠ some bc ∧ av.ownBlock ≠ some bt := by
  have h1 := h.hbc
  have h2 := h.hbt
  refine ⟨?_, ?_, ?_, ?_, ?_, ?_⟩
  · intro e; have := (h.hp.lt _ e).1; omega
  · intro e; have := (h.hp.lt _ e).1; omega
  · intro e; have := (h.hr.lt _ e).1; omega
  · intro e; have := (h.hr.lt _ e).1; omega
  · intro e; have := (h.hav.lt _ e).1; omega
  · intro e; have := (h.hav.lt _ e).1; omega

theorem L1.refuse (h : L1 w wr base bc bt gc p0 p1 cs k acc parts failed pv rv av) {w' : World} (hb : Blk w' bc #[pv, rv, .int .i64 p', .int .i64 0, .bool true] 70)
    (ht : Blk w' bt #[.slice none 0 0, .slice none 0 0, .int .i64 p', .int .i64 0, .bool true] 70) (hk : Kp [some bc, some bt] wr w') : L1 w w' base bc bt gc p0 p1 cs (k + 1) acc p' true pv rv av := by
  obtain ⟨a1, a2, a3, a4, a5, a6⟩ := h.ltp
  have hnew := h.new
  refine { accLt := fun a ha => by have := h.accLt a ha; omega, accLen := by have := h.accLen; omega, hav := hk.owns h.hav ?_, hc := hb, ht := ht, hp := hk.owns h.hp ?_, hr := hk.owns h.hr ?_, npr := h.npr, npa := h.npa, nra := h.nra, size := Nat.le_trans h.size hk.size, hbc := h.hbc, hbt := h.hbt, hct := h.hct, hgc := h.hgc, hcs := ?_, keep := h.keep.trans hk ?_, new := h.new }
  · intro i hi; simp; exact ⟨by rintro rfl; exact a5 hi, by rintro rfl; exact a6 hi⟩
  · intro i hi; simp; exact ⟨by rintro rfl; exact a1 hi, by rintro rfl; exact a2 hi⟩
  · intro i hi; simp; exact ⟨by rintro rfl; exact a3 hi, by rintro rfl; exact a4 hi⟩
  · by_cases e : cs = []
    · subst e; intro i hi; simp at hi
    · obtain ⟨g1, g2, g3⟩ := h.hgc e
      have := h.size
      exact hk.callsAt h.hcs (by simp; exact ⟨g2, g3⟩) (by omega)
  · intro i hi hm
    simp at hm
    omega

theorem L1.accept (h : L1 w wr base bc bt gc p0 p1 cs k acc parts false pv rv av) {w5 w6 : World} {pv' rv' av' : Value} (hb : Blk w5 bc #[pv', rv', .int .i64 p', .int .i64 0, .bool false] 70)
    (ht : Blk w5 bt #[.slice none 0 0, .slice none 0 0, .int .i64 p', .int .i64 0, .bool true] 70)
    (hp' : w5.ownsRow base 79 5 pv' (acc.length + 1) (flat (inst p0 p1 cs) 0 acc ++ inst p0 p1 cs k acc.length)) (hr' : w5.ownsRow base 65 2 rv' (acc.length + 1) (flat (rep cs) 0 acc ++ rep cs k acc.length))
    (hk : Kp [some bc, some bt, pv.ownBlock, rv.ownBlock] wr w5) (n1 : ∀ i, pv'.ownBlock = some i → pv.ownBlock = some i ∨ wr.heap.size ≤ i) (n2 : ∀ i, rv'.ownBlock = some i → rv.ownBlock = some i ∨ wr.heap.size ≤ i)
    (n3 : ∀ i, pv'.ownBlock = some i → rv'.ownBlock ≠ some i)
    (hav' : w6.ownsRow base 3 1 av' (acc.length + 1) ((acc.map fun j : Nat => Value.int .i64 (j : Int)) ++ [.int .i64 k])) (hg : Kp [av.ownBlock] w5 w6) (n4 : ∀ i, av'.ownBlock = some i → av.ownBlock = some i ∨ w5.heap.size ≤ i) :
    L1 w w6 base bc bt gc p0 p1 cs (k + 1) (acc ++ [k]) p' false pv' rv' av' := by
  obtain ⟨a1, a2, a3, a4, a5, a6⟩ := h.ltp
  have hnew := h.new
  have hs0 := h.size
  have hs1 := hk.size
  have hs2 := hg.size
  have b1 := h.hbc
  have b2 := h.hbt
  have avlt : ∀ i, av.ownBlock = some i → base ≤ i ∧ i < wr.heap.size := h.hav.lt
  have pvlt : ∀ i, pv'.ownBlock = some i → base ≤ i ∧ i < w5.heap.size := hp'.lt
  have rvlt : ∀ i, rv'.ownBlock = some i → base ≤ i ∧ i < w5.heap.size := hr'.lt
  have pa : ∀ i, pv'.ownBlock = some i → av.ownBlock ≠ some i := fun i hi e => by
    rcases n1 i hi with q | q
    · exact h.npa i q e
    · have := (avlt i e).2; omega
  have ra : ∀ i, rv'.ownBlock = some i → av.ownBlock ≠ some i := fun i hi e => by
    rcases n2 i hi with q | q
    · exact h.nra i q e
    · have := (avlt i e).2; omega
  refine { accLt := ?_, accLen := by have := h.accLen; simp; omega, hav := by simpa using hav', hc := hg.blk hb ?_, ht := hg.blk ht ?_, hp := ?_, hr := ?_, npr := n3, npa := ?_, nra := ?_, size := by omega, hbc := h.hbc, hbt := h.hbt, hct := h.hct, hgc := h.hgc, hcs := ?_, keep := (h.keep.trans hk ?_).trans hg ?_, new := h.new }
  · intro a ha
    simp at ha
    rcases ha with ha | rfl
    · have := h.accLt a ha; omega
    · omega
  · simp; exact fun e => a5 e.symm
  · simp; exact fun e => a6 e.symm
  · rw [flat_snoc, List.length_append, List.length_singleton, Nat.zero_add]
    exact hg.owns hp' (fun i hi => by simp; exact fun e => pa i hi e.symm)
  · rw [flat_snoc, List.length_append, List.length_singleton, Nat.zero_add]
    exact hg.owns hr' (fun i hi => by simp; exact fun e => ra i hi e.symm)
  · intro i hi e
    rcases n4 i e with q | q
    · exact pa i hi q
    · have := (pvlt i hi).2; omega
  · intro i hi e
    rcases n4 i e with q | q
    · exact ra i hi q
    · have := (rvlt i hi).2; omega
  · by_cases e : cs = []
    · subst e; intro i hi; simp at hi
    · obtain ⟨g1, g2, g3⟩ := h.hgc e
      refine hg.callsAt (hk.callsAt h.hcs ?_ (by omega)) ?_ (by omega)
      · simp
        refine ⟨g2, g3, ?_, ?_⟩
        · intro e; have := (h.hp.lt _ e.symm).1; omega
        · intro e; have := (h.hr.lt _ e.symm).1; omega
      · simp
        intro e; have := (avlt _ e.symm).1; omega
  · intro i hi hm
    simp at hm
    rcases hm with e | e | e | e
    · omega
    · omega
    · have := (h.hp.lt _ e.symm).1; omega
    · have := (h.hr.lt _ e.symm).1; omega
  · intro i hi hm
    simp at hm
    have := (avlt _ hm.symm).1; omega
end
end Go.Proofs.Qxb6600955a
namespace Go.Proofs.Qxb6600955a
open Go.RowKit
section
variable {w wr : World} {base bc bt gc : Nat} {p0 p1 : Addr} {cs : List Call} {k : Nat} {acc : List Nat} {parts p' : Int} {failed : Bool} {pv rv av : Value}

theorem L1.inst_cells {g cap : Nat} (h : L1 w wr base bc bt gc p0 p1 cs k acc parts failed (.slice (some ⟨g, 0, none⟩) acc.length cap) rv av) (j : Nat) (hj : j < acc.length) :
    wr.cell? ⟨g, j * 5, none⟩ = some (.pointer (some (if (cs.getD (acc.getD j 0) zeroCall).ot then p1 else p0))) ∧ wr.cell? ⟨g, j * 5 + 1, none⟩ = some (.int .i32 (cs.getD (acc.getD j 0) zeroCall).nx) ∧
    wr.cell? ⟨g, j * 5 + 2, none⟩ = some (.int .i32 0) ∧ wr.cell? ⟨g, j * 5 + 3, none⟩ = some (.int .i32 j) ∧ wr.cell? ⟨g, j * 5 + 4, none⟩ = some (.int .u8 1) := by
  have f := fun m hm => flat_get (inst p0 p1 cs) 5 (fun _ _ => rfl) m hm acc 0 j hj
  have c := fun m (hm : m < 5) => h.hp.cellAt (j * 5 + m) (by omega)
  refine ⟨?_, ?_, ?_, ?_, ?_⟩
  · have := (c 0 (by omega)).trans (f 0 (by omega)); simpa [inst] using this
  · have := (c 1 (by omega)).trans (f 1 (by omega)); simpa [inst] using this
  · have := (c 2 (by omega)).trans (f 2 (by omega)); simpa [inst] using this
  · have := (c 3 (by omega)).trans (f 3 (by omega)); simpa [inst] using this
  · have := (c 4 (by omega)).trans (f 4 (by omega)); simpa [inst] using this

theorem L1.rep_cells {g cap : Nat} (h : L1 w wr base bc bt gc p0 p1 cs k acc parts failed pv (.slice (some ⟨g, 0, none⟩) acc.length cap) av) (j : Nat) (hj : j < acc.length) :
    wr.cell? ⟨g, j * 2, none⟩ = some (.int .i64 (cs.getD (acc.getD j 0) zeroCall).mn) ∧ wr.cell? ⟨g, j * 2 + 1, none⟩ = some (.int .i64 (cs.getD (acc.getD j 0) zeroCall).mx) := by
  have f := fun m hm => flat_get (rep cs) 2 (fun _ _ => rfl) m hm acc 0 j hj
  have c := fun m (hm : m < 2) => h.hr.cellAt (j * 2 + m) (by omega)
  refine ⟨?_, ?_⟩
  · have := (c 0 (by omega)).trans (f 0 (by omega)); simpa [rep] using this
  · have := (c 1 (by omega)).trans (f 1 (by omega)); simpa [rep] using this

theorem L1.acc_cell {g cap : Nat} (h : L1 w wr base bc bt gc p0 p1 cs k acc parts failed pv rv (.slice (some ⟨g, 0, none⟩) acc.length cap)) (j : Nat) (hj : j < acc.length) :
    wr.cell? ⟨g, j, none⟩ = some (.int .i64 (acc.getD j 0 : Nat)) ∧ acc.getD j 0 < k := by
  have c := h.hav.cellAt j (by omega)
  refine ⟨by rw [c]; simp [hj, List.getD], ?_⟩
  have : acc.getD j 0 ∈ acc := by simp [List.getD, hj]
  exact h.accLt _ this

theorem slice_form {base : Nat} {e : TypeId} {size n c : Nat} {a : Option Addr} {xs : List Value} (h : w.ownsRow base e size (.slice a n c) n xs) (hn : 0 < n) : ∃ g, a = some ⟨g, 0, none⟩ ∧ base ≤ g ∧ g < w.heap.size := by
  obtain ⟨g, cap, hv, h1, h2⟩ := h.form hn
  simp only [Value.slice.injEq] at hv
  exact ⟨g, hv.1, h1, h2⟩
end
end Go.Proofs.Qxb6600955a
namespace Go.Proofs.Qxb6600955a
theorem run_neq_ptr_same {P : Program} (w : World) {tp te : TypeId} {j : TypeInfo} (a : Addr) (hp : P.underlying tp = some (.pointer te)) (hte : P.info? te = some j) :
    (binOp .neq tp (.pointer (some a)) (.pointer (some a))).run P w = .ok (.bool false) w := by
  have h : ∀ d : Nat, (Op.equalIn (d + 1) tp (.pointer (some a)) (.pointer (some a))).run P w = .ok true w := fun d => by
    simp [Op.equalIn, run_underlying hp, sizeOf, typeInfo, hte, run_sameAddr_same]
  simp only [binOp]
  simp [Op.equal, Op.maxDepth, h 9999]
theorem Try.info45 : (Try.prog.info? 45).map (fun i => i.size) = some 5 := by kernel_rfl
theorem neq40 (w : World) (a : Addr) : (binOp .neq 40 (.pointer (some a)) (.pointer (some a))).run Try.prog w = .ok (.bool false) w := by
  obtain ⟨j, hj, _⟩ := Option.map_eq_some_iff.1 Try.info45
  exact run_neq_ptr_same w a Try.underlying40 hj
end Go.Proofs.Qxb6600955a
