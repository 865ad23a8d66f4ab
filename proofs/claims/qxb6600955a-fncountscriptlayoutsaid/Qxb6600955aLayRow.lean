import Derived.Test.Qxb6600955aLay2
import Derived.Deep.Slices
import Derived.ProofKit
namespace Go.Proofs.Qxb6600955a
open Go.RowKit Go.Deep Go.ChangeShapes Go.WideShapes Go.ChangeAt

theorem Try.cells56 : Try.prog.cellsOf 56 = 5 := by kernel_rfl
theorem Try.cells3 : Try.prog.cellsOf 3 = 1 := by kernel_rfl
theorem Try.cells4 : Try.prog.cellsOf 4 = 1 := by kernel_rfl
theorem Try.cells21 : Try.prog.cellsOf 21 = 1 := by kernel_rfl

theorem len5 {l : List Value} (h : l.length = 5) : ∃ a b c d e, l = [a, b, c, d, e] := by
  match l, h with
  | [a, b, c, d, e], _ => exact ⟨a, b, c, d, e, rfl⟩

theorem open_call {H : Type} {enc : TypeId × Value → H} {w : World} {base : Nat} {spare : Nat → Bool} {held : Bool} {fuel : Nat} {cs : List Value} {x : DataW H × List MemPlace}
    (h : DataW.trod enc Try.prog w base spare held fuel 56 cs = some x) : ∃ c : Call, cs = [.int .i64 c.mn, .int .i64 c.mx, .int .i64 c.pt, .int .i32 c.nx, .bool c.ot] := by
  obtain ⟨xs, n, _, rfl, hl, hlen, hf⟩ := DataW.trod_struct Try.underlying56 h
  rw [Try.cells56] at hl
  obtain ⟨a, b, c, d, e, rfl⟩ := len5 hl
  have h0 := hf 0 _ rfl
  have h1 := hf 1 _ rfl
  have h2 := hf 2 _ rfl
  have h3 := hf 3 _ rfl
  have h4 := hf 4 _ rfl
  simp [Try.cells3, Try.cells4, Try.cells21] at h0 h1 h2 h3 h4
  have hx : xs.length = 5 := hlen
  rw [List.getElem?_eq_getElem (by omega)] at h0 h1 h2 h3 h4
  obtain ⟨n0, e0, _⟩ := DataW.trod_int Try.underlying3 h0
  obtain ⟨n1, e1, _⟩ := DataW.trod_int Try.underlying3 h1
  obtain ⟨n2, e2, _⟩ := DataW.trod_int Try.underlying3 h2
  obtain ⟨n3, e3, _⟩ := DataW.trod_int Try.underlying21 h3
  obtain ⟨n4, e4, _⟩ := DataW.trod_bool Try.underlying4 h4
  simp only [List.cons.injEq, and_true] at e0 e1 e2 e3 e4
  exact ⟨⟨n0, n1, n2, n3, n4⟩, by rw [e0, e1, e2, e3, e4]⟩

theorem cells5 {w : World} {base : Nat} {a : Addr} {c0 c1 c2 c3 c4 : Value} (h : w.cells? base a 5 = some [c0, c1, c2, c3, c4]) :
    w.cell? a = some c0 ∧ w.cell? (a.add 1) = some c1 ∧ w.cell? (a.add 2) = some c2 ∧ w.cell? (a.add 3) = some c3 ∧ w.cell? (a.add 4) = some c4 := by
  unfold World.cells? at h
  split at h
  · simp [List.range_succ, Option.bind_eq_some_iff] at h
    have e : a.add 0 = a := by simp [Addr.add]
    rw [e] at h
    exact h
  · simp at h

theorem add_off (b off n : Nat) : (⟨b, off, none⟩ : Addr).add n = ⟨b, off + n, none⟩ := by
  unfold Addr.add
  split
  · simp_all
  · rfl

theorem open_calls {H : Type} {enc : TypeId × Value → H} {w : World} {base : Nat} {spare : Nat → Bool} {held : Bool} {fuel : Nat} {a : Option Addr} {len cap : Nat} {x : DataW H × List MemPlace}
    (h : DataW.trod enc Try.prog w base spare held fuel 52 [.slice a len cap] = some x) : ∃ cs, IsCalls w a len cap cs := by
  rcases open_slice Try.underlying52 h with ⟨hcs, _⟩ | ⟨ad, len', cap', m, n, D, Pl, hcs, hb, hl, hm, hmm, _, hel⟩
  · simp only [List.cons.injEq, Value.slice.injEq, and_true] at hcs
    obtain ⟨rfl, rfl, rfl⟩ := hcs
    exact ⟨[], .inl ⟨rfl, rfl, rfl, rfl⟩⟩
  · simp only [List.cons.injEq, Value.slice.injEq, and_true] at hcs
    obtain ⟨rfl, rfl, rfl⟩ := hcs
    by_cases h0 : len = 0
    · exact ⟨[], .inr (.inl ⟨ad, rfl, h0, rfl⟩)⟩
    · have hle : len ≤ m := by rw [hmm]; split <;> omega
      have hex : ∀ i, i < len → ∃ c : Call, w.cell? (ad.add (i * 5)) = some (.int .i64 c.mn) ∧ w.cell? ((ad.add (i * 5)).add 1) = some (.int .i64 c.mx) ∧ w.cell? ((ad.add (i * 5)).add 2) = some (.int .i64 c.pt) ∧
          w.cell? ((ad.add (i * 5)).add 3) = some (.int .i32 c.nx) ∧ w.cell? ((ad.add (i * 5)).add 4) = some (.bool c.ot) := fun i hi => by
        obtain ⟨cs', hc, ht⟩ := hel i (by omega)
        obtain ⟨c, rfl⟩ := open_call ht
        rw [Try.cells56] at hc
        exact ⟨c, cells5 hc⟩
      have : Inhabited Call := ⟨zeroCall⟩
      obtain ⟨f, hf⟩ := choose_lt hex
      obtain ⟨b, off, sp⟩ := ad
      have hsp : sp = none := by
        have := (hf 0 (by omega)).1
        simp [Addr.add, World.cell?] at this
        split at this
        · split at this
          · simp at this
          · cases sp <;> simp_all
        · simp at this
      subst hsp
      refine ⟨(List.range len).map f, .inr (.inr ⟨b, off, rfl, by simp, World.block_lt_of_cell? w _ (hf 0 (by omega)).1, ?_⟩)⟩
      intro i hi
      simp at hi
      have := hf i hi
      simp only [add_off] at this
      simpa [List.getD, hi] using this

end Go.Proofs.Qxb6600955a
