import Derived.WalkKit
import Derived.Below
import Derived.Deep.AppendLies
namespace Go.Proofs.Qxb6600955a
open Go.RowKit

theorem hide {p : Prop} (h : p) : Hid p := h
theorem unhide {p : Prop} (h : Hid p) : p := h

/-- Block b is a row of cells, none frozen. -/
def Blk (w : World) (b : Nat) (cs : Array Value) (t : TypeId) : Prop := w.heap[b]? = some (.cells cs t (0, 0))

theorem Blk.lt {w : World} {b : Nat} {cs : Array Value} {t : TypeId} (h : Blk w b cs t) : b < w.heap.size := (Array.getElem?_eq_some_iff.1 h).1

theorem Blk.cell {w : World} {b : Nat} {cs : Array Value} {t : TypeId} (h : Blk w b cs t) (o : Nat) : w.cell? ⟨b, o, none⟩ = cs[o]? := by
  unfold Blk at h
  simp [World.cell?, h]

theorem Blk.frozen {w : World} {b : Nat} {cs : Array Value} {t : TypeId} (h : Blk w b cs t) (o : Nat) : w.frozen? ⟨b, o, none⟩ = false := by
  unfold Blk at h
  simp [World.frozen?, h]

theorem Blk.set {w : World} {b : Nat} {cs : Array Value} {t : TypeId} (h : Blk w b cs t) (o : Nat) (v : Value) : Blk (w.setCell ⟨b, o, none⟩ v) b (cs.setIfInBounds o v) t := by
  unfold Blk at *
  simp [World.setCell, Array.getElem?_modify, h]

theorem Blk.set_ne {w : World} {b : Nat} {cs : Array Value} {t : TypeId} (h : Blk w b cs t) {a : Addr} (ha : a.block ≠ b) (v : Value) : Blk (w.setCell a v) b cs t := by
  unfold Blk at *
  rw [Below.heap_setCell _ _ _ _ (fun e => ha e.symm)]
  exact h

theorem Blk.alloc {w : World} {b : Nat} {cs : Array Value} {t : TypeId} (h : Blk w b cs t) (o : Obj) : Blk (w.alloc o) b cs t := by
  have := h.lt
  unfold Blk at *
  rw [Below.heap_alloc _ _ _ this]
  exact h

theorem Blk.new (w : World) (cs : Array Value) (t : TypeId) : Blk (w.alloc (.cells cs t)) w.heap.size cs t := heap_alloc_new w _

theorem Blk.drew {w : World} {b : Nat} {cs : Array Value} {t : TypeId} (h : Blk w b cs t) : Blk w.drew b cs t := h

/-- w' is w, but for the blocks listed and for new ones. -/
structure Kp (bs : List (Option Nat)) (w w' : World) : Prop where
  os : w'.os = w.os
  tape : w'.tape = w.tape
  output : w'.output = w.output
  size : w.heap.size ≤ w'.heap.size
  block : ∀ k, k < w.heap.size → some k ∉ bs → w'.heap[k]? = w.heap[k]?

theorem Kp.refl (bs : List (Option Nat)) (w : World) : Kp bs w w := ⟨rfl, rfl, rfl, Nat.le_refl _, fun _ _ _ => rfl⟩

theorem Kp.trans {bs cs : List (Option Nat)} {a b c : World} (h : Kp bs a b) (k : Kp cs b c) (hs : ∀ i, i < a.heap.size → some i ∈ cs → some i ∈ bs) : Kp bs a c :=
  ⟨k.os.trans h.os, k.tape.trans h.tape, k.output.trans h.output, Nat.le_trans h.size k.size,
    fun i hi hn => (k.block i (Nat.lt_of_lt_of_le hi h.size) (fun hm => hn (hs i hi hm))).trans (h.block i hi hn)⟩

theorem Kp.mono {bs cs : List (Option Nat)} {a b : World} (h : Kp bs a b) (hs : ∀ i, i < a.heap.size → some i ∈ bs → some i ∈ cs) : Kp cs a b :=
  ⟨h.os, h.tape, h.output, h.size, fun i hi hn => h.block i hi (fun hm => hn (hs i hi hm))⟩

theorem Kp.alloc {bs : List (Option Nat)} {a b : World} (h : Kp bs a b) (o : Obj) : Kp bs a (b.alloc o) :=
  ⟨h.os, h.tape, h.output, by have := h.size; simp; omega, fun i hi hn => by
    rw [Below.heap_alloc _ _ _ (Nat.lt_of_lt_of_le hi h.size)]; exact h.block i hi hn⟩

theorem Kp.drew {bs : List (Option Nat)} {a b : World} (h : Kp bs a b) : Kp bs a b.drew := ⟨h.os, h.tape, h.output, h.size, h.block⟩

theorem Kp.setCell {bs : List (Option Nat)} {a b : World} (h : Kp bs a b) {p : Addr} (hp : a.heap.size ≤ p.block ∨ some p.block ∈ bs) (u : Value) : Kp bs a (b.setCell p u) :=
  ⟨h.os, h.tape, h.output, by have := h.size; simpa [World.setCell] using this, fun i hi hn => by
    rw [Below.heap_setCell _ _ _ _ (by rintro rfl; rcases hp with hp | hp; omega; exact hn hp)]; exact h.block i hi hn⟩

theorem Kp.grown {bs : List (Option Nat)} {a b c : World} {row : Option Nat} (h : Kp bs a b) (hg : b.grownBy c row) (hr : ∀ k, k < a.heap.size → row = some k → some k ∈ bs) : Kp bs a c :=
  ⟨hg.os.trans h.os, hg.tape.trans h.tape, hg.output.trans h.output, Nat.le_trans h.size hg.size, fun i hi hn =>
    (hg.block i (Nat.lt_of_lt_of_le hi h.size) (fun e => hn (hr i hi e.symm))).trans (h.block i hi hn)⟩

theorem Kp.blk {bs : List (Option Nat)} {w w' : World} (h : Kp bs w w') {b : Nat} {cs : Array Value} {t : TypeId} (hb : Blk w b cs t) (hn : some b ∉ bs) : Blk w' b cs t := by
  have := hb.lt
  unfold Blk at *
  rw [h.block b this hn]; exact hb

theorem Kp.owns {bs : List (Option Nat)} {w w' : World} (h : Kp bs w w') {base : Nat} {e : TypeId} {size : Nat} {v : Value} {n : Nat} {xs : List Value} (ho : w.ownsRow base e size v n xs)
    (hn : ∀ k, v.ownBlock = some k → some k ∉ bs) : w'.ownsRow base e size v n xs := by
  obtain ⟨h1, h2⟩ := ho
  refine ⟨h1, ?_⟩
  rcases h2 with h2 | ⟨g, cap, cur, rfl, hb, hg, hr⟩
  · exact .inl h2
  · exact .inr ⟨g, cap, cur, rfl, hb, by rw [h.block g (Array.getElem?_eq_some_iff.1 hg).1 (hn g rfl)]; exact hg, hr⟩

theorem Kp.below {bs : List (Option Nat)} {w w' : World} (h : Kp bs w w') (B : Nat) (hB : B ≤ w.heap.size) (hn : ∀ k, k < B → some k ∉ bs) : Below B w w' :=
  ⟨h.os, h.tape, h.output, h.size, fun k hk => h.block k (by omega) (hn k hk)⟩

theorem grown_blk {w w' : World} {row : Option Nat} (h : w.grownBy w' row) {b : Nat} {cs : Array Value} {t : TypeId} (hb : Blk w b cs t) (hn : some b ≠ row) : Blk w' b cs t := by
  have := hb.lt
  unfold Blk at *
  rw [h.block b this hn]; exact hb

theorem grown_owns {w w' : World} {row : Option Nat} (h : w.grownBy w' row) {base : Nat} {e : TypeId} {size : Nat} {v : Value} {n : Nat} {xs : List Value} (ho : w.ownsRow base e size v n xs)
    (hn : ∀ k, v.ownBlock = some k → some k ≠ row) : w'.ownsRow base e size v n xs := by
  obtain ⟨h1, h2⟩ := ho
  refine ⟨h1, ?_⟩
  rcases h2 with h2 | ⟨g, cap, cur, rfl, hb, hg, hr⟩
  · exact .inl h2
  · exact .inr ⟨g, cap, cur, rfl, hb, by rw [h.block g (Array.getElem?_eq_some_iff.1 hg).1 (hn g rfl)]; exact hg, hr⟩

theorem owns_setCell {w : World} {base : Nat} {e : TypeId} {size : Nat} {v : Value} {n : Nat} {xs : List Value} (ho : w.ownsRow base e size v n xs) {a : Addr} (ha : v.ownBlock ≠ some a.block) (u : Value) :
    (w.setCell a u).ownsRow base e size v n xs := by
  obtain ⟨h1, h2⟩ := ho
  refine ⟨h1, ?_⟩
  rcases h2 with h2 | ⟨g, cap, cur, rfl, hb, hg, hr⟩
  · exact .inl h2
  · exact .inr ⟨g, cap, cur, rfl, hb, by rw [Below.heap_setCell _ _ _ _ (by intro e; exact ha (by rw [← e]; rfl))]; exact hg, hr⟩

end Go.Proofs.Qxb6600955a
