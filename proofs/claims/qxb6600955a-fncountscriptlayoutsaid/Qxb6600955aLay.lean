import Derived.Test.Qxb6600955aClone
import Derived.Deep.CutBlock
import Derived.Deep.DeepCutAuto
namespace Go.Proofs.Qxb6600955a
open Go.RowKit

def flat (f : Nat → Nat → List Value) : Nat → List Nat → List Value
  | _, [] => []
  | j, a :: r => f a j ++ flat f (j + 1) r

theorem flat_snoc (f : Nat → Nat → List Value) (l : List Nat) (a : Nat) : ∀ j, flat f j (l ++ [a]) = flat f j l ++ f a (j + l.length) := by
  induction l with
  | nil => intro j; simp [flat]
  | cons b l ih =>
    intro j
    simp only [List.cons_append, flat, ih, List.append_assoc, List.length_cons]
    rw [show j + 1 + l.length = j + (l.length + 1) from by omega]

theorem flat_get (f : Nat → Nat → List Value) (s : Nat) (hs : ∀ a j, (f a j).length = s) (m : Nat) (hm : m < s) : ∀ (l : List Nat) (j i : Nat), i < l.length → (flat f j l)[i * s + m]? = (f (l.getD i 0) (j + i))[m]? := by
  intro l
  induction l with
  | nil => intro j i hi; simp at hi
  | cons b l ih =>
    intro j i hi
    cases i with
    | zero =>
      simp only [flat, Nat.zero_mul, Nat.zero_add, Nat.add_zero]
      rw [List.getElem?_append_left (by rw [hs]; exact hm)]
      rfl
    | succ i =>
      simp only [flat]
      rw [List.getElem?_append_right (by rw [hs, Nat.succ_mul]; omega), hs, show (i + 1) * s + m - s = i * s + m from by rw [Nat.succ_mul]; omega, ih (j + 1) i (by simpa using hi)]
      rw [show j + 1 + i = j + (i + 1) from by omega]
      rfl

def inst (p0 p1 : Addr) (cs : List Call) (a j : Nat) : List Value :=
  [.pointer (some (if (cs.getD a zeroCall).ot then p1 else p0)), .int .i32 (cs.getD a zeroCall).nx, .int .i32 0, .int .i32 j, .int .u8 1]
def rep (cs : List Call) (a _j : Nat) : List Value := [.int .i64 (cs.getD a zeroCall).mn, .int .i64 (cs.getD a zeroCall).mx]

/-- Between two calls of the script. -/
structure L1 (w wr : World) (base bc bt gc : Nat) (p0 p1 : Addr) (cs : List Call) (k : Nat) (acc : List Nat) (parts : Int) (failed : Bool) (pv rv av : Value) : Prop where
  accLt : ∀ a ∈ acc, a < k
  accLen : acc.length ≤ k
  hav : wr.ownsRow base 3 1 av acc.length (acc.map fun j : Nat => Value.int .i64 (j : Int))
  hc : Blk wr bc #[pv, rv, .int .i64 parts, .int .i64 0, .bool failed] 70
  ht : Blk wr bt #[.slice none 0 0, .slice none 0 0, .int .i64 parts, .int .i64 0, .bool true] 70
  hp : wr.ownsRow base 79 5 pv acc.length (flat (inst p0 p1 cs) 0 acc)
  hr : wr.ownsRow base 65 2 rv acc.length (flat (rep cs) 0 acc)
  npr : ∀ i, pv.ownBlock = some i → rv.ownBlock ≠ some i
  npa : ∀ i, pv.ownBlock = some i → av.ownBlock ≠ some i
  nra : ∀ i, rv.ownBlock = some i → av.ownBlock ≠ some i
  size : base ≤ wr.heap.size
  hbc : bc < base
  hbt : bt < base
  hct : bc ≠ bt
  hgc : cs ≠ [] → gc < base ∧ gc ≠ bc ∧ gc ≠ bt
  hcs : CallsAt wr gc 0 cs
  keep : Kp [] w wr
  new : w.heap.size ≤ bc ∧ w.heap.size ≤ bt ∧ w.heap.size ≤ base

/-- What the walk is told of a row of calls that came in. -/
def IsCalls (w : World) (a : Option Addr) (len cap : Nat) (cs : List Call) : Prop :=
  (a = none ∧ len = 0 ∧ cap = 0 ∧ cs = []) ∨ (∃ x, a = some x ∧ len = 0 ∧ cs = []) ∨ ∃ b off, a = some ⟨b, off, none⟩ ∧ cs.length = len ∧ b < w.heap.size ∧ CallsAt w b off cs

theorem mk0_eq {P : Program} {t e : TypeId} {z : Value} {size bytes : Nat} (ht : P.underlying t = some (.slice e)) (hinfo : (P.info? e).map (fun i => (i.zero, i.size, i.bytes)) = some (some z, size, bytes))
    (n : Nat) (hb : bytes * n ≤ 281474976710656) (h63 : n ≤ 9223372036854775807) (w : World) :
    (Instr.makeSlice t (.int .i64 0) (.int .i64 (n : Int))).run P w = .ok (.slice (some ⟨w.heap.size, 0, none⟩) 0 n) (w.alloc (.cells (madeCells z.cells (n * size)) e)) := by
  obtain ⟨i, hi, hzz⟩ := Option.map_eq_some_iff.1 hinfo
  simp only [Prod.mk.injEq] at hzz
  obtain ⟨hz, hs, hby⟩ := hzz
  have hb' : (i.bytes : Int) * (n : Int) ≤ 281474976710656 := by
    have h : ((i.bytes * n : Nat) : Int) ≤ 281474976710656 := by rw [hby]; omega
    rwa [Int.natCast_mul] at h
  have hr := run_make (P := P) w t e i z ht hi hz .i64 .i64 0 n (by omega) (by omega) hb' (by omega)
  simp only [Int.toNat_natCast, Int.toNat_zero, hs] at hr
  exact hr

theorem Try.info3 : (Try.prog.info? 3).map (fun i => (i.zero, i.size, i.bytes)) = some (some (.int .i64 0), 1, 8) := by kernel_rfl

theorem Kp.callsAt {bs : List (Option Nat)} {w w' : World} (h : Kp bs w w') {g : Nat} {cs : List Call} (hc : CallsAt w g 0 cs) (hn : some g ∉ bs) (hg : g < w.heap.size) : CallsAt w' g 0 cs := by
  intro i hi
  have hx : w'.heap[g]? = w.heap[g]? := h.block g hg hn
  have := hc i hi
  simpa [World.cell?, hx] using this

theorem L1.start (w wc : World) (len gc : Nat) (cs : List Call) (parts : Int) (failed : Bool) (o0 o1 : Obj) (cc : Array Value) (hcap : cc.size = len) (hlen : len ≤ maxLen) (hkp : Kp [] w wc) (hca : CallsAt wc gc 0 cs) (hg : cs ≠ [] → gc < wc.heap.size) :
    L1 w (((((wc.alloc (.cells #[.slice none 0 0, .slice none 0 0, .int .i64 parts, .int .i64 0, .bool failed] 70)).alloc (.cells #[.slice none 0 0, .slice none 0 0, .int .i64 parts, .int .i64 0, .bool true] 70)).alloc o0).alloc o1).alloc (.cells cc 3))
      (wc.heap.size + 4) wc.heap.size (wc.heap.size + 1) gc ⟨wc.heap.size + 2, 0, none⟩ ⟨wc.heap.size + 3, 0, none⟩ cs 0 [] parts failed (.slice none 0 0) (.slice none 0 0) (.slice (some ⟨wc.heap.size + 4, 0, none⟩) 0 len) := by
  have hsz := hkp.size
  refine { accLt := by simp, accLen := by simp, hav := ?_, hc := ?_, ht := ?_, hp := World.ownsRow_nil _ _ _ _, hr := World.ownsRow_nil _ _ _ _, npr := by simp [Value.ownBlock], npa := by simp [Value.ownBlock], nra := by simp [Value.ownBlock], size := by simp, hbc := by omega, hbt := by omega, hct := by omega, hgc := ?_, hcs := ?_, keep := ((((hkp.alloc _).alloc _).alloc _).alloc _).alloc _, new := by omega }
  · have := World.ownsRow_made (base := wc.heap.size + 4) (e := 3) (size := 1) ((((wc.alloc (.cells #[.slice none 0 0, .slice none 0 0, .int .i64 parts, .int .i64 0, .bool failed] 70)).alloc (.cells #[.slice none 0 0, .slice none 0 0, .int .i64 parts, .int .i64 0, .bool true] 70)).alloc o0).alloc o1) cc len (by simp) hlen (by simpa using hcap)
    simpa using this
  · exact ((((Blk.new wc _ _).alloc _).alloc _).alloc _).alloc _
  · have := (((Blk.new (wc.alloc (.cells #[.slice none 0 0, .slice none 0 0, .int .i64 parts, .int .i64 0, .bool failed] 70)) #[.slice none 0 0, .slice none 0 0, .int .i64 parts, .int .i64 0, .bool true] 70).alloc o0).alloc o1).alloc (.cells cc 3)
    simpa using this
  · intro h
    have := hg h
    omega
  · by_cases h : cs = []
    · subst h; intro i hi; simp at hi
    · have hk : Kp [] wc (((((wc.alloc (.cells #[.slice none 0 0, .slice none 0 0, .int .i64 parts, .int .i64 0, .bool failed] 70)).alloc (.cells #[.slice none 0 0, .slice none 0 0, .int .i64 parts, .int .i64 0, .bool true] 70)).alloc o0).alloc o1).alloc (.cells cc 3)) := (((((Kp.refl _ _).alloc _).alloc _).alloc _).alloc _).alloc _
      exact hk.callsAt hca (by simp) (hg h)

end Go.Proofs.Qxb6600955a
