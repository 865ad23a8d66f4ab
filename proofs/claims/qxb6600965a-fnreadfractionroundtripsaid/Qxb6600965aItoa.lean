import Derived.Test.Qxb6600965aNum
import Derived.Below
import Derived.Laws.BytesArg
import Derived.ChangeKeysEq
namespace Go.Proofs.Qxb6600965a
open Go.RowKit

/-- Block b is a row of cells, none frozen. -/
def Blk (w : World) (b : Nat) (cs : Array Value) (t : TypeId) : Prop := w.heap[b]? = some (.cells cs t (0, 0))

theorem Blk.cell {w : World} {b : Nat} {cs : Array Value} {t : TypeId} (h : Blk w b cs t) (o : Nat) : w.cell? ⟨b, o, none⟩ = cs[o]? := by
  unfold Blk at h
  simp [World.cell?, h]

theorem Blk.frozen {w : World} {b : Nat} {cs : Array Value} {t : TypeId} (h : Blk w b cs t) (o : Nat) : w.frozen? ⟨b, o, none⟩ = false := by
  unfold Blk at h
  simp [World.frozen?, h]

theorem Blk.set {w : World} {b : Nat} {cs : Array Value} {t : TypeId} (h : Blk w b cs t) (o : Nat) (v : Value) : Blk (w.setCell ⟨b, o, none⟩ v) b (cs.setIfInBounds o v) t := by
  unfold Blk at *
  simp [World.setCell, Array.getElem?_modify, h]

theorem Blk.new (w : World) (cs : Array Value) (t : TypeId) : Blk (w.alloc (.cells cs t)) w.heap.size cs t := heap_alloc_new w _

theorem foldl_hv (l : List UInt8) : ∀ a : Int, l.foldl (fun n c => n * 10 + ((c.toNat : Int) - 48)) a = a * 10 ^ l.length + hv l := by
  induction l with
  | nil => intro a; simp [hv]
  | cons c l ih =>
    intro a
    have h1 := ih (a * 10 + ((c.toNat : Int) - 48))
    have h2 : hv (c :: l) = ((c.toNat : Int) - 48) * 10 ^ l.length + hv l := by
      show List.foldl _ _ _ = _
      have := ih (0 * 10 + ((c.toNat : Int) - 48))
      rw [Int.zero_mul, Int.zero_add] at this
      rw [List.foldl_cons, Int.zero_mul, Int.zero_add]
      exact this
    rw [List.foldl_cons, h1, h2, List.length_cons, Int.pow_succ, Int.add_mul, Int.mul_assoc, Int.mul_comm 10 (10 ^ l.length), Int.add_assoc]

theorem hv_cons (c : UInt8) (l : List UInt8) : hv (c :: l) = ((c.toNat : Int) - 48) * 10 ^ l.length + hv l := by
  show List.foldl _ _ _ = _
  have := foldl_hv l (0 * 10 + ((c.toNat : Int) - 48))
  rw [Int.zero_mul, Int.zero_add] at this
  rw [List.foldl_cons, Int.zero_mul, Int.zero_add]
  exact this

theorem hv_app (l r : List UInt8) : hv (l ++ r) = hv l * 10 ^ r.length + hv r := by
  show List.foldl _ _ _ = _
  rw [List.foldl_append]
  exact foldl_hv r _

/-- The cells from place o on hold the bytes l. -/
def Has (cs : Array Value) (o : Nat) (l : List UInt8) : Prop := ∀ i (h : i < l.length), cs[o + i]? = some (.int .u8 (l[i].toNat : Int))

theorem Has.cons {cs : Array Value} {o : Nat} {l : List UInt8} (h : Has cs (o + 1) l) (ho : o < cs.size) (c : UInt8) : Has (cs.setIfInBounds o (.int .u8 c.toNat)) o (c :: l) := by
  intro i hi
  cases i with
  | zero => simp [ho]
  | succ i =>
    have := h i (by simpa using hi)
    rw [Array.getElem?_setIfInBounds_ne (by omega)]
    rw [show o + (i + 1) = o + 1 + i by omega]
    simpa using this

theorem conv_has (w : World) (b o n cap : Nat) (cs : Array Value) (t : TypeId) (l : List UInt8) (hb : Blk w b cs t) (h : Has cs o l) (hn : l.length = n) :
    (convert 28 9 (.slice (some ⟨b, o, none⟩) n cap)).run Try.prog w = .ok (.string ⟨l.toArray⟩) w := by
  have := run_convert_bytes_arg (P := Try.prog) w 28 5 Try.underlying28 Try.underlying5 b o n cap (l.map fun c => (c.toNat : Int)) (by simpa using hn)
    (fun i hi => by rw [hb.cell, h i (by omega)]; simp [List.getD, List.getElem?_eq_getElem (show i < l.length by omega)]) 9 Try.underlying9
  rw [this]
  congr 3
  simp only [strOfNums, List.map_map]
  rw [List.map_congr_left (g := id) (fun c _ => by simp), List.map_id]

theorem info5 : (Try.prog.info? 5).map (fun i => i.size) = some 1 := by kernel_rfl
theorem size5 (w : World) (t : TypeId) (h : t = 5) : (sizeOf t).run Try.prog w = .ok 1 w := by
  subst h
  have h1 := info5
  cases hi : Try.prog.info? 5 with
  | none => rw [hi] at h1; cases h1
  | some i =>
    have hc : Try.prog.cellsOf 5 = 1 := by kernel_rfl
    rw [run_sizeOf (w := w) hi, hc]

theorem slice34 (w : World) (b k : Nat) (h0 : 0 < k) (hk : k ≤ 24) :
    (Instr.sliceAt 34 (.pointer (some ⟨b, 0, none⟩)) (some (.int .i64 (24 - (k : Int)))) none none).run Try.prog w = .ok (.slice (some ⟨b, 24 - k, none⟩) k k) w := by
  have ht : Try.prog.underlying 34 = some (.array (Try.prog.arrayLen 34) (Try.prog.elem 34)) := by kernel_rfl
  have hl : Try.prog.arrayLen 34 = 24 := by kernel_rfl
  have hs : (sizeOf (Try.prog.elem 34)).run Try.prog w = .ok 1 w := size5 w _ (by kernel_rfl)
  have e1 : ((24 : Int) - k).toNat = 24 - k := by omega
  have e2 : 24 - (24 - k) = k := by omega
  rw [run_sliceAt_array_l w 34 _ ht .i64 _ (by omega) (by rw [hl]; omega), hs, hl]
  have e3 : ¬ 24 = 24 - k := by omega
  simp only [Result.andThen, slicedAt, e1, e2, if_neg e3, Addr.add, Nat.mul_one]
  by_cases e4 : 24 - k = 0
  · rw [if_pos e4, e4]
  · rw [if_neg e4, Nat.zero_add]

theorem slice35 (w : World) (b : Nat) :
    (Instr.sliceAt 35 (.pointer (some ⟨b, 0, none⟩)) none none none).run Try.prog w = .ok (.slice (some ⟨b, 0, none⟩) 9 9) w := by
  have ht : Try.prog.underlying 35 = some (.array (Try.prog.arrayLen 35) (Try.prog.elem 35)) := by kernel_rfl
  have hl : Try.prog.arrayLen 35 = 9 := by kernel_rfl
  have hs : (sizeOf (Try.prog.elem 35)).run Try.prog w = .ok 1 w := size5 w _ (by kernel_rfl)
  rw [run_sliceAt_array_all w 35 _ ht, hs, hl]
  simp [slicedAt, Addr.add, Result.andThen]

def byteOf (m : Nat) : UInt8 := UInt8.ofNat (48 + m % 10)
theorem byteOf_nat (m : Nat) : (byteOf m).toNat = 48 + m % 10 := by unfold byteOf; rw [UInt8.toNat_ofNat']; omega
theorem byteOf_isD (m : Nat) : isD (byteOf m) = true := by rw [isD_iff, byteOf_nat]; omega

set_option maxRecDepth 100000 in
set_option maxHeartbeats 1600000 in
theorem itoa_pos (n : Nat) (w : World) (h0 : 0 < n) (h1 : n ≤ 9223372036854775807) :
    Calls Try.prog 10 #[.int .i64 n] w fun e w' => ∃ l : List UInt8, e = .returned (.string ⟨l.toArray⟩) ∧ l.length ≤ 24 ∧ (∀ c ∈ l, isD c = true) ∧ hv l = n ∧ Grown w w' := by
  go_enter Try.func10, Try.ntmps10
  go_wp2
  go_loopg [0, 4] 25 (fun g nv iv wr => ∃ (m k : Nat) (cs : Array Value) (l : List UInt8), k + g = 25 ∧ g ≠ 0 ∧ nv = .int .i64 m ∧ iv = .int .i64 (24 - (k : Int)) ∧ m ≤ n ∧
      Hid (Blk wr w.heap.size cs 34) ∧ Hid (Has cs (24 - k) l) ∧ cs.size = 24 ∧ l.length = k ∧ Hid (∀ c ∈ l, isD c = true) ∧ Hid (m * 10 ^ k + hv l = n) ∧ Hid (m < 10 ^ (24 - k)) ∧ Grown w wr)
  case atStart =>
    refine ⟨n, 0, _, [], rfl, by omega, rfl, rfl, Nat.le_refl _, hide (Blk.new _ _ _), hide (fun i h => absurd h (Nat.not_lt_zero _)), rfl, rfl, hide (fun c h => by cases h), hide (by simp [hv]), hide ?_, (Grown.refl w).alloc _ _⟩
    exact Nat.lt_of_le_of_lt h1 (by decide)
  case round =>
    obtain ⟨m, k, cs, l, hk, hg, rfl, rfl, hm, HB, HH, hcs, hl, HD, HV, HP, HG⟩ := hrel
    by_cases h2 : m = 0
    · subst h2
      have hk0 : 0 < k := by
        rcases Nat.eq_zero_or_pos k with e | e
        · obtain rfl : l = [] := List.eq_nil_of_length_eq_zero (by omega)
          have := HV.out
          simp [hv] at this
          omega
        · exact e
      have hc := conv_has wr w.heap.size (24 - k) k k cs 34 l HB.out HH.out hl
      have hsl := slice34 wr w.heap.size k hk0 (by omega)
      go_wp2
      go_ret
      refine ⟨l, rfl, by omega, HD.out, ?_, HG⟩
      have := HV.out
      simpa using this
    · have hk' : k < 24 := by
        rcases Nat.lt_or_ge k 24 with h | h
        · exact h
        · have := HP.out
          rw [show 24 - k = 0 by omega] at this
          simp at this
          omega
      have f1 := HB.out.frozen (24 - k - 1)
      have c1 : wr.cell? ⟨w.heap.size, 24 - k - 1, none⟩ = some (cs[24 - k - 1]'(by omega)) := by rw [HB.out.cell]; simp
      have hB := HB.out.set (24 - k - 1) (.int .u8 (byteOf m).toNat)
      have hH : Has (cs.setIfInBounds (24 - k - 1) (.int .u8 (byteOf m).toNat)) (24 - k - 1) (byteOf m :: l) := Has.cons (by rw [show 24 - k - 1 + 1 = 24 - k by omega]; exact HH.out) (by omega) _
      have eb : ((byteOf m).toNat : Int) = 48 + (m : Int) % 10 := by rw [byteOf_nat]; omega
      rw [eb] at hB hH
      have HB' := hide hB
      have HH' := hide hH
      have HV' : Hid ((m / 10 : Nat) * 10 ^ (k + 1) + hv (byteOf m :: l) = n) := hide (by
        rw [hv_cons, eb, hl, ← HV.out, ← Int.add_assoc]
        congr 1
        rw [Int.pow_succ, Int.mul_comm (10 ^ k) 10, ← Int.mul_assoc, ← Int.add_mul]
        congr 1
        omega)
      have HP' : Hid (m / 10 < 10 ^ (24 - (k + 1))) := hide (by
        have := HP.out
        rw [show 24 - k = (24 - (k + 1)) + 1 by omega, Nat.pow_succ] at this
        omega)
      have HD' : Hid (∀ c ∈ byteOf m :: l, isD c = true) := hide (fun c hc => by
        rcases List.mem_cons.1 hc with rfl | hc
        · exact byteOf_isD m
        · exact HD.out c hc)
      clear hB hH eb HB HH HV HP HD
      go_wp2
      go_roundg (gk - 1)
      case measure => omega
      case rel => exact ⟨m / 10, k + 1, _, byteOf m :: l, by omega, by omega, by go_num, by go_num, by omega, HB', by rw [show 24 - (k + 1) = 24 - k - 1 by omega]; exact HH', by simpa using hcs, by simp [hl], HD', HV', HP', HG.setCell (Nat.le_refl _) _⟩
end Go.Proofs.Qxb6600965a
