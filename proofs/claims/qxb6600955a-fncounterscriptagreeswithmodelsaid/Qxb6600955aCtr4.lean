import Derived.Test.Qxb6600955aCtr3
import Derived.Lib.SliceRun
import Derived.Deep.OwnRows
namespace Go.Proofs.Qxb6600955a
open Go.RowKit

theorem mkInts {P : Program} {t e : TypeId} {z : Value} {size bytes : Nat} (ht : P.underlying t = some (.slice e)) (hinfo : (P.info? e).map (fun i => (i.zero, i.size, i.bytes)) = some (some z, size, bytes))
    (n : Nat) (hb : bytes * n ≤ 281474976710656) (h63 : n ≤ 9223372036854775807) (w : World) :
    (Instr.makeSlice t (.int .i64 (n : Int)) (.int .i64 (n : Int))).run P w = .ok (.slice (some ⟨w.heap.size, 0, none⟩) n n) (w.alloc (.cells (madeCells z.cells (n * size)) e)) := by
  obtain ⟨i, hi, hzz⟩ := Option.map_eq_some_iff.1 hinfo
  simp only [Prod.mk.injEq] at hzz
  obtain ⟨hz, hs, hby⟩ := hzz
  have hb' : (i.bytes : Int) * (n : Int) ≤ 281474976710656 := by
    have h : ((i.bytes * n : Nat) : Int) ≤ 281474976710656 := by rw [hby]; omega
    rwa [Int.natCast_mul] at h
  have hr := run_make (P := P) w t e i z ht hi hz .i64 .i64 n n (by omega) (Int.le_refl _) hb' (by omega)
  simp only [Int.toNat_natCast, hs] at hr
  exact hr

theorem Try.infoInt : (Try.prog.info? 3).map (fun i => (i.zero, i.size, i.bytes)) = some (some (.int .i64 0), 1, 8) := by kernel_rfl

/-- A row of ints that came in: its elements. -/
structure RowAt (w : World) (a : Option Addr) (len : Nat) (ss : List Int) : Prop where
  hlen : ss.length = len
  wf : ∀ i, i < len → -9223372036854775808 ≤ ss.getD i 0 ∧ ss.getD i 0 ≤ 9223372036854775807
  at_ : len ≠ 0 → ∃ b off, a = some ⟨b, off, none⟩ ∧ b < w.heap.size ∧ ∀ i, i < len → w.cell? ⟨b, off + i, none⟩ = some (.int .i64 (ss.getD i 0))

theorem bytes18_yes (a : Option Addr) (n c : Nat) (x1 x2 x3 x4 x5 : Int) (w : World) (hn : n ≤ 1048576) :
    Calls Try.prog 18 #[.slice a n c, .int .i64 x1, .int .i64 x2, .int .i64 x3, .int .i64 x4, .int .i64 x5] w fun e w' => e = .returned (.bool true) ∧ w = w' := by
  have h1 : ¬ (1048576 : Int) < (n : Int) := by omega
  go_enter Try.func18, Try.ntmps18
  go_wp2
  go_ret
  exact ⟨rfl, rfl⟩

theorem bytes18_no (a : Option Addr) (n c : Nat) (x1 x2 x3 x4 x5 : Int) (w : World) (hn : ¬ n ≤ 1048576) :
    Calls Try.prog 18 #[.slice a n c, .int .i64 x1, .int .i64 x2, .int .i64 x3, .int .i64 x4, .int .i64 x5] w fun e w' => e = .returned (.bool false) ∧ w = w' := by
  have h1 : (1048576 : Int) < (n : Int) := by omega
  go_enter Try.func18, Try.ntmps18
  go_wp2
  go_ret
  exact ⟨rfl, rfl⟩

def Valid (n : Nat) (f r : Int) : Prop := (n = 0 → f = 0 ∧ r = 0) ∧ (n ≠ 0 → 0 ≤ f ∧ f < n ∧ 0 ≤ r ∧ r ≤ n)

/-- A bool comes back that says yes only where p holds; the world stands. -/
def SaysOnly (p : Prop) (w : World) (e : Ending) (w' : World) : Prop := ∃ v : Bool, e = .returned (.bool v) ∧ (v = true → p) ∧ w = w'
theorem SaysOnly.mk {p : Prop} {w : World} {e : Ending} {w' : World} (v : Bool) (h1 : e = .returned (.bool v)) (h2 : v = true → p) (h3 : w = w') : SaysOnly p w e w' := ⟨v, h1, h2, h3⟩

theorem ringValid_c (a : Option Addr) (n c : Nat) (f r : Int) (w : World) :
    Calls Try.prog 19 #[.slice a n c, .int .i64 f, .int .i64 r] w (SaysOnly (Valid n f r) w) := by
  go_enter Try.func19, Try.ntmps19
  go_wp2
  all_goals
    go_ret
    refine SaysOnly.mk _ rfl ?_ rfl
    unfold Valid
    simp only [beq_iff_eq, beq_eq_false_iff_ne, decide_eq_true_eq, Bool.false_eq_true, false_implies] at *
    try omega

theorem makeCounter_c (a : Option Addr) (n c : Nat) (f r : Int) (w : World) :
    Calls Try.prog 12 #[.slice a n c, .int .i64 f, .int .i64 r] w fun e w' => e = .returned (.pointer (some ⟨w.heap.size, 0, none⟩)) ∧ w' = w.alloc (.cells #[.slice a n c, .int .i64 f, .int .i64 r] 62) := by
  go_enter Try.func12, Try.ntmps12
  go_wp2
  go_ret
  exact ⟨rfl, rfl⟩

theorem counterPass_c (b f0 r0 : Nat) (sv : Value) (ss : List Int) (mn mx t : Int) (m : Bool) (w : World) (hc : Ctr w b sv ss f0 r0) (hr : Ring ss f0 r0) (t0 : 0 ≤ t) (t1 : t ≤ 9223372036854775807) (f2 r2 : Nat)
    (h2 : pruned ss t mn mx (skipIf ss t m r0 f0).2 (skipIf ss t m r0 f0).1 = (f2, r2)) :
    Calls Try.prog 13 #[.pointer (some ⟨b, 0, none⟩), .int .i64 mn, .int .i64 mx, .int .i64 t, .bool m] w fun e w' => e = .returned (.tuple #[.bool (passEnds ss t mn f2 r2), .bool (passMore ss t mx f2 r2)]) ∧
      Ctr w' b sv ss f2 (passRuns ss t mx f2 r2) ∧ Kp [some b] w w' := by
  have H2 := hide h2
  clear h2
  go_enter Try.func13, Try.ntmps13
  go_wp2_with fail
  refine (pass_c b f0 r0 sv ss mn mx t m _ hc hr t0 t1 f2 r2 (unhide H2)).mono ?_
  rintro e w1 ⟨rfl, hc1, hk1⟩
  go_wp2
  go_ret2
  exact ⟨by simp, hc1, hk1⟩

theorem counterState_c (b f r : Nat) (sv : Value) (ss : List Int) (w : World) (hc : Ctr w b sv ss f r) :
    Calls Try.prog 22 #[.pointer (some ⟨b, 0, none⟩)] w fun e w' => e = .returned (.tuple #[sv, .int .i64 f, .int .i64 r]) ∧ ∃ q, w' = w.drewN q := by
  obtain ⟨a, rfl⟩ := hc.slice
  have c0 := hc.blk.cell 0
  have c1 := hc.blk.cell 1
  have c2 := hc.blk.cell 2
  simp at c0 c1 c2
  clear hc
  go_enter Try.func22, Try.ntmps22
  go_wp2
  go_quiet (fail)
  go_wp2
  go_ret3
  exact ⟨by simp, _, rfl⟩

end Go.Proofs.Qxb6600955a
