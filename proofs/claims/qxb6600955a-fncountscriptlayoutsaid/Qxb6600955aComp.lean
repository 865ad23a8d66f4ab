import Derived.Test.Qxb6600955aRows
import Derived.Test.Qxb6600955aBase
import Derived.WalkKit
import Derived.WalkSpells
import Derived.WalkLawsBesides
import Derived.Deep.RegionLaw
import Derived.Deep.AppendLies
import Derived.Deep.QuietTactic
import Derived.BigQuiet
import Derived.KernelRfl
namespace Go.Proofs.Qxb6600955a
open Go.RowKit

theorem written_c (b : Nat) (parts n : Int) (failed : Bool) (pv rv zz : Value) (w : World) (hb : Blk w b #[pv, rv, .int .i64 parts, zz, .bool failed] 70) :
    Calls Try.prog 40 #[.pointer (some ⟨b, 0, none⟩), .int .i64 n] w fun e w' => e = .returned (.tuple #[]) ∧
      Blk w' b #[pv, rv, .int .i64 (wrap64 (parts + n)), zz, .bool (failed || decide (100000 < wrap64 (parts + n)))] 70 ∧ Kp [some b] w w' := by
  have c2 := hb.cell 2
  have f2 := hb.frozen 2
  have c4 := hb.cell 4
  have f4 := hb.frozen 4
  simp at c2 c4
  have HB : Hid (Blk w b #[pv, rv, .int .i64 parts, zz, .bool failed] 70) := hb
  clear hb
  by_cases h : 100000 < wrap64 (parts + n)
  · go_enter Try.func40, Try.ntmps40
    go_wp2
    go_end0
    refine ⟨rfl, ?_, ((Kp.refl _ _).setCell (.inr (by simp)) _).setCell (.inr (by simp)) _⟩
    simpa [h] using (HB.out.set 2 (.int .i64 (wrap64 (parts + n)))).set 4 (.bool true)
  · go_enter Try.func40, Try.ntmps40
    go_wp2
    go_end0
    refine ⟨rfl, ?_, ((Kp.refl _ _).setCell (.inr (by simp)) _)⟩
    rw [decide_eq_false (by omega : ¬ 100000 < wrap64 (parts + n)), Bool.or_false]
    simpa using (HB.out.set 2 (.int .i64 (wrap64 (parts + n))))

theorem new2 (w : World) (o o' : Obj) : ((w.alloc o).alloc o').drew.heap[w.heap.size + 1]? = some o' := by
  have := heap_alloc_new (w.alloc o) o'
  rw [World.size_alloc] at this
  exact this

theorem Try.info79 : (Try.prog.info? 79).map (fun i => (i.zero, i.size, i.bytes)) = some (some (.agg #[.pointer none, .int .i32 0, .int .i32 0, .int .i32 0, .int .u8 0]), 5, 24) := by kernel_rfl

set_option maxRecDepth 100000 in
set_option maxHeartbeats 3200000 in
theorem emit_c (b base n : Nat) (pv : Value) (ps : List Value) (cl : Option Addr) (nx al ct op : Int) (rv pp zz ff : Value) (w : World)
    (hb : Blk w b #[pv, rv, pp, zz, ff] 70) (hown : w.ownsRow base 79 5 pv n ps) (hbase : base ≤ w.heap.size) (hn : n ≤ 1000000) (hne : pv.ownBlock ≠ some b) :
    Calls Try.prog 41 #[.pointer (some ⟨b, 0, none⟩), .agg #[.pointer cl, .int .i32 nx, .int .i32 al, .int .i32 ct, .int .u8 op]] w fun e w' =>
      ∃ pv', e = .returned (.int .i32 n) ∧ Blk w' b #[pv', rv, pp, zz, ff] 70 ∧
        w'.ownsRow base 79 5 pv' (n + 1) (ps ++ [.pointer cl, .int .i32 nx, .int .i32 al, .int .i32 ct, .int .u8 op]) ∧
        Kp [some b, pv.ownBlock] w w' ∧ (∀ k, pv'.ownBlock = some k → pv.ownBlock = some k ∨ w.heap.size ≤ k) := by
  obtain ⟨i0, hi0, hz0, hz1, hz2⟩ := info_parts Try.info79
  have c0 := hb.cell 0
  have f0 := hb.frozen 0
  have lb := hb.lt
  simp at c0
  have HB : Hid (Blk w b #[pv, rv, pp, zz, ff] 70) := hb
  clear hb
  have hfar : some w.heap.size ≠ pv.ownBlock := fun e => by have := (hown.lt _ e.symm).2; omega
  go_enter Try.func41, Try.ntmps41
  go_wp2_with fail
  go_region_law
    ((refine step_append_lies _ (by rfl) _ _ _ (by rfl) base 79 i0 _ 5 24 Try.underlying67 hi0 hz0 hz1 hz2 rfl (by omega) pv n ps (by rfl) (((hown.alloc _).alloc _).drew)
        ⟨w.heap.size + 1, 0, none⟩ 1 1 [.pointer cl, .int .i32 nx, .int .i32 al, .int .i32 ct, .int .u8 op] (by rfl) (by rfl) (World.news_of_block (cs := #[.pointer cl, .int .i32 nx, .int .i32 al, .int .i32 ct, .int .u8 op]) (t := 79) (fr := (0, 0)) (new2 w _ _)) (by simp [Value.oneCell'])
        (by omega) (by unfold maxLen; omega) (by omega) (by simp; omega) (w.heap.size + 2) (by simp) ?_; intro g cap w1 hown1 hgrow hat hlt; have hb1 := grown_blk hgrow (HB.out.alloc _ |>.alloc _).drew (Ne.symm hne); have c0' := hb1.cell 0; have f0' := hb1.frozen 0; simp at c0'))
  all_goals
    clear f0 c0
    have hg : g ≠ b := by rintro rfl; rcases hat with hat | hat; exact hne hat; omega
    go_wp2
    go_ret
    refine ⟨_, ?_, by simpa using hb1.set 0 (.slice (some ⟨g, 0, none⟩) (n + 1) cap), owns_setCell hown1 (by simpa [Value.ownBlock] using hg) _, ?_, ?_⟩
    · simp
    · exact (((Kp.refl _ _).alloc _).alloc _).drew.grown hgrow (fun k _ e => by simp [e]) |>.setCell (.inr (by simp)) _
    · intro k hk
      simp [Value.ownBlock] at hk
      subst hk
      rcases hat with hat | hat
      · exact .inl hat
      · exact .inr (by omega)

theorem Try.info65 : (Try.prog.info? 65).map (fun i => (i.zero, i.size, i.bytes)) = some (some (.agg #[.int .i64 0, .int .i64 0]), 2, 16) := by kernel_rfl

/-- How many copies of its part a repetition counts as. -/
def copies (lo hi : Int) : Int := if hi < 0 then wrap64 (lo + 1) else hi

/-- What a compiler's parts are behind a count. -/
def partsAfter (parts lo hi p : Int) : Int := wrap64 (parts + wrap64 (copies lo hi * p))

theorem count_no (b nb : Nat) (parts lo hi p nx : Int) (failed : Bool) (pv rv zz : Value) (cl : Option Addr) (w : World) (hb : Blk w b #[pv, rv, .int .i64 parts, zz, .bool failed] 70)
    (c7 : w.cell? ⟨nb, 7, none⟩ = some (.int .i64 lo)) (c8 : w.cell? ⟨nb, 8, none⟩ = some (.int .i64 hi)) (hf : (failed || decide (100000 < partsAfter parts lo hi p)) = true) :
    Calls Try.prog 33 #[.pointer (some ⟨b, 0, none⟩), .pointer (some ⟨nb, 0, none⟩), .pointer cl, .int .i64 p, .int .i32 nx] w fun e w' => e = .returned (.int .i32 nx) ∧
      Blk w' b #[pv, rv, .int .i64 (partsAfter parts lo hi p), zz, .bool true] 70 ∧ Kp [some b] w w' := by
  unfold partsAfter copies at *
  by_cases hm : hi < 0
  · rw [if_pos hm] at *
    have HF := hide hf
    clear hf
    go_enter Try.func33, Try.ntmps33
    go_wp2_with fail
    refine (written_c b parts _ failed pv rv zz _ hb).mono ?_
    rintro e w1 ⟨rfl, hb1, hk1⟩
    rw [unhide HF] at hb1
    have c4 := hb1.cell 4
    simp at c4
    go_wp2_with fail
    go_ret
    exact ⟨rfl, hb1, hk1⟩
  · rw [if_neg hm] at *
    have HF := hide hf
    clear hf
    go_enter Try.func33, Try.ntmps33
    go_wp2_with fail
    refine (written_c b parts _ failed pv rv zz _ hb).mono ?_
    rintro e w1 ⟨rfl, hb1, hk1⟩
    rw [unhide HF] at hb1
    have c4 := hb1.cell 4
    simp at c4
    go_wp2_with fail
    go_ret
    exact ⟨rfl, hb1, hk1⟩

end Go.Proofs.Qxb6600955a
