import Derived.Test.Qxb6600955aRows
import Derived.Test.Qxb6600955aBase
import Derived.WalkKit
import Derived.WalkSpells
import Derived.WalkLawsBesides
import Derived.Deep.QuietTactic
import Derived.BigQuiet
import Derived.Deep.RegionWith
import Derived.Deep.DeepCutAuto
import Derived.Deep.LoopGhost
import Derived.KernelRfl
namespace Go.Proofs.Qxb6600955a
open Go.RowKit

/-- The place in a ring of n of the run i, first being the oldest's place. -/
def idx (n f i : Nat) : Nat := if n ≤ f + i then f + i - n else f + i

/-- A counter in memory: its three fields, and the row of its starts. -/
structure Ctr (w : World) (b : Nat) (sv : Value) (ss : List Int) (f r : Nat) : Prop where
  blk : Blk w b #[sv, .int .i64 f, .int .i64 r] 62
  row : (sv = .slice none 0 0 ∧ ss = []) ∨ ∃ g, sv = .slice (some ⟨g, 0, none⟩) ss.length ss.length ∧ g ≠ b ∧ Blk w g (ss.map (Value.int .i64)).toArray 3

theorem Ctr.slice {w : World} {b : Nat} {sv : Value} {ss : List Int} {f r : Nat} (h : Ctr w b sv ss f r) : ∃ a, sv = .slice a ss.length ss.length := by
  rcases h.row with ⟨rfl, rfl⟩ | ⟨g, rfl, _⟩
  · exact ⟨_, rfl⟩
  · exact ⟨_, rfl⟩

theorem at_c (b n f i c : Nat) (a : Option Addr) (rr : Value) (w : World) (hb : Blk w b #[.slice a n c, .int .i64 f, rr] 62) (hf : f ≤ n) (hi : i ≤ n) (hn : n ≤ 10000000) :
    Calls Try.prog 39 #[.pointer (some ⟨b, 0, none⟩), .int .i64 i] w fun e w' => e = .returned (.int .i64 (idx n f i : Nat)) ∧ w = w' := by
  have c0 := hb.cell 0
  have c1 := hb.cell 1
  simp at c0 c1
  clear hb
  unfold idx
  by_cases h : n ≤ f + i
  · rw [if_pos h]
    have h' : (n : Int) ≤ (i : Int) + (f : Int) := by omega
    go_enter Try.func39, Try.ntmps39
    go_wp2
    go_ret
    refine ⟨?_, rfl⟩
    simp
    omega
  · rw [if_neg h]
    have h' : ¬ (n : Int) ≤ (i : Int) + (f : Int) := by omega
    go_enter Try.func39, Try.ntmps39
    go_wp2
    go_ret
    refine ⟨?_, rfl⟩
    simp
    omega

theorem matched_c (b g n f i c j : Nat) (s t : Int) (rr : Value) (w : World) (hb : Blk w b #[.slice (some ⟨g, 0, none⟩) n c, .int .i64 f, rr] 62) (hf : f ≤ n) (hi : i ≤ n) (hn : n ≤ 10000000)
    (hj : idx n f i = j) (hjn : j < n) (hc : w.cell? ⟨g, j, none⟩ = some (.int .i64 s)) (h0 : 0 ≤ s) (h1 : s ≤ 9223372036854775807) (t0 : 0 ≤ t) (t1 : t ≤ 9223372036854775807) :
    Calls Try.prog 34 #[.pointer (some ⟨b, 0, none⟩), .int .i64 i, .int .i64 t] w fun e w' => e = .returned (.int .i64 (t - s)) ∧ ∃ q, w' = w.drewN q := by
  have c0 := hb.cell 0
  simp at c0
  have H39 : Hid (∀ q, Calls Try.prog 39 #[.pointer (some ⟨b, 0, none⟩), .int .i64 i] (w.drewN q) fun e w' => e = .returned (.int .i64 (j : Nat)) ∧ ∃ q', w' = w.drewN q') := fun q => by
    rw [← hj]
    exact (at_c b n f i c _ rr (w.drewN q) hb hf hi hn).mono (fun e w' h => ⟨h.1, q, h.2.symm⟩)
  clear hb hj
  have j0 : (0 : Int) ≤ (j : Int) := by omega
  have j1 : (j : Int) < (n : Int) := by omega
  go_enter Try.func34, Try.ntmps34
  go_wp2
  go_quiet ((go_at_call 39; exact unhide H39 _))
  go_wp2
  go_ret
  exact ⟨by simp, _, rfl⟩

theorem drop_c (b n f r c : Nat) (a : Option Addr) (w : World) (hb : Blk w b #[.slice a n c, .int .i64 f, .int .i64 r] 62) (hf : f ≤ n) (h1 : 1 ≤ n) (hr : 1 ≤ r) (hn : n ≤ 10000000) (hrn : r ≤ n) :
    Calls Try.prog 35 #[.pointer (some ⟨b, 0, none⟩)] w fun e w' => e = .returned (.tuple #[]) ∧ Blk w' b #[.slice a n c, .int .i64 (idx n f 1 : Nat), .int .i64 (r - 1 : Nat)] 62 ∧ Kp [some b] w w' := by
  have c0 := hb.cell 0
  have c1 := hb.cell 1
  have c2 := hb.cell 2
  have fz := hb.frozen
  simp at c0 c1 c2
  have HB := hide hb
  clear hb
  go_enter Try.func35, Try.ntmps35
  go_wp2_with fail
  go_region_with
    (first
      | (go_at_call 39; refine (at_c b n f 1 c a (.int .i64 r) _ (by exact unhide HB) hf h1 hn).mono ?_; rintro e w' ⟨rfl, rfl⟩))
  all_goals
    go_end0
    have e : IntKind.i64.wrap ((r : Int) - 1) = ((r - 1 : Nat) : Int) := by rw [IntKind.wrap_i64]; omega
    refine ⟨rfl, ?_, (((Kp.refl _ _).setCell (.inr (by simp)) _).setCell (.inr (by simp)) _).drew⟩
    rw [e]
    simpa using ((HB.out.set 1 (.int .i64 (idx n f 1 : Nat))).set 2 (.int .i64 (r - 1 : Nat))).drew

theorem reset_c (b f r : Nat) (sv : Value) (w : World) (hb : Blk w b #[sv, .int .i64 f, .int .i64 r] 62) :
    Calls Try.prog 37 #[.pointer (some ⟨b, 0, none⟩)] w fun e w' => e = .returned (.tuple #[]) ∧ Blk w' b #[sv, .int .i64 f, .int .i64 (0 : Nat)] 62 ∧ Kp [some b] w w' := by
  have c2 := hb.cell 2
  have fz := hb.frozen
  simp at c2
  have HB := hide hb
  clear hb
  go_enter Try.func37, Try.ntmps37
  go_wp2
  go_end0
  exact ⟨rfl, by simpa using HB.out.set 2 (.int .i64 0), (Kp.refl _ _).setCell (.inr (by simp)) _⟩

end Go.Proofs.Qxb6600955a
