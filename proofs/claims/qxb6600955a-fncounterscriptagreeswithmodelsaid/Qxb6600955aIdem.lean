import Derived.Test.Qxb6600955aStart
import Derived.Test.Qxb6600955aMis
namespace Go.Proofs.Qxb6600955a
open Go.RowKit

theorem pruned_last {ss : List Int} {t mn mx : Int} : ∀ (r f : Nat), Ring ss f (r + 1) → rget ss f r = t → ∃ r', (pruned ss t mn mx (r + 1) f).2 = r' + 1 ∧ rget ss (pruned ss t mn mx (r + 1) f).1 r' = t
  | 0, f, h, he => by
    refine ⟨0, ?_⟩
    have : dropNow ss t mn mx f 1 = false := by
      simp only [dropNow, he]
      simp
    simp [pruned, this, he]
  | r + 1, f, h, he => by
    rw [pruned]
    split
    · have h1 := h.rn
      exact pruned_last r _ h.drop (by rw [rget_step (h.fn.2 (by omega)) (by omega)]; exact he)
    · exact ⟨r + 1, rfl, he⟩

theorem bytes23_yes (a : Option Addr) (n c : Nat) (x1 x2 x3 x4 x5 : Int) (w : World) (hn : n ≤ 1048576) :
    Calls Try.prog 23 #[.slice a n c, .int .i64 x1, .int .i64 x2, .int .i64 x3, .int .i64 x4, .int .i64 x5] w fun e w' => e = .returned (.bool true) ∧ w = w' := by
  have h1 : ¬ (1048576 : Int) < (n : Int) := by omega
  go_enter Try.func23, Try.ntmps23
  go_wp2
  go_ret
  exact ⟨rfl, rfl⟩

theorem bytes23_no (a : Option Addr) (n c : Nat) (x1 x2 x3 x4 x5 : Int) (w : World) (hn : ¬ n ≤ 1048576) :
    Calls Try.prog 23 #[.slice a n c, .int .i64 x1, .int .i64 x2, .int .i64 x3, .int .i64 x4, .int .i64 x5] w fun e w' => e = .returned (.bool false) ∧ w = w' := by
  have h1 : (1048576 : Int) < (n : Int) := by omega
  go_enter Try.func23, Try.ntmps23
  go_wp2
  go_ret
  exact ⟨rfl, rfl⟩

theorem counterStart_no (b f r : Nat) (sv : Value) (ss : List Int) (mn mx t : Int) (w : World) (hc : Ctr w b sv ss f (r + 1)) (hr : Ring ss f (r + 1)) (t0 : 0 ≤ t) (t1 : t ≤ 9223372036854775807) (he : rget ss f r = t) :
    Calls Try.prog 15 #[.pointer (some ⟨b, 0, none⟩), .int .i64 mn, .int .i64 mx, .int .i64 t] w fun e w' => e = .returned (.bool false) ∧ Kp [] w w' := by
  have HE := hide he
  clear he
  go_enter Try.func15, Try.ntmps15
  go_wp2_with fail
  refine (start_no b f r sv ss mn mx t _ hc hr t0 t1 HE.out).mono ?_
  rintro e w1 ⟨rfl, hk⟩
  go_wp2_with fail
  go_ret
  exact ⟨by simp, hk⟩

theorem counterStart_yes (b f r : Nat) (sv : Value) (ss : List Int) (mn mx t : Int) (w : World) (hc : Ctr w b sv ss f r) (hr : Ring ss f r) (hln : ss.length ≤ 2000000) (t0 : 0 ≤ t) (t1 : t ≤ 9223372036854775807) (he : ∀ i, r = i + 1 → rget ss f i ≠ t) :
    Calls Try.prog 15 #[.pointer (some ⟨b, 0, none⟩), .int .i64 mn, .int .i64 mx, .int .i64 t] w fun e w' => e = .returned (.bool true) ∧
      ∃ sv2 ss2 f1, Laid ss ss2 f f1 r t ∧ Ctr w' b sv2 ss2 (pruned ss2 t mn mx (r + 1) f1).1 (pruned ss2 t mn mx (r + 1) f1).2 ∧ Kp [some b, sv.ownBlock] w w' ∧ ∀ g, sv2.ownBlock = some g → sv.ownBlock = some g ∨ w.heap.size ≤ g := by
  have HE := hide he
  clear he
  go_enter Try.func15, Try.ntmps15
  go_wp2_with fail
  refine (start_yes b f r sv ss mn mx t _ hc hr hln t0 t1 HE.out).mono ?_
  rintro e w1 ⟨rfl, sv2, ss2, f1, h1, h2, h3, h4⟩
  go_wp2_with fail
  go_ret
  exact ⟨by simp, sv2, ss2, f1, h1, h2, h3, h4⟩

/-- Behind start, whatever it answers: the youngest run started at the clock. -/
def Started (b : Nat) (sv : Value) (t : Int) (w w' : World) : Prop :=
  ∃ sv2 ss2 f2 r2, Ctr w' b sv2 ss2 f2 (r2 + 1) ∧ Ring ss2 f2 (r2 + 1) ∧ rget ss2 f2 r2 = t ∧ Kp [some b, sv.ownBlock] w w'

theorem counterStart_any (b f r : Nat) (sv : Value) (ss : List Int) (mn mx t : Int) (w : World) (hc : Ctr w b sv ss f r) (hr : Ring ss f r) (hln : ss.length ≤ 2000000) (t0 : 0 ≤ t) (t1 : t ≤ 9223372036854775807) :
    Calls Try.prog 15 #[.pointer (some ⟨b, 0, none⟩), .int .i64 mn, .int .i64 mx, .int .i64 t] w fun e w' => (∃ v : Bool, e = .returned (.bool v)) ∧ Started b sv t w w' := by
  by_cases he : ∃ i, r = i + 1 ∧ rget ss f i = t
  · obtain ⟨i, rfl, he⟩ := he
    refine (counterStart_no b f i sv ss mn mx t w hc hr t0 t1 he).mono ?_
    rintro e w' ⟨rfl, hk⟩
    exact ⟨⟨_, rfl⟩, sv, ss, f, i, hc.kept hk (by simp) (by simp), hr, he, hk.mono (by simp)⟩
  · refine (counterStart_yes b f r sv ss mn mx t w hc hr hln t0 t1 (fun i hi e => he ⟨i, hi, e⟩)).mono ?_
    rintro e w' ⟨rfl, sv2, ss2, f1, hL, hC, hk, _⟩
    obtain ⟨r', h1, h2⟩ := pruned_last (mn := mn) (mx := mx) r f1 hL.ring hL.last
    have hR := hL.ring.pruned (t := t) (mn := mn) (mx := mx)
    rw [h1] at hC hR
    exact ⟨⟨_, rfl⟩, sv2, ss2, _, r', hC, hR, h2, hk⟩
end Go.Proofs.Qxb6600955a
