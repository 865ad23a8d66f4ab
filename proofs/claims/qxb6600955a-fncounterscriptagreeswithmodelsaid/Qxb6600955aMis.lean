import Derived.Test.Qxb6600955aCtr5
namespace Go.Proofs.Qxb6600955a
open Go.RowKit

theorem skipped_all {ss : List Int} {t : Int} : ∀ (r f : Nat), Ring ss f r → (∀ i, i < r → rget ss f i < t) → (skipped ss t r f).2 = 0
  | 0, _, _, _ => rfl
  | r + 1, f, h, hl => by
    have h1 := h.rn
    have hf := h.fn.2 (by omega)
    unfold skipped
    rw [if_pos (by have := hl 0 (by omega); omega)]
    exact skipped_all r _ h.drop (fun i hi => by rw [rget_step hf (by omega)]; exact hl (i + 1) (by omega))

/-- What a clone of a row of ints is. -/
def Cloned (w wx : World) (v : Value) (ss : List Int) : Prop :=
  ∃ a, v = .slice a ss.length ss.length ∧ ((a = none ∧ ss = []) ∨ ∃ g, a = some ⟨g, 0, none⟩ ∧ w.heap.size ≤ g ∧ Blk wx g (ss.map (Value.int .i64)).toArray 3) ∧ Kp [] w wx

theorem Cloned.ctr {w wx : World} {a : Option Addr} {ss : List Int} (h : (a = none ∧ ss = []) ∨ ∃ g, a = some ⟨g, 0, none⟩ ∧ w.heap.size ≤ g ∧ Blk wx g (ss.map (Value.int .i64)).toArray 3) (f r : Nat) :
    Ctr (wx.alloc (.cells #[.slice a ss.length ss.length, .int .i64 f, .int .i64 r] 62)) wx.heap.size (.slice a ss.length ss.length) ss f r := by
  refine ⟨Blk.new _ _ _, ?_⟩
  rcases h with ⟨rfl, rfl⟩ | ⟨g, rfl, hg, hb⟩
  · exact .inl ⟨rfl, rfl⟩
  · exact .inr ⟨g, rfl, by have := hb.lt; omega, hb.alloc _⟩

theorem cloneInts_any (a : Option Addr) (n c : Nat) (ss : List Int) (w : World) (h : RowAt w a n ss) (h0 : a = none → n = 0 ∧ c = 0) (hn : n ≤ 5000000) :
    Calls Try.prog 21 #[.slice a n c] w fun e w' => ∃ v, e = .returned v ∧ Cloned w w' v ss := by
  have hl := h.hlen
  cases a with
  | none =>
    obtain ⟨rfl, rfl⟩ := h0 rfl
    have e : ss = [] := List.length_eq_zero_iff.1 hl
    subst e
    refine (cloneInts_nil w).mono ?_
    rintro e w' ⟨rfl, rfl⟩
    exact ⟨_, rfl, none, rfl, .inl ⟨rfl, rfl⟩, Kp.refl _ _⟩
  | some x =>
    by_cases hz : n = 0
    · subst hz
      have e : ss = [] := List.length_eq_zero_iff.1 hl
      subst e
      refine (cloneInts_zero x c w).mono ?_
      rintro e w' ⟨rfl, hb, hk⟩
      exact ⟨_, rfl, _, rfl, .inr ⟨_, rfl, Nat.le_refl _, hb⟩, hk⟩
    · obtain ⟨b, off, e, hb, hc⟩ := h.at_ hz
      simp only [Option.some.injEq] at e
      subst e
      subst hl
      refine (cloneInts_c b off c ss w hc hn hb).mono ?_
      rintro e w' ⟨rfl, hb', hk⟩
      exact ⟨_, rfl, _, rfl, .inr ⟨_, rfl, Nat.le_refl _, hb'⟩, hk⟩

/-- The ring that the law is handed, once zzRingValid has said yes. -/
theorem valid_nat {n : Nat} {f r : Int} (h : Valid n f r) : ∃ fN rN : Nat, f = fN ∧ r = rN ∧ fN ≤ n ∧ (0 < n → fN < n) ∧ rN ≤ n := by
  obtain ⟨h1, h2⟩ := h
  by_cases hz : n = 0
  · obtain ⟨rfl, rfl⟩ := h1 hz
    exact ⟨0, 0, rfl, rfl, by omega, by omega, by omega⟩
  · obtain ⟨a, b, c, d⟩ := h2 hz
    exact ⟨f.toNat, r.toNat, by omega, by omega, by omega, by omega, by omega⟩

theorem ringWithin_any (a : Option Addr) (n c fN rN : Nat) (ss : List Int) (lo hi : Int) (w : World) (h : RowAt w a n ss) (hf : 0 < n → fN < n) (hr : rN ≤ n) (hn : n ≤ 5000000) :
    Calls Try.prog 20 #[.slice a n c, .int .i64 fN, .int .i64 rN, .int .i64 lo, .int .i64 hi] w (SaysOnly (∀ i, i < rN → lo ≤ rget ss fN i ∧ rget ss fN i ≤ hi) w) := by
  by_cases hz : n = 0
  · subst hz
    have e : rN = 0 := by omega
    subst e
    exact ringWithin_none a 0 c fN lo hi _ (fun i hi => by omega) w
  · obtain ⟨b, off, e, hb, hc⟩ := h.at_ hz
    have hl := h.hlen
    subst e
    subst hl
    exact ringWithin_c b off c fN rN ss lo hi w hc (hf (by omega)) hr hn

set_option maxRecDepth 100000 in
set_option maxHeartbeats 2000000 in
theorem mismatch_c (a : Option Addr) (n c : Nat) (ss : List Int) (f r mn mx t : Int) (w : World) (h : RowAt w a n ss) (h0 : a = none → n = 0 ∧ c = 0) (t1 : t ≤ 9223372036854775807) :
    Calls Try.prog 5 #[.slice a n c, .int .i64 f, .int .i64 r, .int .i64 mn, .int .i64 mx, .int .i64 t] w fun e w' => e = .returned (.bool true) ∧ Below w.heap.size w w' := by
  have HR := hide h
  have HZ := hide h0
  clear h h0
  by_cases hn : n ≤ 65536
  · go_enter Try.func5, Try.ntmps5
    go_wp2_with fail
    refine (bytes18_yes _ _ _ _ _ _ _ _ _ (by omega)).mono ?_
    rintro e w1 ⟨rfl, rfl⟩
    go_wp2_with fail
    refine (ringValid_c _ _ _ _ _ _).mono ?_
    rintro e w1 ⟨v, rfl, hv, rfl⟩
    cases v with
    | false =>
      go_wp2_with fail
      go_ret
      exact ⟨by simp, Below.refl _ _⟩
    | true =>
      obtain ⟨fN, rN, rfl, rfl, hf1, hf2, hr1⟩ := valid_nat (hv rfl)
      clear hv
      by_cases ht : 0 ≤ t
      · go_wp2_with fail
        refine (ringWithin_any _ _ _ _ _ ss _ _ _ (unhide HR) hf2 hr1 (by omega)).mono ?_
        rintro e w1 ⟨v, rfl, hv, rfl⟩
        cases v with
        | false =>
          go_wp2_with fail
          go_ret
          exact ⟨by simp, Below.refl _ _⟩
        | true =>
          have hin := hv rfl
          have hl := HR.out.hlen
          have hRing : Ring ss fN rN := ⟨⟨by omega, by omega⟩, by omega, by omega, fun i hi => ⟨(hin i hi).1, by have := (hin i hi).2; omega⟩⟩
          have HIN := hide (skipped_all (t := t) rN fN hRing (fun i hi => by have := (hin i hi).2; omega))
          have HG := hide hRing
          clear hv hin hl hRing
          go_wp2_with fail
          refine (cloneInts_any _ _ _ ss _ (unhide HR) (unhide HZ) (by omega)).mono ?_
          rintro e w1 ⟨v, rfl, a1, rfl, ha1, hk1⟩
          go_wp2_with fail
          refine (makeCounter_c _ _ _ _ _ _).mono ?_
          rintro e w2 ⟨rfl, rfl⟩
          have hC := Cloned.ctr ha1 fN rN
          go_wp2_with fail
          refine (counterPass_c w1.heap.size fN rN _ ss mn mx t false _ hC (unhide HG) ht t1 (skipped ss t rN fN).1 0 ?_).mono ?_
          · show pruned ss t mn mx (skipped ss t rN fN).2 (skipped ss t rN fN).1 = _
            rw [HIN.out]
            rfl
          rintro e w3 ⟨rfl, hC3, hk3⟩
          have hb : Below w.heap.size w w3 := (((hk1.alloc _).trans (cs := [some w1.heap.size]) hk3 (fun i hi hm => by simp at hm; have := hk1.size; omega))).below _ (Nat.le_refl _) (by simp)
          have HB := hide hb
          have e1 : passEnds ss t mn (skipped ss t rN fN).1 0 = false := rfl
          have e2 : passMore ss t mx (skipped ss t rN fN).1 0 = false := rfl
          have e3 : passRuns ss t mx (skipped ss t rN fN).1 0 = 0 := rfl
          rw [e1, e2]
          rw [e3] at hC3
          clear e1 e2 e3 hb hC hk1 hk3 ha1
          go_wp2_with fail
          refine (counterState_c _ _ _ _ ss _ hC3).mono ?_
          rintro e w4 ⟨rfl, q, rfl⟩
          go_wp2_with fail
          go_ret
          exact ⟨by simp, HB.out.trans ⟨rfl, rfl, rfl, Nat.le_refl _, fun _ _ => rfl⟩⟩
      · go_wp2_with fail
        go_ret
        exact ⟨by simp, Below.refl _ _⟩
  · by_cases hn2 : n ≤ 1048576
    · go_enter Try.func5, Try.ntmps5
      go_wp2_with fail
      refine (bytes18_yes _ _ _ _ _ _ _ _ _ hn2).mono ?_
      rintro e w1 ⟨rfl, rfl⟩
      go_wp2_with fail
      go_ret
      exact ⟨by simp, Below.refl _ _⟩
    · go_enter Try.func5, Try.ntmps5
      go_wp2_with fail
      refine (bytes18_no _ _ _ _ _ _ _ _ _ hn2).mono ?_
      rintro e w1 ⟨rfl, rfl⟩
      go_wp2_with fail
      go_ret
      exact ⟨by simp, Below.refl _ _⟩
end Go.Proofs.Qxb6600955a
