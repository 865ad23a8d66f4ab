import Derived.Test.Qxb6600955aCtr
namespace Go.Proofs.Qxb6600955a
open Go.RowKit

theorem Kp.dN {bs : List (Option Nat)} {a b : World} (h : Kp bs a b) (n : Nat) : Kp bs a (b.drewN n) := ⟨h.os, h.tape, h.output, h.size, h.block⟩
theorem Blk.dN {w : World} {b : Nat} {cs : Array Value} {t : TypeId} (h : Blk w b cs t) (n : Nat) : Blk (w.drewN n) b cs t := h

/-- The start of the run i. -/
def rget (ss : List Int) (f i : Nat) : Int := ss.getD (idx ss.length f i) 0

/-- A ring that is well formed, its runs' starts non-negative ints. -/
structure Ring (ss : List Int) (f r : Nat) : Prop where
  fn : f ≤ ss.length ∧ (0 < ss.length → f < ss.length)
  rn : r ≤ ss.length
  ln : ss.length ≤ 5000000
  pos : ∀ i, i < r → 0 ≤ rget ss f i ∧ rget ss f i ≤ 9223372036854775807

theorem idx_lt {n f i : Nat} (hf : f < n) (hi : i < n) : idx n f i < n := by unfold idx; split <;> omega
theorem idx_step {n f i : Nat} (hf : f < n) (hi : i + 1 ≤ n) : idx n (idx n f 1) i = idx n f (i + 1) := by unfold idx; split <;> split <;> split <;> omega
theorem rget_step {ss : List Int} {f i : Nat} (hf : f < ss.length) (hi : i + 1 ≤ ss.length) : rget ss (idx ss.length f 1) i = rget ss f (i + 1) := by unfold rget; rw [idx_step hf hi]

theorem Ring.drop {ss : List Int} {f r : Nat} (h : Ring ss f (r + 1)) : Ring ss (idx ss.length f 1) r := by
  have h1 := h.rn
  have hf := h.fn.2 (by omega)
  have hl : idx ss.length f 1 < ss.length := by unfold idx; split <;> omega
  exact ⟨⟨by omega, fun _ => hl⟩, by omega, h.ln, fun i hi => by rw [rget_step hf (by omega)]; exact h.pos (i + 1) (by omega)⟩

/-- Whether prune drops the oldest of r runs. -/
def dropNow (ss : List Int) (t mn mx : Int) (f r : Nat) : Bool := decide ((1 ≤ r ∧ 0 ≤ mx ∧ mx < t - rget ss f 0) ∨ (2 ≤ r ∧ mn ≤ t - rget ss f 1))

/-- What prune leaves: the oldest's place, and how many runs. -/
def pruned (ss : List Int) (t mn mx : Int) : Nat → Nat → Nat × Nat
  | 0, f => (f, 0)
  | r + 1, f => if dropNow ss t mn mx f (r + 1) = true then pruned ss t mn mx r (idx ss.length f 1) else (f, r + 1)

theorem Ctr.cell {w : World} {b : Nat} {sv : Value} {ss : List Int} {f r i : Nat} (h : Ctr w b sv ss f r) (hi : i < ss.length) :
    ∃ g, sv = .slice (some ⟨g, 0, none⟩) ss.length ss.length ∧ w.cell? ⟨g, i, none⟩ = some (.int .i64 (ss.getD i 0)) ∧ g ≠ b := by
  rcases h.row with ⟨rfl, rfl⟩ | ⟨g, rfl, hg, hb⟩
  · simp at hi
  · exact ⟨g, rfl, by rw [hb.cell]; simp [hi, List.getD], hg⟩

theorem Ctr.frame {w w' : World} {b f' r' : Nat} {sv : Value} {ss : List Int} {f r : Nat} (h : Ctr w b sv ss f r) (hk : Kp [some b] w w') (hb : Blk w' b #[sv, .int .i64 f', .int .i64 r'] 62) : Ctr w' b sv ss f' r' := by
  refine ⟨hb, ?_⟩
  rcases h.row with h1 | ⟨g, hv, hg, hx⟩
  · exact .inl h1
  · exact .inr ⟨g, hv, hg, hk.blk hx (by simpa using hg)⟩

theorem Ctr.kept {w w' : World} {b : Nat} {sv : Value} {ss : List Int} {f r : Nat} (h : Ctr w b sv ss f r) {bs : List (Option Nat)} (hk : Kp bs w w') (h1 : some b ∉ bs) (h2 : ∀ g, sv.ownBlock = some g → some g ∉ bs) : Ctr w' b sv ss f r := by
  refine ⟨hk.blk h.blk h1, ?_⟩
  rcases h.row with h0 | ⟨g, hv, hg, hx⟩
  · exact .inl h0
  · exact .inr ⟨g, hv, hg, hk.blk hx (h2 g (by rw [hv]; rfl))⟩

theorem Ctr.drewN {w : World} {b : Nat} {sv : Value} {ss : List Int} {f r : Nat} (h : Ctr w b sv ss f r) (q : Nat) : Ctr (w.drewN q) b sv ss f r := ⟨h.blk, h.row⟩

/-- The run i's characters, in whatever world behind draws. -/
theorem matched_r {w : World} {b : Nat} {sv : Value} {ss : List Int} {f r : Nat} (h : Ctr w b sv ss f r) (hr : Ring ss f r) (i : Nat) (hi : i < r) (t : Int) (t0 : 0 ≤ t) (t1 : t ≤ 9223372036854775807) (q : Nat) :
    Calls Try.prog 34 #[.pointer (some ⟨b, 0, none⟩), .int .i64 i, .int .i64 t] (w.drewN q) fun e w' => e = .returned (.int .i64 (t - rget ss f i)) ∧ ∃ q', w' = w.drewN q' := by
  have h1 := hr.rn
  have h2 := hr.fn.2 (by omega)
  have h3 := hr.ln
  have h4 := hr.pos i hi
  have hl := idx_lt h2 (show i < ss.length by omega)
  obtain ⟨g, rfl, hc, _⟩ := h.cell hl
  refine (matched_c b g ss.length f i ss.length _ _ t _ (w.drewN q) h.blk (by omega) (by omega) (by omega) rfl hl hc h4.1 h4.2 t0 t1).mono ?_
  rintro e w' ⟨rfl, q', rfl⟩
  exact ⟨rfl, q + q', by simp⟩

set_option maxRecDepth 100000 in
set_option maxHeartbeats 2000000 in
theorem prune_c (b f0 r0 : Nat) (sv : Value) (ss : List Int) (mn mx t : Int) (w : World) (hc : Ctr w b sv ss f0 r0) (hr : Ring ss f0 r0) (t0 : 0 ≤ t) (t1 : t ≤ 9223372036854775807) :
    Calls Try.prog 36 #[.pointer (some ⟨b, 0, none⟩), .agg #[.int .i64 mn, .int .i64 mx], .int .i64 t] w fun e w' => e = .returned (.tuple #[]) ∧
      Ctr w' b sv ss (pruned ss t mn mx r0 f0).1 (pruned ss t mn mx r0 f0).2 ∧ Kp [some b] w w' := by
  have lb := hc.blk.lt
  have HC := hide hc
  have HR := hide hr
  clear hc hr
  go_enter Try.func36, Try.ntmps36
  go_wp2_with fail
  go_loopg [] r0 (fun r wr => ∃ f, Ctr wr b sv ss f r ∧ Ring ss f r ∧ pruned ss t mn mx r f = pruned ss t mn mx r0 f0 ∧ Kp [some b] w wr ∧ Blk wr w.heap.size #[.int .i64 mn, .int .i64 mx] 65)
  case atStart =>
    exact ⟨f0, HC.out.kept ((Kp.refl [] _).alloc _) (by simp) (by simp), HR.out, rfl, (Kp.refl _ _).alloc _, Blk.new _ _ _⟩
  case round =>
    obtain ⟨f, hC, hR, hp, hK, hB⟩ := hrel
    have c2 := hC.blk.cell 2
    have d0 := hB.cell 0
    have d1 := hB.cell 1
    simp at c2 d0 d1
    have HC' := hide hC
    have HR' := hide hR
    have HP := hide hp
    have HK := hide hK
    have HB := hide hB
    clear hC hR hp hK hB HC HR
    cases gk with
    | zero =>
      go_wp2_with fail
      go_quiet (fail)
      go_wp2_with fail
      go_end0
      exact ⟨rfl, by rw [← HP.out]; exact HC'.out.drewN _, HK.out.dN _⟩
    | succ r =>
      obtain ⟨a, rfl⟩ := HC'.out.slice
      have hfn := HR'.out.fn
      have hrn := HR'.out.rn
      have hln := HR'.out.ln
      have H0 : Hid (∀ q, Calls Try.prog 34 #[.pointer (some ⟨b, 0, none⟩), .int .i64 0, .int .i64 t] (wr.drewN q) fun e w' => e = .returned (.int .i64 (t - rget ss f 0)) ∧ ∃ q', w' = wr.drewN q') :=
        fun q => matched_r HC'.out HR'.out 0 (by omega) t t0 t1 q
      have hpos := HR'.out.pos 0 (by omega)
      generalize e0 : rget ss f 0 = s0 at *
      have E0 := hide e0
      clear e0
      cases r with
      | zero =>
        by_cases hx : 0 ≤ mx
        · by_cases hm : mx < t - s0
          · have hpr : pruned ss t mn mx 1 f = pruned ss t mn mx 0 (idx ss.length f 1) := by
              simp only [pruned, dropNow, E0.out]
              rw [if_pos (by simp; omega)]
            have HPR := hide hpr
            clear hpr
            go_wp2_with fail
            go_quiet ((go_at_call 34; exact unhide H0 _))
            go_wp2_with fail
            refine (drop_c b ss.length f (1) ss.length a _ (by exact HC'.out.blk) hfn.1 (by omega) (by omega) (by omega) (by omega)).mono ?_
            rintro e w2 ⟨rfl, hb2, hk2⟩
            have HC2 := hide ((HC'.out.drewN nq).frame hk2 hb2)
            have HK2 := hide ((HK.out.dN nq).trans hk2 (by simp))
            have HB2 := hide (hk2.blk (HB.out.dN nq) (by simp; omega))
            clear hb2 hk2
            go_wp2_with fail
            go_roundg 0
            case measure => omega
            case rel => exact ⟨_, HC2.out, HR'.out.drop, by rw [← HP.out, HPR.out], HK2.out, HB2.out⟩
          · have hpr : pruned ss t mn mx 1 f = (f, 1) := by
              simp only [pruned, dropNow, E0.out]
              rw [if_neg (by simp; omega)]
            have HPR := hide hpr
            clear hpr
            have hd : decide (mx < t - s0) = false := decide_eq_false hm
            go_wp2_with fail
            go_quiet ((go_at_call 34; exact unhide H0 _))
            go_wp2_with fail
            go_end0
            exact ⟨rfl, by rw [← HP.out, HPR.out]; exact HC'.out.drewN _, HK.out.dN _⟩
        · have hpr : pruned ss t mn mx 1 f = (f, 1) := by
            simp only [pruned, dropNow, E0.out]
            rw [if_neg (by simp; omega)]
          have HPR := hide hpr
          clear hpr
          have hd : decide (0 ≤ mx) = false := decide_eq_false hx
          go_wp2_with fail
          go_quiet (fail)
          go_wp2_with fail
          go_end0
          exact ⟨rfl, by rw [← HP.out, HPR.out]; exact HC'.out.drewN _, HK.out.dN _⟩
      | succ r =>
        have H1 : Hid (∀ q, Calls Try.prog 34 #[.pointer (some ⟨b, 0, none⟩), .int .i64 1, .int .i64 t] (wr.drewN q) fun e w' => e = .returned (.int .i64 (t - rget ss f 1)) ∧ ∃ q', w' = wr.drewN q') :=
          fun q => matched_r HC'.out HR'.out 1 (by omega) t t0 t1 q
        have hpos1 := HR'.out.pos 1 (by omega)
        generalize e1 : rget ss f 1 = s1 at *
        have E1 := hide e1
        clear e1
        have hr1 : (1 : Int) < (r : Int) + 1 + 1 := by omega
        have hr0 : (0 : Int) < (r : Int) + 1 + 1 := by omega
        by_cases hx : 0 ≤ mx
        · by_cases hm : mx < t - s0
          · have hpr : pruned ss t mn mx (r + 1 + 1) f = pruned ss t mn mx (r + 1) (idx ss.length f 1) := by
              rw [pruned]
              rw [if_pos (by simp only [dropNow, E0.out, E1.out]; simp; omega)]
            have HPR := hide hpr
            clear hpr
            go_wp2_with fail
            go_quiet ((go_at_call 34; exact unhide H0 _))
            go_wp2_with fail
            refine (drop_c b ss.length f (r + 1 + 1) ss.length a _ (by exact HC'.out.blk) hfn.1 (by omega) (by omega) (by omega) (by omega)).mono ?_
            rintro e w2 ⟨rfl, hb2, hk2⟩
            have HC2 := hide ((HC'.out.drewN nq).frame hk2 hb2)
            have HK2 := hide ((HK.out.dN nq).trans hk2 (by simp))
            have HB2 := hide (hk2.blk (HB.out.dN nq) (by simp; omega))
            clear hb2 hk2
            go_wp2_with fail
            go_roundg (r + 1)
            case measure => omega
            case rel => exact ⟨_, HC2.out, HR'.out.drop, by rw [← HP.out, HPR.out], HK2.out, HB2.out⟩
          · have hd : decide (mx < t - s0) = false := decide_eq_false hm
            by_cases hn : mn ≤ t - s1
            · have hpr : pruned ss t mn mx (r + 1 + 1) f = pruned ss t mn mx (r + 1) (idx ss.length f 1) := by
                rw [pruned]
                rw [if_pos (by simp only [dropNow, E0.out, E1.out]; simp; omega)]
              have HPR := hide hpr
              clear hpr
              go_wp2_with fail
              go_quiet ((first | (go_at_call_of 34 (Value.int IntKind.i64 0); exact unhide H0 _) | (go_at_call_of 34 (Value.int IntKind.i64 1); exact unhide H1 _)))
              go_wp2_with fail
              refine (drop_c b ss.length f (r + 1 + 1) ss.length a _ (by exact HC'.out.blk) hfn.1 (by omega) (by omega) (by omega) (by omega)).mono ?_
              rintro e w2 ⟨rfl, hb2, hk2⟩
              have HC2 := hide ((HC'.out.drewN nq).frame hk2 hb2)
              have HK2 := hide ((HK.out.dN nq).trans hk2 (by simp))
              have HB2 := hide (hk2.blk (HB.out.dN nq) (by simp; omega))
              clear hb2 hk2
              go_wp2_with fail
              go_roundg (r + 1)
              case measure => omega
              case rel => exact ⟨_, HC2.out, HR'.out.drop, by rw [← HP.out, HPR.out], HK2.out, HB2.out⟩
            · have hpr : pruned ss t mn mx (r + 1 + 1) f = (f, r + 1 + 1) := by
                rw [pruned]
                rw [if_neg (by simp only [dropNow, E0.out, E1.out]; simp; omega)]
              have HPR := hide hpr
              clear hpr
              have hd2 : decide (mn ≤ t - s1) = false := decide_eq_false hn
              go_wp2_with fail
              go_quiet ((first | (go_at_call_of 34 (Value.int IntKind.i64 0); exact unhide H0 _) | (go_at_call_of 34 (Value.int IntKind.i64 1); exact unhide H1 _)))
              go_wp2_with fail
              go_end0
              exact ⟨rfl, by rw [← HP.out, HPR.out]; exact HC'.out.drewN _, HK.out.dN _⟩
        · have hd : decide (0 ≤ mx) = false := decide_eq_false hx
          by_cases hn : mn ≤ t - s1
          · have hpr : pruned ss t mn mx (r + 1 + 1) f = pruned ss t mn mx (r + 1) (idx ss.length f 1) := by
              rw [pruned]
              rw [if_pos (by simp only [dropNow, E0.out, E1.out]; simp; omega)]
            have HPR := hide hpr
            clear hpr
            go_wp2_with fail
            go_quiet ((go_at_call 34; exact unhide H1 _))
            go_wp2_with fail
            refine (drop_c b ss.length f (r + 1 + 1) ss.length a _ (by exact HC'.out.blk) hfn.1 (by omega) (by omega) (by omega) (by omega)).mono ?_
            rintro e w2 ⟨rfl, hb2, hk2⟩
            have HC2 := hide ((HC'.out.drewN nq).frame hk2 hb2)
            have HK2 := hide ((HK.out.dN nq).trans hk2 (by simp))
            have HB2 := hide (hk2.blk (HB.out.dN nq) (by simp; omega))
            clear hb2 hk2
            go_wp2_with fail
            go_roundg (r + 1)
            case measure => omega
            case rel => exact ⟨_, HC2.out, HR'.out.drop, by rw [← HP.out, HPR.out], HK2.out, HB2.out⟩
          · have hpr : pruned ss t mn mx (r + 1 + 1) f = (f, r + 1 + 1) := by
              rw [pruned]
              rw [if_neg (by simp only [dropNow, E0.out, E1.out]; simp; omega)]
            have HPR := hide hpr
            clear hpr
            have hd2 : decide (mn ≤ t - s1) = false := decide_eq_false hn
            go_wp2_with fail
            go_quiet ((go_at_call 34; exact unhide H1 _))
            go_wp2_with fail
            go_end0
            exact ⟨rfl, by rw [← HP.out, HPR.out]; exact HC'.out.drewN _, HK.out.dN _⟩
end Go.Proofs.Qxb6600955a
