import Derived.Test.Qxb6600955aIdem
namespace Go.Proofs.Qxb6600955a
open Go.RowKit

set_option maxRecDepth 100000 in
set_option maxHeartbeats 4000000 in
theorem idem_c (a : Option Addr) (n c : Nat) (ss : List Int) (f r mn mx t : Int) (w : World) (h : RowAt w a n ss) (h0 : a = none → n = 0 ∧ c = 0) (t1 : t ≤ 9223372036854775807) :
    Calls Try.prog 6 #[.slice a n c, .int .i64 f, .int .i64 r, .int .i64 mn, .int .i64 mx, .int .i64 t] w fun e w' => e = .returned (.bool true) ∧ Below w.heap.size w w' := by
  have HR := hide h
  have HZ := hide h0
  clear h h0
  by_cases hn : n ≤ 65536
  · go_enter Try.func6, Try.ntmps6
    go_wp2_with fail
    refine (bytes23_yes _ _ _ _ _ _ _ _ _ (by omega)).mono ?_
    rintro e w1 ⟨rfl, rfl⟩
    go_wp2_with fail
    refine (ringValid_c _ _ _ _ _ _).mono ?_
    rintro e w1 ⟨v, rfl, hv, rfl⟩
    cases v with
    | false =>
      go_wp2_with fail
      go_ret
      exact ⟨by simp, Below.refl _ _⟩
    | true =>
      obtain ⟨fN, rN, rfl, rfl, hf1, hf2, hr1⟩ := valid_nat (hv rfl)
      clear hv
      by_cases ht : 0 ≤ t
      · go_wp2_with fail
        refine (ringWithin_any _ _ _ _ _ ss _ _ _ (unhide HR) hf2 hr1 (by omega)).mono ?_
        rintro e w1 ⟨v, rfl, hv, rfl⟩
        cases v with
        | false =>
          go_wp2_with fail
          go_ret
          exact ⟨by simp, Below.refl _ _⟩
        | true =>
          have hin := hv rfl
          have hl := HR.out.hlen
          have hRing : Ring ss fN rN := ⟨⟨by omega, by omega⟩, by omega, by omega, hin⟩
          have HG := hide hRing
          have hss : ss.length ≤ 65536 := by omega
          clear hv hin hl hRing
          go_wp2_with fail
          refine (cloneInts_any _ _ _ ss _ (unhide HR) (unhide HZ) (by omega)).mono ?_
          rintro e w1 ⟨v, rfl, a1, rfl, ha1, hk1⟩
          go_wp2_with fail
          refine (makeCounter_c _ _ _ _ _ _).mono ?_
          rintro e w2 ⟨rfl, rfl⟩
          have hC := Cloned.ctr ha1 fN rN
          go_wp2_with fail
          refine (counterStart_any w1.heap.size fN rN _ ss mn mx t _ hC (unhide HG) (by omega) ht t1).mono ?_
          rintro e w3 ⟨⟨v, rfl⟩, sv2, ss2, f2, r2, hC3, hR3, he3, hk3⟩
          have hb : Kp [] w w3 := (hk1.alloc _).trans hk3 (fun i hi hm => by
            have h1 := hk1.size
            simp only [List.mem_cons, Option.some.injEq, List.not_mem_nil, or_false] at hm
            rcases hm with hm | hm
            · omega
            · rcases ha1 with ⟨rfl, _⟩ | ⟨g, rfl, hg, _⟩
              · simp [Value.ownBlock] at hm
              · simp only [Value.ownBlock, Option.some.injEq] at hm
                omega)
          have HB := hide hb
          clear hb hC hk1 hk3 ha1
          obtain ⟨a2, rfl⟩ := hC3.slice
          have hrn := hR3.rn
          have hln := hR3.ln
          have hfn := hR3.fn.2 (by omega)
          have HC3 := hide hC3
          have HR3 := hide hR3
          have HE3 := hide he3
          clear hC3 hR3 he3
          go_wp2_with fail
          refine (counterState_c _ _ _ _ ss2 _ HC3.out).mono ?_
          rintro e w4 ⟨rfl, q, rfl⟩
          have HC4 := hide (HC3.out.drewN q)
          have HB4 := hide (HB.out.dN q)
          clear HC3 HB
          generalize w3.drewN q = w4 at *
          obtain ⟨g2, ea, hcell, hg2b⟩ := HC4.out.cell (idx_lt hfn (show r2 < ss2.length by omega))
          simp only [Value.slice.injEq, and_true] at ea
          subst ea
          have hG4 : Blk w4 g2 (ss2.map (Value.int .i64)).toArray 3 := by
            rcases HC4.out.row with ⟨e, _⟩ | ⟨g, e, _, hb⟩
            · simp at e
            · simp only [Value.slice.injEq, Option.some.injEq, Addr.mk.injEq, and_true] at e
              rw [e]; exact hb
          have HG4 := hide hG4
          have hmod : ((f2 : Int) + (r2 : Int)) % (ss2.length : Int) = ((idx ss2.length f2 r2 : Nat) : Int) := by rw [← idx_mod hfn (by omega)]; simp
          have hjl := idx_lt hfn (show r2 < ss2.length by omega)
          have he : ss2.getD (idx ss2.length f2 r2) 0 = t := HE3.out
          rw [he] at hcell
          clear he hG4
          generalize idx ss2.length f2 r2 = j at *
          have hbm : ((f2 : Int) + ((r2 : Int) + 1) - 1) % (ss2.length : Int) = (j : Int) := by rw [← hmod]; congr 1; omega
          go_wp2_with fail
          refine (cloneInts_c g2 0 ss2.length ss2 _ (fun i hi => by rw [Nat.zero_add, HG4.out.cell]; simp [hi, List.getD]) (by omega) HG4.out.lt).mono ?_
          rintro e w5 ⟨rfl, hS5, hk5⟩
          have HC5 := hide (HC4.out.kept hk5 (by simp) (by simp))
          have HG5 := hide (hk5.blk HG4.out (by simp))
          have HS5 := hide hS5
          have HB5 := hide (HB4.out.trans hk5 (by simp))
          clear hS5 hk5 hcell hmod hbm HC4 HG4 HB4
          go_wp2_with fail
          refine (counterStart_no w1.heap.size f2 r2 _ ss2 mn mx t _ HC5.out HR3.out ht t1 HE3.out).mono ?_
          rintro e w6 ⟨rfl, hk6⟩
          have HC6 := hide (HC5.out.kept hk6 (by simp) (by simp))
          have HG6 := hide (hk6.blk HG5.out (by simp))
          have HS6 := hide (hk6.blk HS5.out (by simp))
          have HB6 := hide (HB5.out.trans hk6 (by simp))
          clear hk6 HC5 HG5 HS5 HB5
          go_wp2_with fail
          refine (counterState_c _ _ _ _ ss2 _ HC6.out).mono ?_
          rintro e w7 ⟨rfl, q6, rfl⟩
          go_wp2_with fail
          go_loopg [22] ss2.length (fun g iv wr => ∃ i : Nat, i + g = ss2.length ∧ iv = .int .i64 i ∧ ∃ q, wr = w6.drewN q)
          case atStart => exact ⟨0, by omega, rfl, q6, rfl⟩
          case round =>
            obtain ⟨i, hig, rfl, q7, rfl⟩ := hrel
            by_cases hlt : i < ss2.length
            · have e1 := HG6.out.cell i
              have e2 := HS6.out.cell i
              have e3 : (ss2.map (Value.int .i64)).toArray[i]? = some (.int .i64 (ss2.getD i 0)) := by simp [hlt, List.getD]
              rw [e3] at e1 e2
              clear e3
              generalize ss2.getD i 0 = s at *
              have i0 : (0 : Int) ≤ (i : Int) := by omega
              have i1 : (i : Int) < (ss2.length : Int) := by omega
              go_wp2_with fail
              go_quiet (fail)
              go_wp2_with fail
              go_roundg (gk - 1)
              case measure => omega
              case rel => exact ⟨i + 1, by omega, by go_num, _, rfl⟩
            · go_wp2_with fail
              go_ret
              exact ⟨by simp, (HB6.out.dN _).below _ (Nat.le_refl _) (by simp)⟩
      · go_wp2_with fail
        go_ret
        exact ⟨by simp, Below.refl _ _⟩
  · by_cases hn2 : n ≤ 1048576
    · go_enter Try.func6, Try.ntmps6
      go_wp2_with fail
      refine (bytes23_yes _ _ _ _ _ _ _ _ _ hn2).mono ?_
      rintro e w1 ⟨rfl, rfl⟩
      go_wp2_with fail
      go_ret
      exact ⟨by simp, Below.refl _ _⟩
    · go_enter Try.func6, Try.ntmps6
      go_wp2_with fail
      refine (bytes23_no _ _ _ _ _ _ _ _ _ hn2).mono ?_
      rintro e w1 ⟨rfl, rfl⟩
      go_wp2_with fail
      go_ret
      exact ⟨by simp, Below.refl _ _⟩
end Go.Proofs.Qxb6600955a
