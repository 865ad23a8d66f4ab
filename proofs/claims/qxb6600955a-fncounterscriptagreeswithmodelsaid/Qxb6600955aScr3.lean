import Derived.Test.Qxb6600955aScr2
namespace Go.Proofs.Qxb6600955a
open Go.RowKit

theorem i64_and3 (n : Int) : bits .and .i64 n 3 = n % 4 := by
  have h3 : (BitVec.ofInt 64 3).toNat = 2 ^ 2 - 1 := by decide
  have key : (BitVec.ofInt 64 n &&& BitVec.ofInt 64 3).toNat = (n % ((2 ^ 64 : Nat) : Int)).toNat % 2 ^ 2 := by
    rw [BitVec.toNat_and, BitVec.toNat_ofInt, h3, Nat.and_two_pow_sub_one_eq_mod]
  show IntKind.i64.wrap ((BitVec.ofInt 64 n &&& BitVec.ofInt 64 3).toNat : Nat) = n % 4
  rw [key, IntKind.wrap_i64]
  omega

/-- A row of bytes that came in: its elements. -/
structure BRow (w : World) (a : Option Addr) (len : Nat) (zs : List Int) : Prop where
  hlen : zs.length = len
  at_ : len ≠ 0 → ∃ b off, a = some ⟨b, off, none⟩ ∧ b < w.heap.size ∧ ∀ i, i < len → w.cell? ⟨b, off + i, none⟩ = some (.int .u8 (zs.getD i 0))

theorem mk0Ints {P : Program} {t e : TypeId} {z : Value} {size bytes : Nat} (ht : P.underlying t = some (.slice e)) (hinfo : (P.info? e).map (fun i => (i.zero, i.size, i.bytes)) = some (some z, size, bytes))
    (n : Nat) (hb : bytes * n ≤ 281474976710656) (h63 : n ≤ 9223372036854775807) (w : World) :
    (Instr.makeSlice t (.int .i64 0) (.int .i64 (n : Int))).run P w = .ok (.slice (some ⟨w.heap.size, 0, none⟩) 0 n) (w.alloc (.cells (madeCells z.cells (n * size)) e)) := by
  obtain ⟨i, hi, hzz⟩ := Option.map_eq_some_iff.1 hinfo
  simp only [Prod.mk.injEq] at hzz
  obtain ⟨hz, hs, hby⟩ := hzz
  have hb' : (i.bytes : Int) * (n : Int) ≤ 281474976710656 := by
    have h : ((i.bytes * n : Nat) : Int) ≤ 281474976710656 := by rw [hby]; omega
    rwa [Int.natCast_mul] at h
  have hr := run_make (P := P) w t e i z ht hi hz .i64 .i64 0 n (by omega) (by omega) hb' (by omega)
  simp only [Int.toNat_natCast, Int.toNat_zero, hs] at hr
  exact hr

/-- What a clone of a row of bytes is. -/
def ClonedB (w wx : World) (v : Value) (n : Nat) (zs : List Int) : Prop :=
  ∃ ac kc gs, v = .slice ac n kc ∧ (n ≠ 0 → ac = some ⟨gs, 0, none⟩ ∧ gs < wx.heap.size) ∧ (∀ i, i < n → wx.cell? ⟨gs, i, none⟩ = some (.int .u8 (zs.getD i 0))) ∧ Kp [] w wx

theorem cloneBytes_any (a : Option Addr) (n c : Nat) (zs : List Int) (w : World) (h : BRow w a n zs) (h0 : a = none → n = 0 ∧ c = 0) (hn : n ≤ 5000000) :
    Calls Try.prog 11 #[.slice a n c] w fun e w' => ∃ v, e = .returned v ∧ ClonedB w w' v n zs := by
  have hl := h.hlen
  cases a with
  | none =>
    obtain ⟨rfl, rfl⟩ := h0 rfl
    refine (cloneBytes_nil w).mono ?_
    rintro e w' ⟨rfl, rfl⟩
    exact ⟨_, rfl, none, 0, 0, rfl, fun h => absurd rfl h, fun i hi => by omega, Kp.refl _ _⟩
  | some x =>
    by_cases hz : n = 0
    · subst hz
      refine (cloneBytes_zero x c w).mono ?_
      rintro e w' ⟨rfl, hk⟩
      exact ⟨_, rfl, _, _, 0, rfl, fun h => absurd rfl h, fun i hi => by omega, hk⟩
    · obtain ⟨b, off, e, hb, hc⟩ := h.at_ hz
      simp only [Option.some.injEq] at e
      subst e
      subst hl
      refine (cloneBytes_c b off c zs w hc hn hb).mono ?_
      rintro e w' ⟨rfl, hb', hk⟩
      exact ⟨_, rfl, _, _, w.heap.size, rfl, fun _ => ⟨rfl, hb'.lt⟩, fun i hi => by rw [hb'.cell]; simp [hi, List.getD], hk⟩

theorem Scr.begin (w wx : World) (gs n : Nat) (zs : List Int) (mn mx : Int) (cc : Array Value) (hcc : cc.size = n) (hn : n ≤ maxLen) (hg : n ≠ 0 → gs < wx.heap.size) (hc : ∀ i, i < n → wx.cell? ⟨gs, i, none⟩ = some (.int .u8 (zs.getD i 0))) (hk : Kp [] w wx) :
    Scr w ((wx.alloc (.cells #[.slice none 0 0, .int .i64 0, .int .i64 0] 62)).alloc (.cells cc 3)) (wx.heap.size + 1) wx.heap.size gs n zs mn mx (((0 : Nat) : Int) - 1) (.slice none 0 0) [] 0 0 [] (-1) (.slice (some ⟨wx.heap.size + 1, 0, none⟩) 0 n) 0 := by
  have hk2 : Kp [] wx ((wx.alloc (.cells #[.slice none 0 0, .int .i64 0, .int .i64 0] 62)).alloc (.cells cc 3)) := ((Kp.refl _ _).alloc _).alloc _
  have hs := hk.size
  refine ⟨⟨(Blk.new _ _ _).alloc _, .inl ⟨rfl, rfl⟩⟩, ⟨⟨by simp, by simp⟩, by simp, by simp, fun i hi => by omega⟩, by simp, by simpa [runsOf] using Inv.zero mn mx, ?_, ?_, by simp, hk.trans hk2 (by simp), by simp, by omega, fun h => by have := hg h; omega, by omega, by simp [Value.ownBlock]⟩
  · have := World.ownsRow_made (base := wx.heap.size + 1) (e := 3) (size := 1) (wx.alloc (.cells #[.slice none 0 0, .int .i64 0, .int .i64 0] 62)) cc n (by simp) hn (by simpa using hcc)
    simpa using this
  · intro i hi
    rw [← hc i hi]
    exact World.cell?_of_block (hk2.block gs (hg (by omega)) (by simp))

theorem sorted_len (t : Int) : ∀ (S : List Int) (a : Int), S.Pairwise (· < ·) → (∀ s ∈ S, a ≤ s) → (∀ s ∈ S, s < t) → S.length ≤ (t - a).toNat
  | [], _, _, _, _ => by simp
  | x :: r, a, hp, ha, ht => by
    have h1 := sorted_len t r (x + 1) (List.pairwise_cons.1 hp).2 (fun s hs => by have := (List.pairwise_cons.1 hp).1 s hs; omega) (fun s hs => ht s (List.mem_cons_of_mem _ hs))
    have h2 := ha x (by simp)
    have h3 := ht x (by simp)
    simp only [List.length_cons]
    omega

theorem getD_last {S T : List Int} {l : Int} (h : S = T ++ [l]) : S.length = T.length + 1 ∧ S.getD T.length 0 = l := by
  subst h
  simp [List.getD]

set_option maxRecDepth 100000 in
set_option maxHeartbeats 4000000 in
theorem script_c (mn mx : Int) (a : Option Addr) (n c : Nat) (zs : List Int) (w : World) (h : BRow w a n zs) (h0 : a = none → n = 0 ∧ c = 0) (hn : n ≤ 4096) (h1 : 0 ≤ mn) (h2 : ¬ (0 ≤ mx ∧ mx < mn)) :
    Calls Try.prog 3 #[.int .i64 mn, .int .i64 mx, .slice a n c] w fun e w' => e = .returned (.bool true) ∧ Below w.heap.size w w' := by
  have HR := hide h
  have HZ := hide h0
  clear h h0
  obtain ⟨i0, hi0, hz0, hz1, hz2⟩ := info_parts Try.infoInt
  have hmk := mk0Ints (P := Try.prog) (t := 27) (e := 3) Try.underlying27 Try.infoInt n (by omega) (by omega)
  have HMX : Hid (0 ≤ mx → mn ≤ mx) := fun hx => by omega
  clear h2
  go_enter Try.func3, Try.ntmps3
  go_wp2_with fail
  refine (bytes10_yes _ _ _ _ _ _ (by omega)).mono ?_
  rintro e w1 ⟨rfl, rfl⟩
  go_upto_region 7 with fail
  go_cut [38] (fun v wx => v = .bool false ∧ w = wx)
  case first =>
    have hxm := HMX.out
    by_cases hx : 0 ≤ mx
    · have hq : decide (mx < mn) = false := decide_eq_false (by have := hxm hx; omega)
      go_wp2_with fail
      go_meet
      exact ⟨by simp, rfl⟩
    · go_wp2_with fail
      go_meet
      exact ⟨by simp, rfl⟩
  case rest =>
    obtain ⟨rfl, rfl⟩ := hcut
    clear HMX
    go_wp2_with fail
    refine (cloneBytes_any _ _ _ zs _ (unhide HR) (unhide HZ) (by omega)).mono ?_
    rintro e wx ⟨v, rfl, ac, kc, gs, rfl, hac, hcell, hkx⟩
    have HAC := hide hac
    have HCL := hide hcell
    have HKX := hide hkx
    clear hac hcell hkx HR HZ
    go_wp2_with fail
    refine (makeCounter_c none 0 0 0 0 _).mono ?_
    rintro e w2 ⟨rfl, rfl⟩
    go_wp2_with fail
    clear hmk
    go_loopg [8, 9, 10] n (fun g av lv iv wr => ∃ (i : Nat) (sv : Value) (ss : List Int) (f r : Nat) (S : List Int) (lf : Int), i + g = n ∧ iv = .int .i64 i ∧ lv = .int .i64 lf ∧
      Scr w wr (wx.heap.size + 1) wx.heap.size gs n zs mn mx ((i : Int) - 1) sv ss f r S lf av i)
    case atStart =>
      exact ⟨0, _, _, 0, 0, _, _, by omega, rfl, rfl, Scr.begin w wx gs n zs mn mx _ (by simp [madeCells]) (by unfold maxLen; omega) (fun h => (HAC.out h).2) HCL.out HKX.out⟩
    case round =>
      obtain ⟨i, sv, ss, f, r, S, lf, hig, rfl, rfl, hScr⟩ := hrel
      have HSC := hide hScr
      clear hScr
      by_cases hlt : i < n
      · obtain ⟨rfl, _⟩ := HAC.out (by omega)
        have hz := HSC.out.cells i hlt
        generalize zs.getD i 0 = z at *
        go_upto_region 18 with fail
        obtain ⟨wo, rfl⟩ : ∃ wo : World, wo = wr := ⟨_, rfl⟩
        go_cut [13] (fun v wx' => (∃ m : Bool, v = .bool m) ∧ wo = wx')
        case first =>
          go_wp2_with fail
          go_meet
          exact ⟨⟨_, rfl⟩, rfl⟩
        case rest =>
          obtain ⟨⟨m, rfl⟩, rfl⟩ := hcut
          obtain ⟨f2, r2, h2⟩ : ∃ f2 r2, pruned ss (i : Int) mn mx (skipIf ss (i : Int) m r f).2 (skipIf ss (i : Int) m r f).1 = (f2, r2) := ⟨_, _, rfl⟩
          have H2 := hide h2
          clear h2
          go_wp2_with fail
          refine (counterPass_c wx.heap.size f r sv ss mn mx i m _ HSC.out.ctr HSC.out.ring (by omega) (by omega) f2 r2 H2.out).mono ?_
          rintro e w3 ⟨rfl, hC3, hk3⟩
          obtain ⟨hE, hM, hS3⟩ := HSC.out.passed m H2.out hC3 hk3
          rw [hE, hM]
          have HS3 := hide hS3
          clear hE hM hS3 hC3 hk3 H2 hz
          generalize passRuns ss (i : Int) mx f2 r2 = r3 at *
          generalize hlf : (if m = true then lf else (i : Int)) = lf2 at *
          have HLF := hide hlf
          clear hlf HSC
          generalize hEE : endsB mn mx (i : Int) lf2 S = E at *
          have HEE := hide hEE
          clear hEE
          generalize hMM : moreB mx (i : Int) lf2 S = M at *
          have HMM := hide hMM
          clear hMM
          go_upto_if 69 with fail
          go_cut [9] (fun v wx' => v = .int .i64 lf2 ∧ w3 = wx')
          case first =>
            cases m with
            | true =>
              go_wp2_with fail
              go_meet
              exact ⟨by rw [← HLF.out]; rfl, rfl⟩
            | false =>
              go_wp2_with fail
              go_meet
              exact ⟨by rw [← HLF.out]; rfl, rfl⟩
          case rest =>
            obtain ⟨rfl, rfl⟩ := hcut
            obtain ⟨a8, c8, rfl, hrow, hb8⟩ := HS3.out.row (by omega)
            go_wp2_with fail
            refine (liveRuns_c a8 c8 S lf2 i mn mx _ hrow hb8 (by have := HS3.out.Slen; omega) (by omega) (by omega)).mono ?_
            rintro e w4 ⟨rfl, rfl⟩
            rw [HEE.out, HMM.out]
            clear hrow hb8
            go_upto_region 25 with fail
            go_cut [18] (fun v wx' => (∃ cc : Int, v = .int .i64 cc ∧ cc ≤ 9223372036854775806) ∧ w3 = wx')
            case first =>
              go_wp2_with fail
              go_meet
              exact ⟨⟨_, rfl, by rw [i64_and3]; omega⟩, rfl⟩
            case rest =>
              obtain ⟨⟨cc, rfl, hcc⟩, rfl⟩ := hcut
              clear HEE HMM HLF
              obtain ⟨go, rfl⟩ : ∃ go, go = gk := ⟨_, rfl⟩
              go_wp2_with fail
              go_loopg [8, 19] cc.toNat (fun g av jv wr => ∃ (j : Nat) (sv : Value) (ss : List Int) (f r : Nat) (S : List Int), j + g = cc.toNat ∧ jv = .int .i64 j ∧ Scr w wr (wx.heap.size + 1) wx.heap.size gs n zs mn mx (i : Int) sv ss f r S lf2 av (i + 1))
              case atStart =>
                exact ⟨0, sv, ss, f2, r3, S, by omega, rfl, { HS3.out with Slen := by have := HS3.out.Slen; omega }⟩
              case round =>
                clear HS3
                obtain ⟨j, sv, ss, f, r, S, hjg, rfl, hScr⟩ := hrel
                have HSC := hide hScr
                clear hScr
                by_cases hj : (j : Int) < cc
                · obtain ⟨a8, c8, rfl, hrow, hb8⟩ := HSC.out.row (by omega)
                  by_cases hA : ∃ r', r = r' + 1 ∧ rget ss f r' = (i : Int)
                  · obtain ⟨r', rfl, hA⟩ := hA
                    obtain ⟨T, hT⟩ := HSC.out.inv.last.1 (runsOf ss f r') (by rw [runsOf_snoc, hA])
                    obtain ⟨hq, hql⟩ := getD_last hT
                    obtain ⟨g8, off, rfl, hg8, hcl⟩ := hrow.at_ (by omega)
                    have hc8 := hcl T.length (by omega)
                    rw [hql] at hc8
                    generalize T.length = q at *
                    have hq9 : q ≤ 5000 := by have := HSC.out.Slen; omega
                    have hqz : ((q : Int) + 1 == 0) = false := beq_eq_false_iff_ne.2 (by omega)
                    have hq0 : (0 : Int) ≤ (q : Int) := by omega
                    have hq1 : (q : Int) < (q : Int) + 1 := by omega
                    have HA := hide hA
                    have HQ := hide hq
                    clear hA hT hql hcl hrow hb8 hq T
                    go_wp2_with fail
                    refine (counterStart_no wx.heap.size f r' sv ss mn mx i _ HSC.out.ctr HSC.out.ring (by omega) (by omega) HA.out).mono ?_
                    rintro e w5 ⟨rfl, hk5⟩
                    have hc5 : w5.cell? ⟨g8, off + q, none⟩ = some (.int .i64 (i : Int)) := by rw [← hc8]; exact World.cell?_of_block (hk5.block g8 hg8 (by simp))
                    have HS5 := hide (HSC.out.refused hk5)
                    clear hk5 hc8 HSC
                    go_upto_region 30 with fail
                    go_cut [21] (fun v wx' => v = .bool false ∧ w5 = wx')
                    case first =>
                      have hq := HQ.out
                      go_wp2_with fail
                      go_meet
                      exact ⟨by simp, rfl⟩
                    case rest =>
                      obtain ⟨rfl, rfl⟩ := hcut
                      go_wp2_with fail
                      go_roundg (gk - 1)
                      case measure => omega
                      case rel => exact ⟨j + 1, sv, ss, f, r' + 1, S, by omega, by go_num, HS5.out⟩
                  · have hne : ∀ s ∈ S, s < (i : Int) := HSC.out.inv.last.2 (fun M hM => by
                      cases r with
                      | zero => rw [runsOf_zero] at hM; simp at hM
                      | succ r' =>
                        rw [runsOf_snoc] at hM
                        exact hA ⟨r', rfl, (List.append_inj' hM rfl).2 |> fun e => by simpa using e⟩)
                    have hSl : S.length ≤ i := by
                      have := sorted_len (i : Int) S 0 HSC.out.inv.sorted (fun s hs => (HSC.out.inv.rng s hs).1) hne
                      omega
                    have HNE := hide hne
                    have HA : Hid (∀ i', r = i' + 1 → rget ss f i' ≠ (i : Int)) := fun i' e1 e2 => hA ⟨i', e1, e2⟩
                    have HROW := hide hrow
                    clear hA hne hrow hb8
                    go_wp2_with fail
                    refine (counterStart_yes wx.heap.size f r sv ss mn mx i _ HSC.out.ctr HSC.out.ring (by have := HSC.out.len; omega) (by omega) (by omega) HA.out).mono ?_
                    rintro e w5 ⟨rfl, sv2, ss2, f1, hL5, hC5, hk5, ho5⟩
                    have hav5 := hk5.owns HSC.out.hav (fun g hg => by
                      simp
                      refine ⟨?_, ?_⟩
                      · rintro rfl; exact HSC.out.avne hg
                      · intro e; exact (HSC.out.own g e.symm).2 hg)
                    have hs5 := hk5.size
                    have hbs := HSC.out.size
                    have HR6 := hide (fun (w6 : World) (av' : Value) => HSC.out.started (w6 := w6) (av' := av') (by omega) HNE.out (by omega) hL5 hC5 hk5 ho5)
                    have HAV := hide hav5
                    clear hL5 hC5 hk5 ho5 hav5 HA
                    go_upto_region 30 with fail
                    go_cut [21] (fun v wx' => v = .bool true ∧ w5 = wx')
                    case first =>
                      rcases List.eq_nil_or_concat S with hS | ⟨T, l, hS⟩
                      · have hq : S.length = 0 := by rw [hS]; rfl
                        go_wp2_with fail
                        go_meet
                        exact ⟨by simp, rfl⟩
                      · rw [List.concat_eq_append] at hS
                        obtain ⟨hq, hql⟩ := getD_last hS
                        have hl : l < (i : Int) := HNE.out l (by rw [hS]; simp)
                        obtain ⟨g8, off, rfl, hg8, hcl⟩ := HROW.out.at_ (by omega)
                        have hoff : off = 0 := by
                          rcases HAV.out.2 with ⟨e, _⟩ | ⟨g', c', cur, e, _⟩
                          · simp at e
                          · simp only [Value.slice.injEq, Option.some.injEq, Addr.mk.injEq] at e; exact e.1.2.1
                        subst hoff
                        have hc8 : w5.cell? ⟨g8, T.length, none⟩ = some (.int .i64 l) := by
                          have h1 := HAV.out.cellAt T.length (by omega)
                          rw [h1, ← hql]
                          simp [List.getD, hq]
                        generalize T.length = q at *
                        have hq9 : q ≤ 5000 := by omega
                        have hqz : ((q : Int) + 1 == 0) = false := beq_eq_false_iff_ne.2 (by omega)
                        have hq0 : (0 : Int) ≤ (q : Int) := by omega
                        have hq1 : (q : Int) < (q : Int) + 1 := by omega
                        have hlb : (l != (i : Int)) = true := by rw [bne_iff_ne]; omega
                        clear hS hql hcl T
                        go_wp2_with fail
                        go_meet
                        exact ⟨by simp, rfl⟩
                    case rest =>
                      obtain ⟨rfl, rfl⟩ := hcut
                      go_wp2_with (at_builtin; refine wpList_append_lies _ rfl (.tmp 119) (.tmp 121) 27 rfl (wx.heap.size + 1) 3 i0 (.int .i64 0) 1 8 Try.underlying27 hi0 hz0 hz1 hz2 rfl (by decide) _ S.length (S.map (Value.int .i64)) rfl (HAV.out.alloc _) ⟨w5.heap.size, 0, none⟩ 1 1 [.int .i64 i] rfl rfl (World.news_of_block (cs := #[.int .i64 i]) (t := 3) (fr := (0, 0)) (heap_alloc_new w5 _)) (by simp [Value.oneCell']) (by decide) (by unfold maxLen; omega) (by omega) (by simp; omega) (w5.heap.size + 1) (by simp) ?_)
                      intro g cp w6 hown6 hgrow hat hltg
                      have hk6 : Kp [(Value.slice a8 S.length c8).ownBlock] w5 w6 := ((Kp.refl _ _).alloc _).grown hgrow (fun k _ e => by simp [e])
                      have hn6 : ∀ i, (Value.slice (some ⟨g, 0, none⟩) (S.length + 1) cp).ownBlock = some i → (Value.slice a8 S.length c8).ownBlock = some i ∨ w5.heap.size ≤ i := fun i hi => by
                        simp only [Value.ownBlock, Option.some.injEq] at hi
                        subst hi
                        rcases hat with h | h
                        · exact .inl h
                        · exact .inr (by omega)
                      have HS6 := hide (HR6.out w6 _ hown6 hk6 hn6)
                      clear hown6 hgrow hat hltg hk6 hn6 HAV HR6 HSC HROW
                      go_wp2_with fail
                      go_roundg (gk - 1)
                      case measure => omega
                      case rel => exact ⟨j + 1, sv2, ss2, _, _, S ++ [(i : Int)], by omega, by go_num, { HS6.out with Slen := by simp; omega }⟩
                · go_wp2_with fail
                  go_roundg (go - 1)
                  case measure => omega
                  case rel => exact ⟨i + 1, sv, ss, f, r, S, lf2, by omega, by go_num, rfl, by simpa using HSC.out⟩
      · go_wp2_with fail
        go_ret
        exact ⟨rfl, HSC.out.keep.below _ (Nat.le_refl _) (by simp)⟩
end Go.Proofs.Qxb6600955a
