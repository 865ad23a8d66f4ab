import Derived.Test.Qxb6600955aLay2
import Derived.Deep.LoopGhost
namespace Go.Proofs.Qxb6600955a
open Go.RowKit

theorem Blk.drewN {w : World} {b : Nat} {cs : Array Value} {t : TypeId} (h : Blk w b cs t) (n : Nat) : Blk (w.drewN n) b cs t := h
theorem owns_drewN {w : World} {base : Nat} {e : TypeId} {size : Nat} {v : Value} {n : Nat} {xs : List Value} (h : w.ownsRow base e size v n xs) (q : Nat) : (w.drewN q).ownsRow base e size v n xs := h

set_option maxRecDepth 100000 in
set_option maxHeartbeats 3000000 in
theorem layout_c (parts0 : Int) (failed0 : Bool) (a : Option Addr) (len cap : Nat) (cs : List Call) (w : World) (hcs : IsCalls w a len cap cs) (hl1 : len ≤ 4096) :
    Calls Try.prog 9 #[.int .i64 parts0, .bool failed0, .slice a len cap] w fun e w' => e = .returned (.bool true) ∧ Below w.heap.size w w' := by
  have hlen : len = cs.length := by
    rcases hcs with ⟨_, h1, _, rfl⟩ | ⟨x, _, h1, rfl⟩ | ⟨b, off, _, h1, _⟩
    · simpa using h1
    · simpa using h1
    · exact h1.symm
  have HL := hide hlen
  clear hlen
  have HI := hide hcs
  clear hcs
  obtain ⟨i0, hi0, hz0, hz1, hz2⟩ := info_parts Try.info3
  have hmk := mk0_eq (P := Try.prog) (t := 27) (e := 3) Try.underlying27 Try.info3 len (by omega) (by omega)
  go_enter Try.func9, Try.ntmps9
  go_wp2_with fail
  refine (bytesLayout_yes _ _ _ _ _ _ (by omega)).mono ?_
  rintro e w1 ⟨rfl, rfl⟩
  go_upto_region 5 with fail
  go_cut [2] (fun v wx => ∃ ac kc gc, v = .slice ac len kc ∧ (cs ≠ [] → ac = some ⟨gc, 0, none⟩ ∧ gc < wx.heap.size) ∧ CallsAt wx gc 0 cs ∧ Kp [] w wx)
  case first =>
    rcases HI.out with ⟨rfl, rfl, rfl, rfl⟩ | ⟨x, rfl, rfl, rfl⟩ | ⟨b, off, rfl, h1, h2, h3⟩
    · go_wp2_with fail
      refine (clone_nil _).mono ?_
      rintro e w2 ⟨rfl, rfl⟩
      go_wp2_with fail
      go_meet
      exact ⟨none, 0, 0, rfl, by simp, by intro i hi; simp at hi, Kp.refl _ _⟩
    · go_wp2_with fail
      refine (clone_zero x cap _).mono ?_
      rintro e w2 ⟨rfl, h5⟩
      go_wp2_with fail
      go_meet
      exact ⟨_, 0, 0, rfl, by simp, by intro i hi; simp at hi, h5⟩
    · subst h1
      go_wp2_with fail
      refine (clone_c b off cap cs _ h3 (by omega) h2).mono ?_
      rintro e w2 ⟨rfl, h4, h5⟩
      have h6 := h5.size
      go_wp2_with fail
      go_meet
      refine ⟨some ⟨w.heap.size, 0, none⟩, _, w.heap.size, rfl, fun hne => ⟨rfl, ?_⟩, h4, h5⟩
      have hpos : 0 < cs.length := List.length_pos_iff.2 hne
      exact World.block_lt_of_cell? w2 _ (h4 0 hpos).1
  case rest =>
    obtain ⟨ac, kc, gc, rfl, hac, hca, hkp⟩ := hcut
    have HX := hide hac
    have HA := hide hca
    have HK := hide hkp
    clear hac hca hkp
    go_wp2_with fail
    refine (newCompiler_c _ _ _).mono ?_
    rintro e w2 ⟨rfl, rfl⟩
    go_wp2_with fail
    refine (newCompiler_c _ _ _).mono ?_
    rintro e w2 ⟨rfl, rfl⟩
    go_wp2_with fail
    clear hmk
    go_loopg [11, 12, 13] len (fun g av fv iv wr => ∃ (k : Nat) (acc : List Nat) (parts : Int) (failed : Bool) (pv rv : Value), k + g = len ∧ iv = .int .i64 k ∧ fv = .bool failed ∧
      L1 w wr (wc.heap.size + 4) wc.heap.size (wc.heap.size + 1) gc ⟨wc.heap.size + 1 + 1, 0, none⟩ ⟨wc.heap.size + 1 + 1 + 1, 0, none⟩ cs k acc parts failed pv rv av)
    case atStart =>
      exact ⟨0, [], parts0, failed0, _, _, by omega, rfl, rfl, L1.start w wc len gc cs parts0 failed0 _ _ _ (by simp [madeCells]) (by unfold maxLen; omega) HK.out HA.out (fun h => (HX.out h).2)⟩
    case round =>
      obtain ⟨k, acc, parts, failed, pv, rv, hkg, rfl, rfl, hL⟩ := hrel
      have HLL := hide hL
      clear hL
      by_cases hlt : k < len
      · have hne : cs ≠ [] := by rintro rfl; have := HL.out; simp at this; omega
        obtain ⟨rfl, hgl⟩ := HX.out hne
        obtain ⟨e0, e1, e2, e3, e4⟩ := HLL.out.hcs k (by rw [← HL.out]; exact hlt)
        simp only [Nat.zero_add] at e0 e1 e2 e3 e4
        clear hne hgl
        generalize HX0 : cs.getD k zeroCall = x at *
        have HXX := hide HX0
        clear HX0
        go_upto_if 79 with fail
        go_cut [15] (fun v wx => v = .pointer (some (if x.ot then ⟨wc.heap.size + 1 + 1 + 1, 0, none⟩ else ⟨wc.heap.size + 1 + 1, 0, none⟩)) ∧ wx = wr.alloc (.cells #[.int .i64 x.mn, .int .i64 x.mx, .int .i64 x.pt, .int .i32 x.nx, .bool x.ot] 56))
        case first =>
          obtain ⟨xa, xb, xc, xd, xe⟩ := x
          cases xe
          · go_wp2_with fail
            go_meet
            exact ⟨rfl, rfl⟩
          · go_wp2_with fail
            go_meet
            exact ⟨rfl, rfl⟩
        case rest =>
          obtain ⟨rfl, rfl⟩ := hcut
          generalize HP0 : (if x.ot then (⟨wc.heap.size + 1 + 1 + 1, 0, none⟩ : Addr) else ⟨wc.heap.size + 1 + 1, 0, none⟩) = pp
          have HPP := hide HP0
          clear HP0 e0 e1 e2 e3 e4
          have hcb := HLL.out.hc
          have htb := HLL.out.ht
          have hbs := HLL.out.size
          obtain ⟨a1, k1, rfl⟩ := owns_slice HLL.out.hp
          obtain ⟨a2, k2, rfl⟩ := owns_slice HLL.out.hr
          obtain ⟨a3, k3, rfl⟩ := owns_slice HLL.out.hav
          have hb0 : Blk (wr.alloc (.cells #[.int .i64 x.mn, .int .i64 x.mx, .int .i64 x.pt, .int .i32 x.nx, .bool x.ot] 56)) wr.heap.size #[.int .i64 x.mn, .int .i64 x.mx, .int .i64 x.pt, .int .i32 x.nx, .bool x.ot] 56 := Blk.new _ _ _
          go_wp2_with fail
          refine (state_c _ _ _ _ _ _ _ _ _ _ _ (hcb.alloc _)).mono ?_
          rintro e w2 ⟨rfl, q1, rfl⟩
          go_wp2_with fail
          cases hf : (failed || decide (100000 < partsAfter parts x.mn x.mx x.pt))
          case true =>
            as_aux_lemma =>
              refine (zzcount_no wc.heap.size parts x.mn x.mx x.pt x.nx failed _ _ _ (some pp) _ ((hcb.alloc _).drewN q1) hf).mono ?_
              rintro e w3 ⟨rfl, hb3, hk3⟩
              have ht3 := hk3.blk ((htb.alloc _).drewN q1) (by simp)
              have hx3 := hk3.blk (hb0.drewN q1) (by simp; omega)
              have y0 := hx3.cell 0
              have y1 := hx3.cell 1
              have y2 := hx3.cell 2
              have y3 := hx3.cell 3
              simp at y0 y1 y2 y3
              clear hf
              go_wp2_with fail
              refine (zzcount_no (wc.heap.size + 1) parts x.mn x.mx x.pt x.nx true _ _ _ (some pp) _ ht3 (by simp)).mono ?_
              rintro e w4 ⟨rfl, hb4, hk4⟩
              have hc4 := hk4.blk hb3 (by simp)
              have hx4 := hk4.blk hx3 (by simp; omega)
              have z3 := hx4.cell 3
              simp at z3
              clear y0 y1 y2 y3
              go_wp2_with fail
              refine (state_c _ _ _ _ _ _ _ _ _ _ _ hc4).mono ?_
              rintro e w5 ⟨rfl, q2, rfl⟩
              go_wp2_with fail
              refine (state_c _ _ _ _ _ _ _ _ _ _ _ (hb4.drewN q2)).mono ?_
              rintro e w5 ⟨rfl, q3, rfl⟩
              have hkx : Kp [some wc.heap.size, some (wc.heap.size + 1)] wr w4 :=
                ((((Kp.refl _ _).alloc _).drewN q1).trans hk3 (by intro i _; simp; intro h; exact .inl h)).trans hk4 (by intro i _; simp; intro h; exact .inr h)
              have hml := HLL.out.accLen
              have hq : ((acc.length : Int) == (acc.length : Int) + 1) = false := beq_eq_false_iff_ne.2 (by omega)
              have HR := hide (HLL.out.refuse (hc4.drewN (q2 + q3)) (hb4.drewN (q2 + q3)) (hkx.drewN (q2 + q3)))
              clear hkx hk3 hk4 hb3 hb4 hc4 hx3 hx4 ht3
              go_wp2_with fail
              go_roundg (gk - 1)
              case measure => omega
              case rel => exact ⟨k + 1, acc, _, true, _, _, by omega, by go_num, rfl, HR.out⟩
          case false =>
            as_aux_lemma =>
              have hff : failed = false := (Bool.or_eq_false_iff.1 hf).1
              subst hff
              obtain ⟨l1, l2, l3, l4, l5, l6⟩ := HLL.out.ltp
              have hml := HLL.out.accLen
              refine (zzcount_yes wc.heap.size (wc.heap.size + 4) acc.length parts x.mn x.mx x.pt x.nx _ _ _ _ _ (some pp) _ ((hcb.alloc _).drewN q1) (owns_drewN (HLL.out.hp.alloc _) q1) (owns_drewN (HLL.out.hr.alloc _) q1) (by simp; omega) (by omega) l1 l3 HLL.out.npr hf).mono ?_
              rintro e w3 ⟨rfl, pv', rv', hb3, ho3, hr3, hk3, n1, n2, n3⟩
              obtain ⟨a4, k4, rfl⟩ := owns_slice ho3
              obtain ⟨a5, k5, rfl⟩ := owns_slice hr3
              have nt1 : some (wc.heap.size + 1) ∉ [some wc.heap.size, (Value.slice a1 acc.length k1).ownBlock, (Value.slice a2 acc.length k2).ownBlock] := by
                simp; exact ⟨fun e => l2 e.symm, fun e => l4 e.symm⟩
              have nt2 : some wr.heap.size ∉ [some wc.heap.size, (Value.slice a1 acc.length k1).ownBlock, (Value.slice a2 acc.length k2).ownBlock] := by
                simp; exact ⟨by omega, fun e => by have := (HLL.out.hp.lt _ e.symm).2; omega, fun e => by have := (HLL.out.hr.lt _ e.symm).2; omega⟩
              have ht3 := hk3.blk ((htb.alloc _).drewN q1) nt1
              have hx3 := hk3.blk (hb0.drewN q1) nt2
              have y0 := hx3.cell 0
              have y1 := hx3.cell 1
              have y2 := hx3.cell 2
              have y3 := hx3.cell 3
              simp at y0 y1 y2 y3
              have HF := hide hf
              clear hf
              go_wp2_with fail
              refine (zzcount_no (wc.heap.size + 1) parts x.mn x.mx x.pt x.nx true _ _ _ (some pp) _ ht3 (by simp)).mono ?_
              rintro e w4 ⟨rfl, hb4, hk4⟩
              have hc4 := hk4.blk hb3 (by simp)
              have hx4 := hk4.blk hx3 (by simp; omega)
              have z3 := hx4.cell 3
              simp at z3
              clear y0 y1 y2 y3
              go_wp2_with fail
              refine (state_c _ _ _ _ _ _ _ _ _ _ _ hc4).mono ?_
              rintro e w5 ⟨rfl, q2, rfl⟩
              go_wp2_with fail
              refine (state_c _ _ _ _ _ _ _ _ _ _ _ (hb4.drewN q2)).mono ?_
              rintro e w5 ⟨rfl, q3, rfl⟩
              have hav4 := hk4.owns (hk3.owns (owns_drewN (HLL.out.hav.alloc _) q1) (fun i hi => by
                simp
                exact ⟨by rintro rfl; exact l5 hi, fun e => HLL.out.npa i e.symm hi, fun e => HLL.out.nra i e.symm hi⟩)) (fun i hi => by simp; rintro rfl; exact l6 hi)
              have hs3 := hk3.size
              have hs4 := hk4.size
              simp at hs3
              have hkx : Kp [some wc.heap.size, some (wc.heap.size + 1), (Value.slice a1 acc.length k1).ownBlock, (Value.slice a2 acc.length k2).ownBlock] wr w4 :=
                ((((Kp.refl _ _).alloc _).drewN q1).trans hk3 (by intro i _; simp; intro h; rcases h with h | h | h <;> simp [h])).trans hk4 (by intro i _; simp; intro h; simp [h])
              have hi : inst ⟨wc.heap.size + 1 + 1, 0, none⟩ ⟨wc.heap.size + 1 + 1 + 1, 0, none⟩ cs k acc.length = [.pointer (some pp), .int .i32 x.nx, .int .i32 0, .int .i32 acc.length, .int .u8 1] := by
                unfold inst; rw [HXX.out, HPP.out]
              have hrp : rep cs k acc.length = [.int .i64 x.mn, .int .i64 x.mx] := by unfold rep; rw [HXX.out]
              have ho4 := hk4.owns ho3 (fun i hi => by simp; rintro rfl; rcases n1 _ hi with h | h; exact l2 h; simp at h; omega)
              have hr4 := hk4.owns hr3 (fun i hi => by simp; rintro rfl; rcases n2 _ hi with h | h; exact l4 h; simp at h; omega)
              rw [← hi] at ho4
              rw [← hrp] at hr4
              have HR := hide (fun (w6 : World) (av' : Value) => HLL.out.accept (w6 := w6) (av' := av') hc4 hb4 ho4 hr4 hkx (fun i hi => by rcases n1 i hi with h | h; exact .inl h; simp at h; exact .inr (by omega)) (fun i hi => by rcases n2 i hi with h | h; exact .inl h; simp at h; exact .inr (by omega)) n3)
              clear hkx hk3 hk4 hb3 hb4 hc4 hx3 hx4 ht3 ho3 hr3 ho4 hr4 n1 n2 n3 hi hrp nt1 nt2 hcb htb
              go_wp2_with (at_builtin; refine wpList_append_lies _ rfl (.tmp 171) (.tmp 173) 27 rfl (wc.heap.size + 4) 3 i0 (.int .i64 0) 1 8 Try.underlying27 hi0 hz0 hz1 hz2 rfl (by decide) _ acc.length (acc.map fun j : Nat => Value.int .i64 (j : Int)) rfl ((owns_drewN hav4 (q2 + q3)).alloc _) ⟨w4.heap.size, 0, none⟩ 1 1 [.int .i64 k] rfl rfl (World.news_of_block (cs := #[.int .i64 k]) (t := 3) (fr := (0, 0)) (heap_alloc_new (w4.drewN (q2 + q3)) _)) (by simp [Value.oneCell']) (by decide) (by unfold maxLen; omega) (by omega) (by simp; omega) (w4.heap.size + 1) (by simp) ?_)
              intro g cp w6 hown6 hgrow hat hltg
              have hk6 : Kp [(Value.slice a3 acc.length k3).ownBlock] w4 w6 := (((Kp.refl _ _).drewN _).alloc _).grown hgrow (fun k _ e => by simp [e])
              have hn6 : ∀ i, (Value.slice (some ⟨g, 0, none⟩) (acc.length + 1) cp).ownBlock = some i → (Value.slice a3 acc.length k3).ownBlock = some i ∨ w4.heap.size ≤ i := fun i hi => by
                simp only [Value.ownBlock, Option.some.injEq] at hi
                subst hi
                rcases hat with h | h
                · exact .inl h
                · exact .inr (by omega)
              have HR6 := hide (HR.out w6 _ hown6 hk6 hn6)
              clear hown6 hgrow hat hltg hk6 hn6 hav4
              go_wp2_with fail
              go_roundg (gk - 1)
              case measure => omega
              case rel => exact ⟨k + 1, acc ++ [k], _, false, _, _, by omega, by go_num, rfl, HR6.out⟩
      · as_aux_lemma =>
          have hcb   := HLL.out.hc
          obtain ⟨a1, k1, rfl⟩ := owns_slice HLL.out.hp
          obtain ⟨a2, k2, rfl⟩ := owns_slice HLL.out.hr
          obtain ⟨a3, k3, rfl⟩ := owns_slice HLL.out.hav
          have hml := HLL.out.accLen
          go_wp2_with fail
          obtain ⟨wo, rfl⟩ : ∃ wo : World, wo = wr := ⟨_, rfl⟩
          refine (state_c _ _ _ _ _ _ _ _ _ _ _ hcb).mono ?_
          rintro e w2 ⟨rfl, q1, rfl⟩
          go_wp2_with fail
          go_loopg [34] acc.length (fun g iv wq => ∃ j : Nat, j + g = acc.length ∧ iv = .int .i64 j ∧ Kp [] wo wq)
          case atStart => exact ⟨0, by omega, rfl, (Kp.refl _ _).drewN _⟩
          case round =>
            obtain ⟨j, hjg, rfl, hkr⟩ := hrel
            by_cases hjl : j < acc.length
            · obtain ⟨g1, rfl, b1, s1⟩ := slice_form HLL.out.hp (by omega)
              obtain ⟨g2, rfl, b2, s2⟩ := slice_form HLL.out.hr (by omega)
              obtain ⟨g3, rfl, b3, s3⟩ := slice_form HLL.out.hav (by omega)
              obtain ⟨ca, hal⟩ := HLL.out.acc_cell j hjl
              have hd := HLL.out.inst_cells j hjl
              have hrd := HLL.out.rep_cells j hjl
              generalize HG0 : acc.getD j 0 = m at *
              clear HG0
              have hne : cs ≠ [] := by rintro rfl; have := HL.out; simp at this; omega
              obtain ⟨rfl, hgl⟩ := HX.out hne
              have hgs := HLL.out.hgc hne
              have hbs := HLL.out.size
              have hcw := hkr.callsAt HLL.out.hcs (by simp) (by omega)
              obtain ⟨e0, e1, e2, e3, e4⟩ := hcw m (by rw [← HL.out]; omega)
              simp only [Nat.zero_add] at e0 e1 e2 e3 e4
              have ca' : wr.cell? ⟨g3, j, none⟩ = some (.int .i64 (m : Nat)) := by rw [← ca]; exact World.cell?_of_block (hkr.block g3 s3 (by simp))
              have hm1 : (m : Int) < (len : Int) := by omega
              have hb := hkr.blk hcb (by simp)
              clear hne hgl hcw ca
              generalize HX0 : cs.getD m zeroCall = x at *
              clear HX0
              have HD := hide hd
              have HRD := hide hrd
              clear hd hrd
              go_upto_if 223 with fail
              go_cut [36] (fun v wx => v = .pointer (some (if x.ot then ⟨wc.heap.size + 1 + 1 + 1, 0, none⟩ else ⟨wc.heap.size + 1 + 1, 0, none⟩)) ∧ wx = wr.alloc (.cells #[.int .i64 x.mn, .int .i64 x.mx, .int .i64 x.pt, .int .i32 x.nx, .bool x.ot] 56))
              case first =>
                obtain ⟨xa, xb, xc, xd, xe⟩ := x
                cases xe
                · go_wp2_with fail
                  go_meet
                  exact ⟨rfl, rfl⟩
                · go_wp2_with fail
                  go_meet
                  exact ⟨rfl, rfl⟩
              case rest =>
                obtain ⟨rfl, rfl⟩ := hcut
                obtain ⟨d0, d1, d2, d3, d4⟩ := HD.out
                obtain ⟨r0, r1⟩ := HRD.out
                generalize (if x.ot then (⟨wc.heap.size + 1 + 1 + 1, 0, none⟩ : Addr) else ⟨wc.heap.size + 1 + 1, 0, none⟩) = pp at *
                have hb0 : Blk (wr.alloc (.cells #[.int .i64 x.mn, .int .i64 x.mx, .int .i64 x.pt, .int .i32 x.nx, .bool x.ot] 56)) wr.heap.size #[.int .i64 x.mn, .int .i64 x.mx, .int .i64 x.pt, .int .i32 x.nx, .bool x.ot] 56 := Blk.new _ _ _
                have hka : Kp [] wo (wr.alloc (.cells #[.int .i64 x.mn, .int .i64 x.mx, .int .i64 x.pt, .int .i32 x.nx, .bool x.ot] 56)) := hkr.alloc _
                have far1 : ∀ o, (wr.alloc (.cells #[.int .i64 x.mn, .int .i64 x.mx, .int .i64 x.pt, .int .i32 x.nx, .bool x.ot] 56)).cell? ⟨g1, o, none⟩ = wo.cell? ⟨g1, o, none⟩ := fun o => World.cell?_of_block (hka.block g1 s1 (by simp))
                clear e0 e1 e2 e3 e4 ca' HD HRD
                go_wp2_with fail
                refine (instruction_c wc.heap.size g1 acc.length k1 j (some pp) x.nx 0 j 1 _ _ _ _ _ (hka.blk hcb (by simp)) hjl ((far1 _).trans d0) ((far1 _).trans d1) ((far1 _).trans d2) ((far1 _).trans d3) ((far1 _).trans d4)).mono ?_
                rintro e w3 ⟨rfl, hk3⟩
                have hx3 := hk3.blk hb0 (by simp)
                have y0 := hx3.cell 0
                have y1 := hx3.cell 1
                have y3 := hx3.cell 3
                simp at y0 y1 y3
                have hkb : Kp [] wo w3 := hka.trans hk3 (by simp)
                have far2 : ∀ o, w3.cell? ⟨g2, o, none⟩ = wo.cell? ⟨g2, o, none⟩ := fun o => World.cell?_of_block (hkb.block g2 s2 (by simp))
                clear far1 d0 d1 d2 d3 d4 hka
                have HFAR := hide far2
                clear far2
                have hpq := neq40
                go_wp2_with fail
                clear hpq
                refine (repetition_c wc.heap.size g2 acc.length k2 j x.mn x.mx _ _ _ _ _ (hkb.blk hcb (by simp)) hjl ((HFAR.out _).trans r0) ((HFAR.out _).trans r1)).mono ?_
                rintro e w4 ⟨rfl, hk4⟩
                have hx4 := hk4.blk hx3 (by simp)
                have z0 := hx4.cell 0
                have z1 := hx4.cell 1
                simp at z0 z1
                have HK4 := hide (hkb.trans hk4 (by simp))
                clear y0 y1 y3 hk3 hk4 hkb hx3 hx4 HFAR r0 r1
                go_wp2_with fail
                go_roundg (gk - 1)
                case measure => omega
                case rel => exact ⟨j + 1, by omega, by go_num, HK4.out⟩
            · go_wp2_with fail
              go_ret
              have hw := HLL.out.keep.trans hkr (by simp)
              exact ⟨rfl, hw.below _ (Nat.le_refl _) (by simp)⟩
end Go.Proofs.Qxb6600955a
