import Derived.Test.Qxb6600965aFrac
namespace Go.Proofs.Qxb6600965a
open Go.RowKit

set_option maxRecDepth 100000 in
set_option maxHeartbeats 1600000 in
theorem pad9_c (n : Nat) (w : World) (h1 : n < 1000000000) :
    Calls Try.prog 14 #[.int .i64 n] w fun e w' => ∃ d : ByteArray, e = .returned (.string d) ∧ d.size = 9 ∧ (∀ c ∈ d.data.toList, isD c = true) ∧ hv d.data.toList = n ∧ Grown w w' := by
  go_enter Try.func14, Try.ntmps14
  go_wp2
  go_loopg [0, 4] 9 (fun g nv iv wr => ∃ (m k : Nat) (cs : Array Value) (l : List UInt8), k + g = 9 ∧ nv = .int .i64 m ∧ iv = .int .i64 (8 - (k : Int)) ∧ m ≤ n ∧
      Hid (Blk wr w.heap.size cs 35) ∧ Hid (Has cs (9 - k) l) ∧ cs.size = 9 ∧ l.length = k ∧ Hid (∀ c ∈ l, isD c = true) ∧ Hid (m * 10 ^ k + hv l = n) ∧ Hid (m < 10 ^ (9 - k)) ∧ Grown w wr)
  case atStart =>
    refine ⟨n, 0, _, [], rfl, rfl, rfl, Nat.le_refl _, hide (Blk.new _ _ _), hide (fun i h => absurd h (Nat.not_lt_zero _)), rfl, rfl, hide (fun c h => by cases h), hide (by simp [hv]), hide ?_, (Grown.refl w).alloc _ _⟩
    exact Nat.lt_of_lt_of_le h1 (by decide)
  case round =>
    obtain ⟨m, k, cs, l, hk, rfl, rfl, hm, HB, HH, hcs, hl, HD, HV, HP, HG⟩ := hrel
    by_cases h2 : k = 9
    · subst h2
      have hm0 : m = 0 := by have := HP.out; simp at this; exact this
      have hc := conv_has wr w.heap.size 0 9 9 cs 35 l HB.out HH.out hl
      have hsl := slice35 wr w.heap.size
      go_wp2
      go_ret
      refine ⟨⟨l.toArray⟩, rfl, by simpa [ByteArray.size] using hl, HD.out, ?_, HG⟩
      have := HV.out
      rw [hm0] at this
      simpa using this
    · have hk' : k < 9 := by omega
      have f1 := HB.out.frozen (8 - k)
      have c1 : wr.cell? ⟨w.heap.size, 8 - k, none⟩ = some (cs[8 - k]'(by omega)) := by rw [HB.out.cell]; simp
      have hB := HB.out.set (8 - k) (.int .u8 (byteOf m).toNat)
      have hH : Has (cs.setIfInBounds (8 - k) (.int .u8 (byteOf m).toNat)) (8 - k) (byteOf m :: l) := Has.cons (by rw [show 8 - k + 1 = 9 - k by omega]; exact HH.out) (by omega) _
      have eb : ((byteOf m).toNat : Int) = 48 + (m : Int) % 10 := by rw [byteOf_nat]; omega
      rw [eb] at hB hH
      have HB' := hide hB
      have HH' := hide hH
      have HV' : Hid ((m / 10 : Nat) * 10 ^ (k + 1) + hv (byteOf m :: l) = n) := hide (by
        rw [hv_cons, eb, hl, ← HV.out, ← Int.add_assoc]
        congr 1
        rw [Int.pow_succ, Int.mul_comm (10 ^ k) 10, ← Int.mul_assoc, ← Int.add_mul]
        congr 1
        omega)
      have HP' : Hid (m / 10 < 10 ^ (9 - (k + 1))) := hide (by
        have := HP.out
        rw [show 9 - k = (9 - (k + 1)) + 1 by omega, Nat.pow_succ] at this
        omega)
      have HD' : Hid (∀ c ∈ byteOf m :: l, isD c = true) := hide (fun c hc => by
        rcases List.mem_cons.1 hc with rfl | hc
        · exact byteOf_isD m
        · exact HD.out c hc)
      clear hB hH eb HB HH HV HP HD
      go_wp2
      go_roundg (gk - 1)
      case measure => omega
      case rel => exact ⟨m / 10, k + 1, _, byteOf m :: l, by omega, by go_num, by go_num, by omega, HB', by rw [show 9 - (k + 1) = 8 - k by omega]; exact HH', by simpa using hcs, by simp [hl], HD', HV', HP', HG.setCell (Nat.le_refl _) _⟩

/-- readFraction, said over lists. -/
theorem frac_list (ds tl : List UInt8) (w : World) (hs : (46 :: (ds ++ tl)).length ≤ 5000000) (hd : ∀ c ∈ ds, isD c = true) (ht : ∀ h : 0 < tl.length, isD tl[0] = false) :
    Calls Try.prog 12 #[.string ⟨(46 :: (ds ++ tl)).toArray⟩] w fun e w' => e = .returned (.tuple #[.int .i64 (hv ((ds ++ List.replicate 9 48).take 9)), .string ⟨tl.toArray⟩, .bool (decide (0 < ds.length))]) ∧ ∃ q, w' = w.drewN q := by
  obtain ⟨S, hS⟩ : ∃ S, S = ByteArray.mk (46 :: (ds ++ tl)).toArray := ⟨_, rfl⟩
  have hsz : S.size = 1 + (ds.length + tl.length) := by rw [hS]; simp [ByteArray.size]; omega
  have hat : ∀ (i : Nat) (h : i < S.size), S[i] = (46 :: (ds ++ tl))[i]'(by simp; omega) := by
    subst hS
    intro i h
    show (46 :: (ds ++ tl)).toArray[i]'(by simpa [ByteArray.size] using h) = _
    simp
  have h9 : L9 S ds.length = (ds ++ List.replicate 9 48).take 9 := by
    unfold L9
    rw [hS]
    simp
  have hx : S.extract (1 + ds.length) S.size = ⟨tl.toArray⟩ := by
    rw [hsz, hS, ByteArray.extract_mk, Nat.add_comm 1 ds.length, List.drop_succ_cons, List.drop_left, List.take_of_length_le (by omega)]
  rw [← hS]
  have h := frac_yes S ds.length w (by simp at hs; omega) (by omega) (by rw [hat]; rfl) (by omega)
    (fun i hi => by rw [hat]; exact hd _ (by simp [Nat.add_comm 1 i, List.getElem_append_left hi]))
    (fun h => by
      have h1 : 0 < tl.length := by omega
      have := ht h1
      rw [hat]
      simpa [Nat.add_comm 1 ds.length] using this)
  rw [h9, hx] at h
  exact zz_frac _ _ _ _ w h

theorem pad_take (l : List UInt8) (m : Nat) (hl : l.length = 9) (hm : m ≤ 9) (hz : ∀ (i : Nat) (h : i < 9), m ≤ i → l[i] = 48) : (l.take m ++ List.replicate 9 48).take 9 = l := by
  apply List.ext_getElem
  · simp [hl]
  · intro i h1 h2
    have h3 : (l.take m).length = m := by simp; omega
    rw [List.getElem_take]
    by_cases h : i < m
    · rw [List.getElem_append_left (by omega), List.getElem_take]
    · rw [List.getElem_append_right (by omega), List.getElem_replicate, hz i (by omega) (by omega)]

theorem mk_toArray (y : ByteArray) : ByteArray.mk y.data.toList.toArray = y := by
  obtain ⟨⟨l⟩⟩ := y
  rfl

theorem rt_one (n : Nat) (d x y : ByteArray) (w : World) (h9 : d.size = 9) (hD : ∀ c ∈ d.data.toList, isD c = true) (hV : hv d.data.toList = n)
    (hx : ∀ c ∈ x.data.toList, isD c = true) (hy : ∀ h : 0 < y.size, isD y[0] = false) (sx : x.size ≤ 1048576) (sy : y.size ≤ 1048576) :
    Calls Try.prog 12 #[.string (((ByteArray.mk #[46] ++ d) ++ x) ++ y)] w fun e w' => e = .returned (.tuple #[.int .i64 n, .string y, .bool true]) ∧ ∃ q, w' = w.drewN q := by
  have l9 : d.data.toList.length = 9 := by simpa using h9
  have lx : x.data.toList.length = x.size := by simp
  have ly : y.data.toList.length = y.size := by simp
  have h := frac_list (d.data.toList ++ x.data.toList) y.data.toList w (by simp only [List.length_cons, List.length_append]; omega)
    (fun c hc => by rcases List.mem_append.1 hc with h | h; exact hD c h; exact hx c h)
    (fun h => hy (by omega))
  have e1 : ((d.data.toList ++ x.data.toList) ++ List.replicate 9 48).take 9 = d.data.toList := by
    rw [List.append_assoc, List.take_append_of_le_length (by omega), List.take_of_length_le (by omega)]
  have e2 : ((ByteArray.mk #[46] ++ d) ++ x) ++ y = ByteArray.mk (46 :: ((d.data.toList ++ x.data.toList) ++ y.data.toList)).toArray := by
    apply ByteArray.ext
    apply Array.ext'
    simp
  rw [e1, hV, mk_toArray, ← e2, decide_eq_true (by simp only [List.length_append]; omega)] at h
  exact h

theorem rt_two (n m : Nat) (d y : ByteArray) (w : World) (h9 : d.size = 9) (hD : ∀ c ∈ d.data.toList, isD c = true) (hV : hv d.data.toList = n)
    (h1 : 1 ≤ m) (h2 : m ≤ 9) (hz : ∀ (i : Nat) (h : i < d.size), m ≤ i → d[i] = 48) (hy : ∀ h : 0 < y.size, isD y[0] = false) (sy : y.size ≤ 1048576) :
    Calls Try.prog 12 #[.string ((ByteArray.mk #[46] ++ d.extract 0 m) ++ y)] w fun e w' => e = .returned (.tuple #[.int .i64 n, .string y, .bool true]) ∧ ∃ q, w' = w.drewN q := by
  have l9 : d.data.toList.length = 9 := by simpa using h9
  have ly : y.data.toList.length = y.size := by simp
  have lm : (d.data.toList.take m).length = m := by rw [List.length_take]; omega
  have h := frac_list (d.data.toList.take m) y.data.toList w (by simp only [List.length_cons, List.length_append]; omega)
    (fun c hc => hD c (List.mem_of_mem_take hc))
    (fun h => hy (by omega))
  have e1 : (d.data.toList.take m ++ List.replicate 9 48).take 9 = d.data.toList := pad_take _ m l9 h2 (fun i h hi => hz i (by omega) hi)
  have e2 : (ByteArray.mk #[46] ++ d.extract 0 m) ++ y = ByteArray.mk (46 :: (d.data.toList.take m ++ y.data.toList)).toArray := by
    apply ByteArray.ext
    apply Array.ext'
    simp [ByteArray.data_extract]
  rw [e1, hV, mk_toArray, ← e2, decide_eq_true (by omega)] at h
  exact h

theorem bytes13_t (a : Int) (x y : ByteArray) (w : World) (hx : x.size ≤ 524288) (hy : y.size ≤ 524288) :
    Calls Try.prog 13 #[.int .i64 a, .string x, .string y] w fun e w' => e = .returned (.bool true) ∧ w' = w := by
  go_enter Try.func13, Try.ntmps13
  go_wp2
  go_ret
  exact ⟨rfl, rfl⟩

set_option maxHeartbeats 1600000 in
set_option maxRecDepth 100000 in
theorem rt_good (n : Nat) (x y : ByteArray) (w : World) (hn : n < 1000000000) (hx : x.size ≤ 524288) (hy : y.size ≤ 524288)
    (hxd : ∀ (k : Nat) (h : k < x.size), isD x[k] = true) (hyd : ∀ h : 0 < y.size, isD y[0] = false) :
    Calls Try.prog 6 #[.int .i64 n, .string x, .string y] w fun e w' => e = .returned (.bool true) ∧ Grown w w' := by
  have HXK := hide hxd
  have HXD : Hid (∀ c ∈ x.data.toList, isD c = true) := hide (fun c hc => by
    obtain ⟨i, hi, rfl⟩ := List.getElem_of_mem hc
    exact hxd i (by simpa using hi))
  have HYD := hide hyd
  clear hxd hyd
  have HM1 : Hid (x.size ≤ maxLen) := hide (by unfold maxLen; omega)
  have HM2 : Hid (y.size ≤ maxLen) := hide (by unfold maxLen; omega)
  go_enter Try.func6, Try.ntmps6
  go_wp2_with fail
  refine (bytes13_t n x y w hx hy).mono ?_
  rintro e w1 ⟨rfl, hw⟩
  subst hw
  go_wp2_with fail
  go_loop [7] (fun i => ∃ j : Nat, j ≤ x.size ∧ i = .int .i64 j) (fun i => x.size - (intOf i).toNat)
  case atStart => exact ⟨0, Nat.zero_le _, rfl⟩
  case round =>
    obtain ⟨j, hj, rfl⟩ := hrel
    by_cases hlt : j < x.size
    · go_wp2_with fail
      refine (isDigit_c x[j] w1).mono ?_
      rintro e w2 ⟨rfl, hw⟩
      subst hw
      rw [HXK.out j hlt]
      go_wp2_with fail
      go_round
      case rel => exact ⟨j + 1, by omega, by go_num⟩
      case measure => simp [intOf]; omega
    · clear HXK
      obtain ⟨w, hww⟩ : ∃ w, w = w1 := ⟨_, rfl⟩
      by_cases hy0 : 0 < y.size
      · go_wp2_with fail
        refine (isDigit_c y[0] w1).mono ?_
        rintro e w2 ⟨rfl, hw⟩
        subst hw
        rw [HYD.out hy0]
        subst hww
        go_wp2_with fail
        refine (pad9_c n w (by omega)).mono ?_
        rintro e w3 ⟨d, rfl, hd9, hdD, hdV, hG3⟩
        have HF1 : Hid (∀ w, Calls Try.prog 12 #[.string (((ByteArray.mk #[46] ++ d) ++ x) ++ y)] w fun e w' => e = .returned (.tuple #[.int .i64 n, .string y, .bool true]) ∧ ∃ q, w' = w.drewN q) :=
          hide (fun w => rt_one n d x y w hd9 hdD hdV HXD.out HYD.out (by omega) (by omega))
        have HF2 : Hid (∀ (m : Nat) (w : World), 1 ≤ m → m ≤ 9 → (∀ (i : Nat) (h : i < d.size), m ≤ i → d[i] = 48) → Calls Try.prog 12 #[.string ((ByteArray.mk #[46] ++ d.extract 0 m) ++ y)] w fun e w' => e = .returned (.tuple #[.int .i64 n, .string y, .bool true]) ∧ ∃ q, w' = w.drewN q) :=
          hide (fun m w h1 h2 h3 => rt_two n m d y w hd9 hdD hdV h1 h2 h3 HYD.out (by omega))
        have HG3 := hide hG3
        clear hdD hdV hG3 HXD HYD
        go_wp2_with fail
        refine (HF1.out w3).mono ?_
        rintro e w4 ⟨rfl, q, hw⟩
        have HG4 : Hid (Grown w w4) := hide (by subst hw; exact grown_drewN HG3.out q)
        clear hw HF1 HG3
        go_wp2_with fail
        go_loop [12] (fun mv => ∃ m : Nat, 1 ≤ m ∧ m ≤ 9 ∧ mv = .int .i64 m ∧ Hid (∀ (i : Nat) (h : i < d.size), m ≤ i → d[i] = 48)) (fun mv => (intOf mv).toNat)
        case atStart => exact ⟨9, by omega, by omega, rfl, hide (fun i h h' => by omega)⟩
        case round =>
          obtain ⟨m, hm1, hm9, rfl, HZ⟩ := hrel
          by_cases h1 : 1 < m
          · have hmd : m - 1 < d.size := by omega
            by_cases h48 : (d[m - 1].toNat : Int) = 48
            · have HZ' : Hid (∀ (i : Nat) (h : i < d.size), m - 1 ≤ i → d[i] = 48) := hide (fun i h hi => by
                by_cases e : i = m - 1
                · subst e; exact UInt8.toNat_inj.1 (by simpa using (by omega : d[m - 1].toNat = 48))
                · exact HZ.out i h (by omega))
              go_wp2_with fail
              go_round
              case rel => exact ⟨m - 1, by omega, by omega, by go_num, HZ'⟩
              case measure => simp [intOf]; omega
            · have e48 : ((d[m - 1].toNat : Int) == 48) = false := beq_eq_false_iff_ne.2 h48
              go_wp2_with fail
              refine (HF2.out m w4 hm1 hm9 HZ.out).mono ?_
              rintro e w5 ⟨rfl, q2, hw⟩
              have HG5 : Hid (Grown w w5) := hide (by subst hw; exact grown_drewN HG4.out q2)
              clear hw HF2
              go_wp2_with fail
              go_ret
              exact ⟨by simp, HG5.out⟩
          · obtain rfl : m = 1 := by omega
            go_wp2_with fail
            refine (HF2.out 1 w4 hm1 hm9 HZ.out).mono ?_
            rintro e w5 ⟨rfl, q2, hw⟩
            have HG5 : Hid (Grown w w5) := hide (by subst hw; exact grown_drewN HG4.out q2)
            clear hw HF2
            go_wp2_with fail
            go_ret
            exact ⟨by simp, HG5.out⟩
      · subst hww
        go_wp2_with fail
        refine (pad9_c n w (by omega)).mono ?_
        rintro e w3 ⟨d, rfl, hd9, hdD, hdV, hG3⟩
        have HF1 : Hid (∀ w, Calls Try.prog 12 #[.string (((ByteArray.mk #[46] ++ d) ++ x) ++ y)] w fun e w' => e = .returned (.tuple #[.int .i64 n, .string y, .bool true]) ∧ ∃ q, w' = w.drewN q) :=
          hide (fun w => rt_one n d x y w hd9 hdD hdV HXD.out HYD.out (by omega) (by omega))
        have HF2 : Hid (∀ (m : Nat) (w : World), 1 ≤ m → m ≤ 9 → (∀ (i : Nat) (h : i < d.size), m ≤ i → d[i] = 48) → Calls Try.prog 12 #[.string ((ByteArray.mk #[46] ++ d.extract 0 m) ++ y)] w fun e w' => e = .returned (.tuple #[.int .i64 n, .string y, .bool true]) ∧ ∃ q, w' = w.drewN q) :=
          hide (fun m w h1 h2 h3 => rt_two n m d y w hd9 hdD hdV h1 h2 h3 HYD.out (by omega))
        have HG3 := hide hG3
        clear hdD hdV hG3 HXD HYD
        go_wp2_with fail
        refine (HF1.out w3).mono ?_
        rintro e w4 ⟨rfl, q, hw⟩
        have HG4 : Hid (Grown w w4) := hide (by subst hw; exact grown_drewN HG3.out q)
        clear hw HF1 HG3
        go_wp2_with fail
        go_loop [12] (fun mv => ∃ m : Nat, 1 ≤ m ∧ m ≤ 9 ∧ mv = .int .i64 m ∧ Hid (∀ (i : Nat) (h : i < d.size), m ≤ i → d[i] = 48)) (fun mv => (intOf mv).toNat)
        case atStart => exact ⟨9, by omega, by omega, rfl, hide (fun i h h' => by omega)⟩
        case round =>
          obtain ⟨m, hm1, hm9, rfl, HZ⟩ := hrel
          by_cases h1 : 1 < m
          · have hmd : m - 1 < d.size := by omega
            by_cases h48 : (d[m - 1].toNat : Int) = 48
            · have HZ' : Hid (∀ (i : Nat) (h : i < d.size), m - 1 ≤ i → d[i] = 48) := hide (fun i h hi => by
                by_cases e : i = m - 1
                · subst e; exact UInt8.toNat_inj.1 (by simpa using (by omega : d[m - 1].toNat = 48))
                · exact HZ.out i h (by omega))
              go_wp2_with fail
              go_round
              case rel => exact ⟨m - 1, by omega, by omega, by go_num, HZ'⟩
              case measure => simp [intOf]; omega
            · have e48 : ((d[m - 1].toNat : Int) == 48) = false := beq_eq_false_iff_ne.2 h48
              go_wp2_with fail
              refine (HF2.out m w4 hm1 hm9 HZ.out).mono ?_
              rintro e w5 ⟨rfl, q2, hw⟩
              have HG5 : Hid (Grown w w5) := hide (by subst hw; exact grown_drewN HG4.out q2)
              clear hw HF2
              go_wp2_with fail
              go_ret
              exact ⟨by simp, HG5.out⟩
          · obtain rfl : m = 1 := by omega
            go_wp2_with fail
            refine (HF2.out 1 w4 hm1 hm9 HZ.out).mono ?_
            rintro e w5 ⟨rfl, q2, hw⟩
            have HG5 : Hid (Grown w w5) := hide (by subst hw; exact grown_drewN HG4.out q2)
            clear hw HF2
            go_wp2_with fail
            go_ret
            exact ⟨by simp, HG5.out⟩

theorem bytes13_any (a : Int) (x y : ByteArray) (w : World) (hx : x.size ≤ maxLen) (hy : y.size ≤ maxLen) :
    Calls Try.prog 13 #[.int .i64 a, .string x, .string y] w fun e w' => ∃ b, e = .returned (.bool b) ∧ w' = w := by
  unfold maxLen at hx hy
  by_cases h1 : 1048576 < x.size
  · go_enter Try.func13, Try.ntmps13
    go_wp2
    go_ret
    exact ⟨_, rfl, rfl⟩
  · by_cases h2 : 1048576 < y.size
    · go_enter Try.func13, Try.ntmps13
      go_wp2
      go_ret
      exact ⟨_, rfl, rfl⟩
    · by_cases h3 : 1048576 < x.size + y.size
      · go_enter Try.func13, Try.ntmps13
        go_wp2
        go_ret
        exact ⟨_, rfl, rfl⟩
      · go_enter Try.func13, Try.ntmps13
        go_wp2
        go_ret
        exact ⟨_, rfl, rfl⟩

set_option maxHeartbeats 1600000 in
set_option maxRecDepth 100000 in
theorem rt_long (a : Int) (x y : ByteArray) (w : World) (hx : x.size ≤ maxLen) (hy : y.size ≤ maxLen) (h : 524288 < x.size ∨ 524288 < y.size) :
    Calls Try.prog 6 #[.int .i64 a, .string x, .string y] w fun e w' => e = .returned (.bool true) ∧ Grown w w' := by
  have HC := hide (bytes13_any a x y w hx hy)
  unfold maxLen at hx hy
  by_cases h1 : 524288 < x.size
  · clear h
    go_enter Try.func6, Try.ntmps6
    go_wp2_with fail
    refine HC.out.mono ?_
    rintro e w1 ⟨b, rfl, hw⟩
    subst hw
    clear HC
    cases b
    · go_wp2_with fail
      go_ret
      exact ⟨rfl, Grown.refl _⟩
    · go_wp2_with fail
      go_ret
      exact ⟨rfl, Grown.refl _⟩
  · have h2 : 524288 < y.size := by omega
    clear h
    go_enter Try.func6, Try.ntmps6
    go_wp2_with fail
    refine HC.out.mono ?_
    rintro e w1 ⟨b, rfl, hw⟩
    subst hw
    clear HC
    cases b
    · go_wp2_with fail
      go_ret
      exact ⟨rfl, Grown.refl _⟩
    · go_wp2_with fail
      go_ret
      exact ⟨rfl, Grown.refl _⟩

set_option maxHeartbeats 1600000 in
set_option maxRecDepth 100000 in
theorem rt_out (a : Int) (x y : ByteArray) (w : World) (hx : x.size ≤ 524288) (hy : y.size ≤ 524288) (h : a < 0 ∨ 999999999 < a) :
    Calls Try.prog 6 #[.int .i64 a, .string x, .string y] w fun e w' => e = .returned (.bool true) ∧ Grown w w' := by
  have HC := hide (bytes13_t a x y w hx hy)
  rcases h with h | h
  · go_enter Try.func6, Try.ntmps6
    go_wp2_with fail
    refine HC.out.mono ?_
    rintro e w1 ⟨rfl, hw⟩
    subst hw
    clear HC
    go_wp2_with fail
    go_ret
    exact ⟨rfl, Grown.refl _⟩
  · go_enter Try.func6, Try.ntmps6
    go_wp2_with fail
    refine HC.out.mono ?_
    rintro e w1 ⟨rfl, hw⟩
    subst hw
    clear HC
    have h' : ¬ a < 0 := by omega
    go_wp2_with fail
    go_ret
    exact ⟨rfl, Grown.refl _⟩

set_option maxHeartbeats 1600000 in
set_option maxRecDepth 100000 in
theorem rt_bad (n : Nat) (x y : ByteArray) (w : World) (hn : n < 1000000000) (hx : x.size ≤ 524288) (hy : y.size ≤ 524288)
    (b : Nat) (hb : b < x.size) (hbad : isD x[b] = false) (hxd : ∀ (k : Nat) (h : k < b), isD (x[k]'(by omega)) = true) :
    Calls Try.prog 6 #[.int .i64 n, .string x, .string y] w fun e w' => e = .returned (.bool true) ∧ Grown w w' := by
  have HXK := hide hxd
  have HB := hide hbad
  clear hxd hbad
  have HC := hide (bytes13_t n x y w hx hy)
  go_enter Try.func6, Try.ntmps6
  go_wp2_with fail
  refine HC.out.mono ?_
  rintro e w1 ⟨rfl, hw⟩
  subst hw
  clear HC
  go_wp2_with fail
  go_loop [7] (fun i => ∃ j : Nat, j ≤ b ∧ i = .int .i64 j) (fun i => x.size - (intOf i).toNat)
  case atStart => exact ⟨0, Nat.zero_le _, rfl⟩
  case round =>
    obtain ⟨j, hj, rfl⟩ := hrel
    have hlx : j < x.size := by omega
    by_cases hlt : j < b
    · go_wp2_with fail
      refine (isDigit_c x[j] w1).mono ?_
      rintro e w2 ⟨rfl, hw⟩
      subst hw
      rw [HXK.out j hlt]
      go_wp2_with fail
      go_round
      case rel => exact ⟨j + 1, by omega, by go_num⟩
      case measure => simp [intOf]; omega
    · obtain rfl : j = b := by omega
      go_wp2_with fail
      refine (isDigit_c x[j] w1).mono ?_
      rintro e w2 ⟨rfl, hw⟩
      subst hw
      rw [HB.out]
      go_wp2_with fail
      go_ret
      exact ⟨rfl, Grown.refl _⟩

set_option maxHeartbeats 1600000 in
set_option maxRecDepth 100000 in
theorem rt_tail (n : Nat) (x y : ByteArray) (w : World) (hn : n < 1000000000) (hx : x.size ≤ 524288) (hy : y.size ≤ 524288)
    (hxd : ∀ (k : Nat) (h : k < x.size), isD x[k] = true) (hy0 : 0 < y.size) (hyd : isD y[0] = true) :
    Calls Try.prog 6 #[.int .i64 n, .string x, .string y] w fun e w' => e = .returned (.bool true) ∧ Grown w w' := by
  have HXK := hide hxd
  have HY := hide hyd
  clear hxd hyd
  have HC := hide (bytes13_t n x y w hx hy)
  go_enter Try.func6, Try.ntmps6
  go_wp2_with fail
  refine HC.out.mono ?_
  rintro e w1 ⟨rfl, hw⟩
  subst hw
  clear HC
  go_wp2_with fail
  go_loop [7] (fun i => ∃ j : Nat, j ≤ x.size ∧ i = .int .i64 j) (fun i => x.size - (intOf i).toNat)
  case atStart => exact ⟨0, Nat.zero_le _, rfl⟩
  case round =>
    obtain ⟨j, hj, rfl⟩ := hrel
    by_cases hlt : j < x.size
    · go_wp2_with fail
      refine (isDigit_c x[j] w1).mono ?_
      rintro e w2 ⟨rfl, hw⟩
      subst hw
      rw [HXK.out j hlt]
      go_wp2_with fail
      go_round
      case rel => exact ⟨j + 1, by omega, by go_num⟩
      case measure => simp [intOf]; omega
    · go_wp2_with fail
      refine (isDigit_c y[0] w1).mono ?_
      rintro e w2 ⟨rfl, hw⟩
      subst hw
      rw [HY.out]
      go_wp2_with fail
      go_ret
      exact ⟨rfl, Grown.refl _⟩

theorem rt_any (a : Int) (x y : ByteArray) (w : World) (hx : x.size ≤ maxLen) (hy : y.size ≤ maxLen) :
    Calls Try.prog 6 #[.int .i64 a, .string x, .string y] w fun e w' => e = .returned (.bool true) ∧ Grown w w' := by
  by_cases h1 : 524288 < x.size ∨ 524288 < y.size
  · exact rt_long a x y w hx hy h1
  · by_cases h2 : a < 0 ∨ 999999999 < a
    · exact rt_out a x y w (by omega) (by omega) h2
    · obtain ⟨n, rfl⟩ := Int.eq_ofNat_of_zero_le (by omega : 0 ≤ a)
      rcases first_bad x x.size (Nat.le_refl _) with hd | ⟨b, hb, hbad, hxd⟩
      · by_cases hy0 : 0 < y.size
        · cases hyd : isD y[0] with
          | true => exact rt_tail n x y w (by omega) (by omega) (by omega) hd hy0 hyd
          | false => exact rt_good n x y w (by omega) (by omega) (by omega) hd (fun _ => hyd)
        · exact rt_good n x y w (by omega) (by omega) (by omega) hd (fun h => absurd h hy0)
      · exact rt_bad n x y w (by omega) (by omega) (by omega) b hb hbad hxd

end Go.Proofs.Qxb6600965a
