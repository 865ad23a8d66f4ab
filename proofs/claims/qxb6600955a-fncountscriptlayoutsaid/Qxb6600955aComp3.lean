import Derived.Test.Qxb6600955aComp2
import Derived.OwnWalk
namespace Go.Proofs.Qxb6600955a
open Go.RowKit

theorem newCompiler_c (parts : Int) (failed : Bool) (w : World) :
    Calls Try.prog 24 #[.int .i64 parts, .bool failed] w fun e w' => e = .returned (.pointer (some ⟨w.heap.size, 0, none⟩)) ∧
      w' = w.alloc (.cells #[.slice none 0 0, .slice none 0 0, .int .i64 parts, .int .i64 0, .bool failed] 70) := by
  go_enter Try.func24, Try.ntmps24
  go_wp2
  go_ret
  exact ⟨rfl, rfl⟩

theorem owns_slice {w : World} {base : Nat} {e : TypeId} {size : Nat} {v : Value} {n : Nat} {xs : List Value} (h : w.ownsRow base e size v n xs) : ∃ a c, v = .slice a n c := by
  rcases h.2 with ⟨rfl, rfl⟩ | ⟨g, cap, cur, hv, _⟩
  · exact ⟨_, _, rfl⟩
  · exact ⟨_, _, hv⟩

set_option maxRecDepth 100000 in
theorem state_c (b n m : Nat) (parts : Int) (failed : Bool) (a1 a2 : Option Addr) (k1 k2 : Nat) (zz : Value) (w : World)
    (hb : Blk w b #[.slice a1 n k1, .slice a2 m k2, .int .i64 parts, zz, .bool failed] 70) :
    Calls Try.prog 26 #[.pointer (some ⟨b, 0, none⟩)] w fun e w' => e = .returned (.tuple #[.int .i64 parts, .bool failed, .int .i64 n, .int .i64 m]) ∧ ∃ q, w' = w.drewN q := by
  have c0 := hb.cell 0
  have c1 := hb.cell 1
  have c2 := hb.cell 2
  have c4 := hb.cell 4
  simp at c0 c1 c2 c4
  clear hb
  go_enter Try.func26, Try.ntmps26
  go_wp2
  go_quiet (fail)
  go_wp2
  refine bodyPost_ret (v := .tuple #[.int .i64 parts, .bool failed, .int .i64 n, .int .i64 m]) (by simp [results, Try.results26, go_sem]) rfl ⟨rfl, _, rfl⟩

theorem Kp.drewN {bs : List (Option Nat)} {a b : World} (h : Kp bs a b) (n : Nat) : Kp bs a (b.drewN n) := ⟨h.os, h.tape, h.output, h.size, h.block⟩

set_option maxRecDepth 100000 in
theorem instruction_c (b g n cap i : Nat) (cl : Option Addr) (nx al ct op : Int) (rv pp zz ff : Value) (w : World)
    (hb : Blk w b #[.slice (some ⟨g, 0, none⟩) n cap, rv, pp, zz, ff] 70) (hi : i < n)
    (d0 : w.cell? ⟨g, i * 5, none⟩ = some (.pointer cl)) (d1 : w.cell? ⟨g, i * 5 + 1, none⟩ = some (.int .i32 nx)) (d2 : w.cell? ⟨g, i * 5 + 2, none⟩ = some (.int .i32 al))
    (d3 : w.cell? ⟨g, i * 5 + 3, none⟩ = some (.int .i32 ct)) (d4 : w.cell? ⟨g, i * 5 + 4, none⟩ = some (.int .u8 op)) :
    Calls Try.prog 29 #[.pointer (some ⟨b, 0, none⟩), .int .i64 i] w fun e w' => e = .returned (.tuple #[.int .u8 op, .pointer cl, .int .i32 nx, .int .i32 al, .int .i32 ct]) ∧ Kp [] w w' := by
  have c0 := hb.cell 0
  simp at c0
  clear hb
  have hi' : (i : Int) < (n : Int) := by omega
  go_enter Try.func29, Try.ntmps29
  go_wp2
  go_quiet (fail)
  go_wp2
  refine bodyPost_ret (v := .tuple #[.int .u8 op, .pointer cl, .int .i32 nx, .int .i32 al, .int .i32 ct]) (by simp [results, Try.results29, go_sem]) rfl ⟨rfl, ?_⟩
  exact ((Kp.refl _ _).alloc _).drewN _

set_option maxRecDepth 100000 in
theorem repetition_c (b g n cap i : Nat) (lo hi : Int) (pv pp zz ff : Value) (w : World)
    (hb : Blk w b #[pv, .slice (some ⟨g, 0, none⟩) n cap, pp, zz, ff] 70) (hin : i < n)
    (d0 : w.cell? ⟨g, i * 2, none⟩ = some (.int .i64 lo)) (d1 : w.cell? ⟨g, i * 2 + 1, none⟩ = some (.int .i64 hi)) :
    Calls Try.prog 30 #[.pointer (some ⟨b, 0, none⟩), .int .i64 i] w fun e w' => e = .returned (.tuple #[.int .i64 lo, .int .i64 hi]) ∧ Kp [] w w' := by
  have c0 := hb.cell 1
  simp at c0
  clear hb
  have hi' : (i : Int) < (n : Int) := by omega
  go_enter Try.func30, Try.ntmps30
  go_wp2
  go_quiet (fail)
  go_wp2
  go_ret2
  exact ⟨rfl, ((Kp.refl _ _).alloc _).drewN _⟩

theorem bytesLayout_yes (parts : Int) (failed : Bool) (a : Option Addr) (n c : Nat) (w : World) (hn : n ≤ 1048576) :
    Calls Try.prog 27 #[.int .i64 parts, .bool failed, .slice a n c] w fun e w' => e = .returned (.bool true) ∧ w = w' := by
  have h1 : ¬ (1048576 : Int) < (n : Int) := by omega
  go_enter Try.func27, Try.ntmps27
  go_wp2
  go_ret
  exact ⟨rfl, rfl⟩

theorem bytesLayout_no (parts : Int) (failed : Bool) (a : Option Addr) (n c : Nat) (w : World) (hn : ¬ n ≤ 1048576) :
    Calls Try.prog 27 #[.int .i64 parts, .bool failed, .slice a n c] w fun e w' => e = .returned (.bool false) ∧ w = w' := by
  have h1 : (1048576 : Int) < (n : Int) := by omega
  go_enter Try.func27, Try.ntmps27
  go_wp2
  go_ret
  exact ⟨rfl, rfl⟩

theorem zzcount_no (b : Nat) (parts lo hi p nx : Int) (failed : Bool) (pv rv zz : Value) (cl : Option Addr) (w : World) (hb : Blk w b #[pv, rv, .int .i64 parts, zz, .bool failed] 70)
    (hf : (failed || decide (100000 < partsAfter parts lo hi p)) = true) :
    Calls Try.prog 25 #[.pointer (some ⟨b, 0, none⟩), .int .i64 lo, .int .i64 hi, .pointer cl, .int .i64 p, .int .i32 nx] w fun e w' => e = .returned (.int .i32 nx) ∧
      Blk w' b #[pv, rv, .int .i64 (partsAfter parts lo hi p), zz, .bool true] 70 ∧ Kp [some b] w w' := by
  have HF := hide hf
  clear hf
  go_enter Try.func25, Try.ntmps25
  go_wp2_with fail
  refine (count_no b w.heap.size parts lo hi p nx failed pv rv zz cl _ (hb.alloc _) ?_ ?_ (unhide HF)).mono ?_
  · rw [(Blk.new _ _ _).cell]; rfl
  · rw [(Blk.new _ _ _).cell]; rfl
  rintro e w1 ⟨rfl, hb1, hk1⟩
  go_wp2
  go_ret
  exact ⟨rfl, hb1, ((Kp.refl _ _).alloc _).trans hk1 (by simp)⟩

theorem zzcount_yes (b base n : Nat) (parts lo hi p nx : Int) (pv rv zz : Value) (ps rs : List Value) (cl : Option Addr) (w : World) (hb : Blk w b #[pv, rv, .int .i64 parts, zz, .bool false] 70)
    (ho : w.ownsRow base 79 5 pv n ps) (hr : w.ownsRow base 65 2 rv n rs) (hbase : base ≤ w.heap.size) (hn : n ≤ 999999)
    (hpb : pv.ownBlock ≠ some b) (hrb : rv.ownBlock ≠ some b) (hpr : ∀ k, pv.ownBlock = some k → rv.ownBlock ≠ some k)
    (hf : (false || decide (100000 < partsAfter parts lo hi p)) = false) :
    Calls Try.prog 25 #[.pointer (some ⟨b, 0, none⟩), .int .i64 lo, .int .i64 hi, .pointer cl, .int .i64 p, .int .i32 nx] w fun e w' => e = .returned (.int .i32 n) ∧
      ∃ pv' rv', Blk w' b #[pv', rv', .int .i64 (partsAfter parts lo hi p), zz, .bool false] 70 ∧ w'.ownsRow base 79 5 pv' (n + 1) (ps ++ [.pointer cl, .int .i32 nx, .int .i32 0, .int .i32 n, .int .u8 1]) ∧
       w'.ownsRow base 65 2 rv' (n + 1) (rs ++ [.int .i64 lo, .int .i64 hi]) ∧ Kp [some b, pv.ownBlock, rv.ownBlock] w w' ∧
       (∀ k, pv'.ownBlock = some k → pv.ownBlock = some k ∨ w.heap.size ≤ k) ∧ (∀ k, rv'.ownBlock = some k → rv.ownBlock = some k ∨ w.heap.size ≤ k) ∧ (∀ k, pv'.ownBlock = some k → rv'.ownBlock ≠ some k) := by
  have HF := hide hf
  clear hf
  have lb := hb.lt
  go_enter Try.func25, Try.ntmps25
  go_wp2_with fail
  refine (count_yes b w.heap.size base n parts lo hi p nx pv rv zz ps rs cl _ (hb.alloc _) (ho.alloc _) (hr.alloc _) (by simp; omega) hn hpb hrb hpr ?_ ?_ (by omega) (unhide HF)).mono ?_
  · rw [(Blk.new _ _ _).cell]; rfl
  · rw [(Blk.new _ _ _).cell]; rfl
  rintro e w1 ⟨rfl, pv', rv', hb1, ho1, hr1, hk1, hx, hy, hz⟩
  go_wp2
  go_ret
  refine ⟨by simp, pv', rv', hb1, ho1, hr1, ((Kp.refl _ _).alloc _).trans hk1 (by simp), ?_, ?_, hz⟩
  · intro k hk
    rcases hx k hk with h | h
    · exact .inl h
    · exact .inr (by simp at h; omega)
  · intro k hk
    rcases hy k hk with h | h
    · exact .inl h
    · exact .inr (by simp at h; omega)

end Go.Proofs.Qxb6600955a
