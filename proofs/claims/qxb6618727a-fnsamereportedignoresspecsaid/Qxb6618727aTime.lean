import Derived.Test.Qxb6618727aRows
import Derived.WalkKit
import Derived.WalkSpells
import Derived.Below
import Derived.Lib.EndianBits
import Derived.Maps.Range
import Derived.Deep.RegionHeld
namespace Go.Proofs.Qxb6618727a.tm
open Go.RowKit

def tw (d : Int) : Int := d % 1000000000
def te (d : Int) : Int := d / 1000000000
theorem t_inj {d d' : Int} (h1 : tw d = tw d') (h2 : te d = te d') : d = d' := by unfold tw at h1; unfold te at h2; omega
theorem tw_bd (d : Int) : 0 ≤ tw d ∧ tw d < 1000000000 := by unfold tw; omega

theorem and_mask0 : bits .and .u64 0 1073741823 = 0 := by decide
theorem andNot0 : bits .andNot .u64 0 1073741823 = 0 := by decide
theorem or0 (n : Int) (h0 : 0 ≤ n) (h1 : n < 2000000000) : bits .or .u64 0 n = n := by
  have := bits_join .u64 64 (by decide) wraps_u64 40 0 n (by omega) (by omega) (by omega) h0 (by omega) (by omega)
  rw [this]; omega
theorem and_hi (a : Nat) (h : a < 2 ^ 63) : a &&& 2 ^ 63 = 0 := by
  apply Nat.eq_of_testBit_eq
  intro i
  rw [Nat.testBit_and, Nat.zero_testBit, Nat.testBit_two_pow]
  by_cases e : 63 = i
  · subst e; rw [Nat.testBit_lt_two_pow h]; rfl
  · simp [e]
theorem and_high (n : Int) (h0 : 0 ≤ n) (h1 : n < 2000000000) : (bits .and .u64 n 9223372036854775808 != 0) = false := by
  obtain ⟨a, rfl⟩ := Int.eq_ofNat_of_zero_le h0
  have e : (9223372036854775808 : Int) = ((2 ^ 63 : Nat) : Int) := by decide
  rw [e, (bits_nat .u64 64 (by decide) wraps_u64 a (2 ^ 63) (by omega) (by decide)).1, and_hi a (by omega)]
  rfl

set_option maxHeartbeats 400000 in
theorem f30 (b : Nat) (w : World) (h : w.cell? ⟨b, 0, none⟩ = some (.int .u64 0)) :
    Calls Try.prog 30 #[.pointer (some ⟨b, 0, none⟩)] w fun e w' => e = .returned (.int .i32 0) ∧ w' = w := by
  have hm := and_mask0
  go_enter Try.func30, Try.ntmps30
  go_wp2
  go_ret
  exact ⟨rfl, rfl⟩

set_option maxHeartbeats 400000 in
theorem f31 (b : Nat) (n d : Int) (w : World) (h0 : w.cell? ⟨b, 0, none⟩ = some (.int .u64 n)) (h1 : w.cell? ⟨b, 1, none⟩ = some (.int .i64 0)) (hf : w.frozen? ⟨b, 1, none⟩ = false) (hn : 0 ≤ n) (hn' : n < 2000000000) (hd : -10000000000 ≤ d) (hd' : d ≤ 10000000000) :
    Calls Try.prog 31 #[.pointer (some ⟨b, 0, none⟩), .int .i64 d] w fun e w' => e = .returned (.tuple #[]) ∧ w' = w.setCell ⟨b, 1, none⟩ (.int .i64 d) := by
  have hm := and_high n hn hn'
  go_enter Try.func31, Try.ntmps31
  go_wp2
  go_end0
  exact ⟨rfl, rfl⟩

theorem gs {w w1 : World} (h : w.grownBy w1 none) {a : Addr} (ha : w.heap.size ≤ a.block) (v : Value) : w.grownBy (w1.setCell a v) none :=
  ⟨h.os, h.tape, h.output, by simpa [World.setCell] using h.size, fun k hk hne => (Below.heap_setCell w1 a v k (by omega)).trans (h.block k hk hne)⟩
theorem gfrozen {w w1 : World} (h : w.grownBy w1 none) {a : Addr} {v : Value} (hc : w.cell? a = some v) (hf : w.frozen? a = false) : w1.frozen? a = false := by
  rw [World.frozen?_of_block (h.block a.block (World.block_lt_of_cell? w a hc) (by simp))]; exact hf
/-- a whole block reads as it did -/
theorem blk_kept {w w1 : World} {b : Nat} {cs : Array Value} (hg : w.grownBy w1 none) (h : ∀ j, w.cell? ⟨b, j, none⟩ = cs[j]?) (hne : 0 < cs.size) : ∀ j, w1.cell? ⟨b, j, none⟩ = cs[j]? := by
  have hlt : b < w.heap.size := World.block_lt_of_cell? w ⟨b, 0, none⟩ (u := cs[0]) (by rw [h 0]; simp [hne])
  intro j
  rw [World.cell?_of_block (hg.block b hlt (by simp)), h j]
theorem frz_kept {w w1 : World} {b : Nat} {cs : Array Value} (hg : w.grownBy w1 none) (h : ∀ j, w.cell? ⟨b, j, none⟩ = cs[j]?) (hne : 0 < cs.size) (hf : ∀ j, w.frozen? ⟨b, j, none⟩ = false) : ∀ j, w1.frozen? ⟨b, j, none⟩ = false := by
  have hlt : b < w.heap.size := World.block_lt_of_cell? w ⟨b, 0, none⟩ (u := cs[0]) (by rw [h 0]; simp [hne])
  intro j
  rw [World.frozen?_of_block (hg.block b hlt (by simp)), hf j]
theorem blk_new (w : World) (cs : Array Value) (t : TypeId) : ∀ j, (w.alloc (.cells cs t)).cell? ⟨w.heap.size, j, none⟩ = cs[j]? := by
  intro j
  rw [cell_of_row (w.alloc (.cells cs t)) w.heap.size j cs t (0, 0) (heap_alloc_new w _)]
theorem frz_new (w : World) (cs : Array Value) (t : TypeId) : ∀ j, (w.alloc (.cells cs t)).frozen? ⟨w.heap.size, j, none⟩ = false := by
  intro j; simp
theorem blk_set {w : World} {b : Nat} {cs : Array Value} {a : Addr} {v : Value} (hne : a.block ≠ b) (h : ∀ j, w.cell? ⟨b, j, none⟩ = cs[j]?) : ∀ j, (w.setCell a v).cell? ⟨b, j, none⟩ = cs[j]? := by
  intro j
  rw [World.cell?_of_block (w := w) (Below.heap_setCell w a v b (fun e => hne e.symm)), h j]
theorem blk8 {w : World} {b : Nat} {a0 a1 a2 a3 a4 a5 a6 a7 : Value} (h : ∀ j, w.cell? ⟨b, j, none⟩ = (#[a0, a1, a2, a3, a4, a5, a6, a7] : Array Value)[j]?) :
    w.cell? ⟨b, 0, none⟩ = some a0 ∧ w.cell? ⟨b, 1, none⟩ = some a1 ∧ w.cell? ⟨b, 2, none⟩ = some a2 ∧ w.cell? ⟨b, 3, none⟩ = some a3 ∧ w.cell? ⟨b, 4, none⟩ = some a4 ∧ w.cell? ⟨b, 5, none⟩ = some a5 ∧ w.cell? ⟨b, 6, none⟩ = some a6 ∧ w.cell? ⟨b, 7, none⟩ = some a7 :=
  ⟨h 0, h 1, h 2, h 3, h 4, h 5, h 6, h 7⟩
theorem frz8 {w : World} {b : Nat} (h : ∀ j, w.frozen? ⟨b, j, none⟩ = false) :
    w.frozen? ⟨b, 0, none⟩ = false ∧ w.frozen? ⟨b, 1, none⟩ = false ∧ w.frozen? ⟨b, 2, none⟩ = false ∧ w.frozen? ⟨b, 3, none⟩ = false ∧ w.frozen? ⟨b, 4, none⟩ = false ∧ w.frozen? ⟨b, 5, none⟩ = false ∧ w.frozen? ⟨b, 6, none⟩ = false ∧ w.frozen? ⟨b, 7, none⟩ = false :=
  ⟨h 0, h 1, h 2, h 3, h 4, h 5, h 6, h 7⟩
theorem ga (w : World) (o : Obj) : w.grownBy (w.alloc o) none := World.grownBy_alloc w o none
theorem gd (w : World) : w.grownBy w.drew none := ⟨rfl, rfl, rfl, Nat.le_refl _, fun _ _ _ => rfl⟩

theorem frozen_new (w : World) (c : Array Value) (t : TypeId) (j : Nat) : (w.alloc (.cells c t)).frozen? ⟨w.heap.size, j, none⟩ = false := by simp

set_option maxHeartbeats 1000000 in
theorem f26 (d : Int) (w : World) (h1 : -9223372036854775808 ≤ d) (h2 : d ≤ 9223372036854775807) :
    Calls Try.prog 26 #[.agg #[.int .u64 0, .int .i64 0, .pointer none], .int .i64 d] w fun e w' => e = .returned (.agg #[.int .u64 (tw d), .int .i64 (te d), .pointer none]) ∧ w.grownBy w' none := by
  obtain ⟨q, hq⟩ : ∃ q, d.tdiv 1000000000 = q := ⟨_, rfl⟩
  obtain ⟨r, hr⟩ : ∃ r, d.tmod 1000000000 = r := ⟨_, rfl⟩
  have hd : d = 1000000000 * q + r := by have := Int.mul_tdiv_add_tmod d 1000000000; omega
  have r1 : r < 1000000000 := by rw [← hr]; exact Int.tmod_lt_of_pos d (by decide)
  have r2 : -1000000000 < r := by rw [← hr]; exact Int.lt_tmod_of_pos d (by decide)
  have q1 : -9223372037 ≤ q := by omega
  have q2 : q ≤ 9223372037 := by omega
  have n0 := andNot0
  by_cases hneg : r < 0
  · have H1 : Hid (tw d = r + 1000000000) := by show _ = _; unfold tw; omega
    have H2 : Hid (te d = q - 1) := by show _ = _; unfold te; omega
    have n1 := or0 (r + 1000000000) (by omega) (by omega)
    clear hd h1 h2
    go_enter Try.func26, Try.ntmps26
    go_wp2_with fail
    refine (f30 _ _ (by simp)).mono ?_
    rintro e w' ⟨rfl, rfl⟩
    go_wp2_with fail
    refine (f31 _ (r + 1000000000) (q - 1) _ (by simp) (by simp) (by simp) (by omega) (by omega) (by omega) (by omega)).mono ?_
    rintro e w' ⟨rfl, rfl⟩
    have hm := and_high (r + 1000000000) (by omega) (by omega)
    go_wp2
    exact bodyPost_ret (v := .agg #[.int .u64 (r + 1000000000), .int .i64 (q - 1), .pointer none]) (by simp [results, Try.results26, go_sem]) rfl ⟨by rw [H1.out, H2.out], (World.grownBy_alloc _ _ _).trans (World.grownBy_alloc _ _ _)⟩
  · have H1 : Hid (tw d = r) := by show _ = _; unfold tw; omega
    have H2 : Hid (te d = q) := by show _ = _; unfold te; omega
    have n1 := or0 r (by omega) (by omega)
    clear hd h1 h2
    go_enter Try.func26, Try.ntmps26
    go_wp2_with fail
    refine (f30 _ _ (by simp)).mono ?_
    rintro e w' ⟨rfl, rfl⟩
    go_wp2_with fail
    refine (f31 _ r q _ (by simp) (by simp) (by simp) (by omega) (by omega) (by omega) (by omega)).mono ?_
    rintro e w' ⟨rfl, rfl⟩
    have hm := and_high r (by omega) (by omega)
    go_wp2
    exact bodyPost_ret (v := .agg #[.int .u64 r, .int .i64 q, .pointer none]) (by simp [results, Try.results26, go_sem]) rfl ⟨by rw [H1.out, H2.out], (World.grownBy_alloc _ _ _).trans (World.grownBy_alloc _ _ _)⟩

set_option maxHeartbeats 400000 in
/-- ZZat -/
theorem f19 (d : Int) (w : World) (h1 : -9223372036854775808 ≤ d) (h2 : d ≤ 9223372036854775807) :
    Calls Try.prog 19 #[.int .i64 d] w fun e w' => e = .returned (.agg #[.int .u64 (tw d), .int .i64 (te d), .pointer none]) ∧ w.grownBy w' none := by
  have H := fun w => f26 d w h1 h2
  have HH : Hid (∀ w, Calls _ _ _ _ _) := H
  clear H h1 h2
  go_enter Try.func19, Try.ntmps19
  go_wp2_with fail
  refine (HH.out _).mono ?_
  rintro e w1 ⟨rfl, hg⟩
  have c0 := hg.cell (a := ⟨w.heap.size, 0, none⟩) (v := .int .u64 0) (by simp) (by simp)
  have c1 := hg.cell (a := ⟨w.heap.size, 1, none⟩) (v := .int .i64 0) (by simp) (by simp)
  have c2 := hg.cell (a := ⟨w.heap.size, 2, none⟩) (v := .pointer none) (by simp) (by simp)
  have f0 := gfrozen hg (a := ⟨w.heap.size, 0, none⟩) (v := .int .u64 0) (by simp) (by simp)
  have f1 := gfrozen hg (a := ⟨w.heap.size, 1, none⟩) (v := .int .i64 0) (by simp) (by simp)
  have f2 := gfrozen hg (a := ⟨w.heap.size, 2, none⟩) (v := .pointer none) (by simp) (by simp)
  have hg' := (World.grownBy_alloc w (.cells #[.int .u64 0, .int .i64 0, .pointer none] 45) none).trans hg
  go_wp2
  exact bodyPost_ret (v := .agg #[.int .u64 (tw d), .int .i64 (te d), .pointer none]) (by simp [results, Try.results19, go_sem, c0, c1, c2]) rfl ⟨rfl, gs (gs (gs hg' (Nat.le_refl _) _) (Nat.le_refl _) _) (Nat.le_refl _) _⟩

set_option maxHeartbeats 1000000 in
/-- fb1Cause -/
theorem f20 (rs : ByteArray) (lv d d' : Int) (w : World) (h1 : -9223372036854775808 ≤ d) (h2 : d ≤ 9223372036854775807) (h1' : -9223372036854775808 ≤ d') (h2' : d' ≤ 9223372036854775807) :
    Calls Try.prog 20 #[.agg #[.string rs, .int .i64 lv, .int .i64 d, .int .i64 d']] w fun e w' => e = .returned (.agg #[.string rs, .int .i64 lv, .int .u64 (tw d), .int .i64 (te d), .pointer none, .int .u64 (tw d'), .int .i64 (te d'), .pointer none]) ∧ w.grownBy w' none := by
  have HH : Hid (∀ w, Calls _ _ _ _ _) := fun w => f19 d w h1 h2
  have HH' : Hid (∀ w, Calls _ _ _ _ _) := fun w => f19 d' w h1' h2'
  clear h1 h2 h1' h2'
  have B0 := blk_kept ((ga _ (.cells #[.string ⟨#[]⟩, .int .i64 0, .int .u64 0, .int .i64 0, .pointer none, .int .u64 0, .int .i64 0, .pointer none] 60)).trans (gd _)) (blk_new w #[.string rs, .int .i64 lv, .int .i64 d, .int .i64 d'] 55) (by simp)
  have R0 := blk_kept (gd _) (blk_new (w.alloc (.cells #[.string rs, .int .i64 lv, .int .i64 d, .int .i64 d'] 55)) #[.string ⟨#[]⟩, .int .i64 0, .int .u64 0, .int .i64 0, .pointer none, .int .u64 0, .int .i64 0, .pointer none] 60) (by simp)
  have F0 := frz_kept (gd _) (blk_new (w.alloc (.cells #[.string rs, .int .i64 lv, .int .i64 d, .int .i64 d'] 55)) #[.string ⟨#[]⟩, .int .i64 0, .int .u64 0, .int .i64 0, .pointer none, .int .u64 0, .int .i64 0, .pointer none] 60) (by simp) (frz_new _ _ _)
  have hs : (w.alloc (.cells #[.string rs, .int .i64 lv, .int .i64 d, .int .i64 d'] 55)).heap.size = w.heap.size + 1 := by simp
  rw [hs] at R0 F0
  clear hs
  have HR : Hid (_ ∧ _) := And.intro R0 F0
  have HB : Hid (∀ j, _) := B0
  clear R0 F0 B0
  go_enter Try.func20, Try.ntmps20
  go_wp2
  go_region_held (fun w' => ∀ j, w'.cell? ⟨w.heap.size, j, none⟩ = (#[.string rs, .int .i64 lv, .int .i64 d, .int .i64 d'] : Array Value)[j]?)
    (first | with_reducible exact HB.out | with_reducible exact KB | ((repeat (with_reducible refine blk_set (by simp) ?_)); with_reducible exact KB))
    (first
      | (go_at_call_of 19 (Value.int IntKind.i64 d); refine (HH.out _).mono ?_; rintro e w1 ⟨rfl, hg1⟩; have KB := blk_kept hg1 HB.out (by simp))
      | (go_at_call_of 19 (Value.int IntKind.i64 d'); refine (HH'.out _).mono ?_; rintro e w2 ⟨rfl, hg2⟩; have KB := blk_kept hg2 KB (by simp); obtain ⟨r0, r1, r2, r3, r4, r5, r6, r7⟩ := blk8 (blk_kept (hg1.trans hg2) HR.out.1 (by simp)); obtain ⟨s0, s1, s2, s3, s4, s5, s6, s7⟩ := frz8 (frz_kept (hg1.trans hg2) HR.out.1 (by simp) HR.out.2); have hgg := hg1.trans hg2))
  have hW : w.grownBy w2 none := (((ga _ _).trans (ga _ _)).trans (gd _)).trans hgg
  clear HR HB KB HH HH'
  go_wp2
  refine bodyPost_ret (v := .agg #[.string rs, .int .i64 lv, .int .u64 (tw d), .int .i64 (te d), .pointer none, .int .u64 (tw d'), .int .i64 (te d'), .pointer none]) (by simp [results, Try.results20, go_sem, r0, r1, r2, r3, r4, r5, r6, r7]) rfl ⟨rfl, ?_⟩
  repeat (with_reducible refine gs ?_ (Nat.le_succ _) _)
  exact hW
end Go.Proofs.Qxb6618727a.tm
