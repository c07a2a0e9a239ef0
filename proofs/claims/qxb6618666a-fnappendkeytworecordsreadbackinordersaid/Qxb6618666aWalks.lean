import Derived.Test.Qxb6618666aRows
import Derived.Test.Qxb6618666aMem
import Derived.WalkKit
import Derived.WalkSpells
import Derived.Lib.Endian
import Derived.Lib.EndianBits
import Derived.Lib.Walk
import Derived.Deep.RegionWith
import Derived.Deep.RegionLaw
namespace Go.Proofs.Qxb6618666a.walks
open Go.RowKit Go.Proofs.Qxb6618666a.mem

theorem info5 : (Try.prog.info? 5).map (fun i => (i.zero, i.size, i.bytes)) = some (some (.int .u8 0), 1, 1) := by kernel_rfl
theorem size5 : (Try.prog.info? 5).map (·.size) = some 1 := by kernel_rfl

set_option maxHeartbeats 400000 in
set_option maxRecDepth 10000 in
/-- zzCloneBytes: a copy in a new row; nil stays nil -/
theorem f13 (v : Value) (l : List UInt8) (w : World) (h : Rd w v l) (hl : l.length ≤ 1048576) :
    Calls Try.prog 13 #[v] w fun e w' => ∃ v', e = .returned v' ∧ Own w' w.heap.size v' l ∧ w.grownBy w' none := by
  have hrd := h
  obtain ⟨a, cap, rfl, h1, h2, h3, h4⟩ := h
  cases a with
  | none =>
    have hc : cap = 0 := h3 rfl
    have hm : l = [] := List.eq_nil_of_length_eq_zero (by omega)
    subst hm; subst hc
    clear h4 hrd
    have he := fun (w : World) => Lib.run_eql_slice_nil (P := Try.prog) w
    go_enter Try.func13, Try.ntmps13
    go_wp2
    go_ret
    exact ⟨_, rfl, Own.nil _ _, grownBy_refl _ _⟩
  | some ad =>
    clear h3 h4
    obtain ⟨i, hi, hz, hsize, hby⟩ := info_parts info5
    have hb1 : i.bytes * l.length ≤ 281474976710656 := by rw [hby]; omega
    have hb2 : l.length ≤ maxLen := by unfold maxLen; omega
    have he := fun (w : World) (a : Option Addr) (n c : Nat) => Lib.run_eql_slice_nil (P := Try.prog) w 30 5 a n c 0 0 Try.underlying30
    go_enter Try.func13, Try.ntmps13
    go_wp2_with (at_make; refine wpList_make_full _ rfl _ _ 30 rfl w.heap.size 5 i (.int .u8 0) 1 Try.underlying30 hi hz hsize _ _ _ _ l.length rfl rfl rfl rfl hb1 hb2 (Nat.le_refl _) ?_)
    intro w1 ho1 hg1
    obtain ⟨w2, hr, ho2, hg2⟩ := run_copy_rd (P := Try.prog) w1 30 3 Try.underlying30 size5 w.heap.size w.heap.size l _ ho1 _ (hrd.quiet hg1)
    go_wp2
    go_ret
    refine ⟨_, rfl, ho2, hg1.andThen hg2 (fun j hj => .inl (by cases hj; exact Nat.le_refl _))⟩

set_option maxHeartbeats 400000 in
/-- zzSameBytes at two slices that read alike -/
theorem f15 (x y : Value) (l : List UInt8) (w : World) (hx : Rd w x l) (hy : Rd w y l) (hl : l.length ≤ 1073741824) :
    Calls Try.prog 15 #[x, y] w fun e w' => e = .returned (.bool true) ∧ ∃ n, w' = w.drewN n := by
  rcases hx.parts with ⟨rfl, a, cap, rfl, _, _⟩ | ⟨g, o, cap, rfl, hpos, hcap, hm, hc⟩
  · rcases hy.parts with ⟨_, a', cap', rfl, _, _⟩ | ⟨_, _, _, _, h0, _⟩
    · clear hx hy
      go_enter Try.func15, Try.ntmps15
      go_wp2
      refine wp_loop_rounds 1 ?_
      rw [rounds_succ]
      go_wp2
      go_ret
      exact ⟨rfl, 0, rfl⟩
    · simp at h0
  · rcases hy.parts with ⟨h0, _⟩ | ⟨g', o', cap', rfl, _, hcap', hm', hc'⟩
    · subst h0; simp at hpos
    · clear hx hy hm hm' hcap hcap'
      obtain ⟨n, hn⟩ : ∃ n, n = l.length := ⟨_, rfl⟩
      rw [← hn] at hpos hl hc hc' ⊢
      clear hn
      go_enter Try.func15, Try.ntmps15
      go_wp2
      go_loopw [5] (fun i wr => ∃ k q : Nat, k ≤ n ∧ i = .int .i64 k ∧ wr = w.drewN q) (fun i _ => n - (intOf i).toNat)
      case atStart => exact ⟨0, 0, Nat.zero_le _, rfl, rfl⟩
      case round =>
        obtain ⟨k, q, hk, rfl, rfl⟩ := hrel
        by_cases hlt : k < n
        · have h1 := hc k hlt
          have h2 := hc' k hlt
          clear hc hc'
          go_wp2
          go_quiet (fail)
          go_wp2
          go_roundw
          case rel => exact ⟨k + 1, _, by omega, by go_num, rfl⟩
          case measure => simp [intOf]; omega
        · go_wp2
          go_ret
          exact ⟨rfl, _, rfl⟩

theorem rd_new {w : World} {g n : Nat} {cs : Array Value} (l : List UInt8) (hg : g = w.heap.size) (hcs : cs = (bc l).toArray) (hn : n = l.length) (hl : l.length ≤ 1048576) :
    Rd (w.alloc (.cells cs 5)) (.slice (some ⟨g, 0, none⟩) n n) l := by
  subst hg; subst hcs; subst hn
  exact ⟨_, _, rfl, Nat.le_refl _, by unfold maxLen; omega, fun h => by (cases h), fun _ => ⟨w.heap.size, 0, rfl, fun i hi => by
    have h1 := bc_at l i hi
    simp only [Nat.zero_add]
    rw [cell_of_row (w.alloc (.cells (bc l).toArray 5)) w.heap.size i (bc l).toArray 5 (0, 0) (heap_alloc_new w _)]
    simpa using h1⟩⟩

set_option maxHeartbeats 400000 in
set_option maxRecDepth 10000 in
/-- AppendUint32 at the number 5 -/
theorem f27 (B : Nat) (v : Value) (l : List UInt8) (w : World) (h : Own w B v l) (hB : B ≤ w.heap.size) (hl : l.length ≤ 1073741824) :
    Calls Try.prog 27 #[.agg #[], v, .int .u32 5] w fun e w' => ∃ v', e = .returned v' ∧ Own w' B v' (l ++ [0, 0, 0, 5]) ∧ Grew w w' v v' := by
  go_enter Try.func27, Try.ntmps27
  go_wp2_with (at_builtin; refine wpList_app_rd _ rfl _ _ 30 rfl Try.underlying30 info5 B v l rfl ((h.quiet (World.grownBy_alloc _ _ _)).quiet (World.grownBy_alloc _ _ _)) _ [0, 0, 0, 5] rfl ?c0 ?c1 ?c2 ?_)
  case c0 => exact rd_new [0, 0, 0, 5] (by simp) rfl rfl (by decide)
  case c1 => simp; omega
  case c2 => simp; omega
  intro v' w2 hown' hgrow
  go_wp2
  go_ret
  exact ⟨v', rfl, hown', .after ((World.grownBy_alloc _ _ _).trans (World.grownBy_alloc _ _ _)) hgrow⟩

set_option maxHeartbeats 400000 in
/-- appendHeader -/
theorem f23 (B : Nat) (v : Value) (l : List UInt8) (s : ByteArray) (w : World) (h : Own w B v l) (hB : B ≤ w.heap.size) (hl : l.length ≤ 1048576) (hs : s.size ≤ 1048576) :
    Calls Try.prog 23 #[v, .string s] w fun e w' => ∃ v', e = .returned v' ∧ Own w' B v' (l ++ s.data.toList ++ [0, 0, 0, 5]) ∧ Grew w w' v v' := by
  go_enter Try.func23, Try.ntmps23
  go_wp2
  go_region_law (first
    | (refine step_app_string _ rfl (.tmp 6) (.tmp 7) 30 9 rfl Try.underlying30 Try.underlying9 info5 B v l (by simp [Act.eval, Act.put]) (h.quiet (grownBy_drew (grownBy_refl _ _))) s (by simp [Act.eval, Act.put]) (by omega) (by simp; omega) ?_; intro v1 w1 ho1 hg1)
    | (go_simp; go_at_call 27; refine (f27 B v1 _ w1 ho1 (by have := hg1.grown.size; simp at this; omega) (by simp; omega)).mono ?_; rintro e w2 ⟨v2, rfl, ho2, hg2⟩))
  all_goals
    go_wp2
    go_ret
    exact ⟨_, rfl, ho2, .after (grownBy_drew (grownBy_refl _ _)) (hg1.trans hg2)⟩

/-- ZZappendHeader -/
theorem f14 (B : Nat) (v : Value) (l : List UInt8) (s : ByteArray) (w : World) (h : Own w B v l) (hB : B ≤ w.heap.size) (hl : l.length ≤ 1048576) (hs : s.size ≤ 1048576) :
    Calls Try.prog 14 #[v, .string s] w fun e w' => ∃ v', e = .returned v' ∧ Own w' B v' (l ++ s.data.toList ++ [0, 0, 0, 5]) ∧ Grew w w' v v' := by
  go_enter Try.func14, Try.ntmps14
  go_wp2_with (go_at_call 23; refine (f23 B v l s _ h hB hl hs).mono ?_; rintro e w1 ⟨v1, rfl, ho1, hg1⟩)
  go_ret
  exact ⟨_, rfl, ho1, hg1⟩

/-- zzBytes_..: whatever it answers, if it is true the lengths are small -/
theorem f12 (a : Option Addr) (n c : Nat) (s : ByteArray) (w : World) (hn : n ≤ maxLen) (hs : s.size ≤ maxLen) :
    Calls Try.prog 12 #[.slice a n c, .string s] w fun e w' => ∃ r : Bool, e = .returned (.bool r) ∧ w' = w := by
  unfold maxLen at hn hs
  go_enter Try.func12, Try.ntmps12
  go_wp2
  all_goals
    go_ret
    exact ⟨_, rfl, rfl⟩
end Go.Proofs.Qxb6618666a.walks
