import Derived.Test.Qxb6618666aWalks
import Derived.Lib.Varint
namespace Go.Proofs.Qxb6618666a.walks
open Go.RowKit Go.Proofs.Qxb6618666a.mem

/-! ### a slice that is read beside one that is appended to -/
def Apart (w : World) (vx v : Value) : Prop := ∀ k, vx.ownBlock = some k → k < w.heap.size ∧ v.ownBlock ≠ some k
theorem Apart.grew {w w1 : World} {vx v v1 : Value} (h : Apart w vx v) (hg : Grew w w1 v v1) : Apart w1 vx v1 := fun k hk => by
  obtain ⟨h1, h2⟩ := h k hk
  refine ⟨Nat.lt_of_lt_of_le h1 hg.grown.size, fun e => ?_⟩
  rcases hg.lies k e with h3 | h3
  · omega
  · exact h2 h3
theorem Apart.quiet {w w1 : World} {vx v : Value} (h : Apart w vx v) (hg : w.grownBy w1 none) : Apart w1 vx v := fun k hk => ⟨Nat.lt_of_lt_of_le (h k hk).1 hg.size, (h k hk).2⟩
theorem Apart.rd {w w1 : World} {vx v v1 : Value} {m : List UInt8} (h : Apart w vx v) (hr : Rd w vx m) (hg : Grew w w1 v v1) : Rd w1 vx m :=
  hr.kept hg.grown (fun k hk e => (h k hk).2 e.symm)

theorem take8 (y : Nat) (h : y < 256) : (y.toUInt8).toNat = y := Lib.toUInt8_toNat h

set_option maxHeartbeats 1000000 in
set_option maxRecDepth 10000 in
/-- AppendUvarint -/
theorem f31 (B : Nat) (v : Value) (l : List UInt8) (x : Nat) (w : World) (h : Own w B v l) (hB : B ≤ w.heap.size) (hl : l.length ≤ 1073741824) (hx : x < 18446744073709551616) :
    Calls Try.prog 31 #[v, .int .u64 x] w fun e w' => ∃ v', e = .returned v' ∧ Own w' B v' (l ++ Lib.uvarint x) ∧ Grew w w' v v' := by
  have hlen := Lib.uvarint_length64 hx
  go_enter Try.func31, Try.ntmps31
  go_wp2
  go_loopw [0, 1] (fun vb vx wr => ∃ (y : Nat) (pre : List UInt8), vx = .int .u64 y ∧ y ≤ x ∧ Lib.uvarint x = pre ++ Lib.uvarint y ∧ Own wr B vb (l ++ pre) ∧ Grew w wr v vb)
    (fun _ vx _ => (intOf vx).toNat)
  case atStart => exact ⟨x, [], rfl, Nat.le_refl _, rfl, by simpa using h, Grew.refl _ _⟩
  case round =>
    obtain ⟨y, pre, rfl, hy, hsplit, hown1, hgr⟩ := hrel
    have hpl : pre.length + (Lib.uvarint y).length ≤ 10 := by
      have h2 := congrArg List.length hsplit
      rw [List.length_append] at h2
      omega
    have hyp := Lib.uvarint_pos y
    have hsz := hgr.grown.size
    have HS : Hid (Lib.uvarint x = pre ++ Lib.uvarint y) := hsplit
    clear hsplit
    by_cases h128 : 128 ≤ y
    · have hor : bits .or .u8 ((y : Int) % 256) 128 = ((y % 128 + 128 : Nat) : Int) := by
        rw [Lib.u8_or128_any _ (by omega) (by omega)]
        omega
      obtain ⟨c, hc, hc'⟩ : ∃ c : UInt8, Hid (c = (y % 128 + 128).toUInt8) ∧ Hid (c.toNat = y % 128 + 128) := ⟨_, rfl, take8 (y % 128 + 128) (by omega)⟩
      go_wp2_with (at_builtin; refine wpList_app_rd _ rfl _ _ 30 rfl Try.underlying30 info5 B _ (l ++ pre) rfl (hown1.quiet (World.grownBy_alloc _ _ _)) _ [c] rfl ?c0 ?c1 ?c2 ?_)
      case c0 => exact rd_new [c] rfl (by simp [bc, Lib.byteCells, hc'.out]) rfl (by simp)
      case c1 => simp; omega
      case c2 => simp; omega
      intro v1 w1 hown2 hg2
      go_wp2
      go_roundw
      case rel => exact ⟨y / 128, pre ++ [c], by go_num, by omega, by rw [HS.out, Lib.uvarint_big h128, ← hc.out, List.append_assoc]; rfl, by simpa [List.append_assoc] using hown2, hgr.trans (.after (World.grownBy_alloc _ _ _) hg2)⟩
      case measure => simp [intOf]; omega
    · have hsm : Hid (Lib.uvarint y = [y.toUInt8]) := Lib.uvarint_small (by omega)
      obtain ⟨c, hc, hc'⟩ : ∃ c : UInt8, Hid (c = y.toUInt8) ∧ Hid (c.toNat = y) := ⟨_, rfl, take8 y (by omega)⟩
      go_wp2_with (at_builtin; refine wpList_app_rd _ rfl _ _ 30 rfl Try.underlying30 info5 B _ (l ++ pre) rfl (hown1.quiet (World.grownBy_alloc _ _ _)) _ [c] rfl ?c0 ?c1 ?c2 ?_)
      case c0 => exact rd_new [c] rfl (by simp [bc, Lib.byteCells, hc'.out]) rfl (by simp)
      case c1 => simp; omega
      case c2 => simp; omega
      intro v1 w1 hown2 hg2
      go_wp2
      go_ret
      refine ⟨v1, rfl, ?_, hgr.trans (.after (World.grownBy_alloc _ _ _) hg2)⟩
      rw [HS.out, hsm.out, ← hc.out]
      simpa [List.append_assoc] using hown2

set_option maxHeartbeats 400000 in
set_option maxRecDepth 10000 in
/-- appendBool -/
theorem f33 (B : Nat) (v : Value) (l : List UInt8) (b : Bool) (w : World) (h : Own w B v l) (hB : B ≤ w.heap.size) (hl : l.length ≤ 1073741824) :
    Calls Try.prog 33 #[v, .bool b] w fun e w' => ∃ v', e = .returned v' ∧ Own w' B v' (l ++ [if b then 1 else 0]) ∧ Grew w w' v v' := by
  cases b
  · go_enter Try.func33, Try.ntmps33
    go_wp2_with (at_builtin; refine wpList_app_rd _ rfl _ _ 30 rfl Try.underlying30 info5 B _ l rfl (h.quiet (World.grownBy_alloc _ _ _)) _ [0] rfl ?c0 ?c1 ?c2 ?_)
    case c0 => exact rd_new [0] rfl rfl rfl (by simp)
    case c1 => simp; omega
    case c2 => simp; omega
    intro v1 w1 hown2 hg2
    go_wp2
    go_ret
    exact ⟨v1, rfl, hown2, .after (World.grownBy_alloc _ _ _) hg2⟩
  · go_enter Try.func33, Try.ntmps33
    go_wp2_with (at_builtin; refine wpList_app_rd _ rfl _ _ 30 rfl Try.underlying30 info5 B _ l rfl (h.quiet (World.grownBy_alloc _ _ _)) _ [1] rfl ?c0 ?c1 ?c2 ?_)
    case c0 => exact rd_new [1] rfl rfl rfl (by simp)
    case c1 => simp; omega
    case c2 => simp; omega
    intro v1 w1 hown2 hg2
    go_wp2
    go_ret
    exact ⟨v1, rfl, hown2, .after (World.grownBy_alloc _ _ _) hg2⟩

theorem uv_len (n : Nat) (h : n ≤ 1048576) : (Lib.uvarint n).length ≤ 10 := Lib.uvarint_length64 (by omega)

set_option maxHeartbeats 400000 in
set_option maxRecDepth 10000 in
/-- appendString -/
theorem f34 (B : Nat) (v : Value) (l : List UInt8) (s : ByteArray) (w : World) (h : Own w B v l) (hB : B ≤ w.heap.size) (hl : l.length ≤ 536870912) (hs : s.size ≤ 1048576) :
    Calls Try.prog 34 #[v, .string s] w fun e w' => ∃ v', e = .returned v' ∧ Own w' B v' (l ++ Lib.uvarint s.size ++ s.data.toList) ∧ Grew w w' v v' := by
  have hu := uv_len s.size hs
  go_enter Try.func34, Try.ntmps34
  go_wp2_with fail
  refine (f31 B v l s.size _ h hB (by omega) (by omega)).mono ?_
  rintro e w1 ⟨v1, rfl, ho1, hg1⟩
  have hsz := hg1.grown.size
  go_wp2_with (at_builtin; refine wpList_app_string _ rfl _ _ 30 9 rfl Try.underlying30 Try.underlying9 info5 B _ (l ++ Lib.uvarint s.size) rfl ho1 s rfl ?c1 ?c2 ?_)
  case c1 => simp; omega
  case c2 => omega
  intro v2 w2 ho2 hg2
  go_wp2
  go_ret
  exact ⟨v2, rfl, by simpa [List.append_assoc] using ho2, hg1.trans hg2⟩
end Go.Proofs.Qxb6618666a.walks
