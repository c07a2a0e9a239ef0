import Derived.Test.Qxb6618666aKeys2
namespace Go.Proofs.Qxb6618666a.walks
open Go.RowKit Go.Proofs.Qxb6618666a.mem

def recBytes (key : ByteArray) (m : List UInt8) (ver : Nat) (del : Bool) : List UInt8 := [6] ++ entryBytes key m ver del

theorem drew_q (w : World) : w.grownBy w.drew none := grownBy_drew (grownBy_refl _ _)
theorem rd_six {w : World} {g n : Nat} (hg : g = w.heap.size) (hn : n = 1) : Rd (w.alloc (.cells #[.int .u8 6] 5)) (.slice (some ⟨g, 0, none⟩) n n) [6] := rd_new [6] hg rfl hn (by decide)
theorem rd_sixd {w : World} {g n : Nat} (hg : g = w.heap.size) (hn : n = 1) : Rd (w.alloc (.cells #[.int .u8 6] 5)).drew (.slice (some ⟨g, 0, none⟩) n n) [6] := (rd_six hg hn).quiet (drew_q _)

set_option maxHeartbeats 2000000 in
set_option maxRecDepth 10000 in
/-- appendKey -/
theorem f24 (B : Nat) (v : Value) (l : List UInt8) (key : ByteArray) (vx : Value) (m : List UInt8) (ver : Nat) (del : Bool) (w : World) (h : Own w B v l) (hB : B ≤ w.heap.size) (hl : l.length ≤ 33554432)
    (hk : key.size ≤ 1048576) (hr : Rd w vx m) (hm : m.length ≤ 1048576) (hap : Apart w vx v) (hv : ver < 18446744073709551616) :
    Calls Try.prog 24 #[v, .string key, .agg #[vx, .int .u64 ver, .bool del]] w fun e w' => ∃ v', e = .returned v' ∧ Own w' B v' (l ++ recBytes key m ver del) ∧ Grew w w' v v' := by
  have HR := hr
  obtain ⟨ax, cx, rfl, -, -, -, -⟩ := hr
  obtain ⟨b0, b1, b2⟩ := box_cells w (.slice ax m.length cx) (.int .u64 ver) (.bool del) 94
  have ga := World.grownBy_alloc w (.cells #[.slice ax m.length cx, .int .u64 ver, .bool del] 94) none
  have gA := grownBy_drew (ga.trans (World.grownBy_alloc _ (.cells #[.int .u8 6] 5) none))
  have oA := h.quiet gA
  have c0 : (((w.alloc (.cells #[.slice ax m.length cx, .int .u64 ver, .bool del] 94)).alloc (.cells #[.int .u8 6] 5)).drew).cell? ⟨w.heap.size, 0, none⟩ = some (.slice ax m.length cx) := by simp
  have c1 : (((w.alloc (.cells #[.slice ax m.length cx, .int .u64 ver, .bool del] 94)).alloc (.cells #[.int .u8 6] 5)).drew).cell? ⟨w.heap.size, 1, none⟩ = some (.int .u64 ver) := by simp
  have c2 : (((w.alloc (.cells #[.slice ax m.length cx, .int .u64 ver, .bool del] 94)).alloc (.cells #[.int .u8 6] 5)).drew).cell? ⟨w.heap.size, 2, none⟩ = some (.bool del) := by simp
  have C0 : Hid (_ = _) := c0
  have C1 : Hid (_ = _) := c1
  have C2 : Hid (_ = _) := c2
  clear c0 c1 c2
  go_enter Try.func24, Try.ntmps24
  go_wp2
  go_region_law (first
    | (refine step_app_rd _ rfl (.tmp 7) (.tmp 8) 30 rfl Try.underlying30 info5 B v l (by simp [Act.eval]) oA (.slice (some ⟨_, 0, none⟩) 1 1) [6] (by simp [Act.eval]; rfl) (rd_sixd (by simp) rfl) (by decide) (by simp; omega) (by simp; omega) ?_; intro v1 w1 ho1 hg1; have k0 := box_kept h (C0.out) hg1; have k1 := box_kept h (C1.out) hg1; have k2 := box_kept h (C2.out) hg1; have hgA := Grew.after gA hg1)
    | (go_simp; go_at_call 29; refine (f29 key _ _ _ _ _ _).mono ?_; rintro e w29 ⟨rfl, hg29⟩; have hgF := hgA.then_quiet hg29; have hoF := ho1.quiet hg29; have hrF := hap.rd HR hgF; have haF := hap.grew hgF)
    | (go_simp; go_at_call 28; refine (f28 B v1 _ key _ m ver del _ hoF (by have := hgF.grown.size; omega) (by simp; omega) hk hrF hm haF hv).mono ?_; rintro e w3 ⟨v3, rfl, ho3, hg3⟩; have hEnd := hgF.trans hg3))
  all_goals
    go_wp2
    go_ret
    refine ⟨v3, rfl, ?_, hEnd⟩
    simpa [recBytes, List.append_assoc] using ho3

set_option maxHeartbeats 400000 in
/-- ZZappendKey -/
theorem f17 (B : Nat) (v : Value) (l : List UInt8) (key : ByteArray) (vx : Value) (m : List UInt8) (ver : Nat) (del : Bool) (w : World) (h : Own w B v l) (hB : B ≤ w.heap.size) (hl : l.length ≤ 33554432)
    (hk : key.size ≤ 1048576) (hr : Rd w vx m) (hm : m.length ≤ 1048576) (hap : Apart w vx v) (hv : ver < 18446744073709551616) :
    Calls Try.prog 17 #[v, .string key, vx, .int .u64 ver, .bool del] w fun e w' => ∃ v', e = .returned v' ∧ Own w' B v' (l ++ recBytes key m ver del) ∧ Grew w w' v v' := by
  have HR := hr
  obtain ⟨ax, cx, rfl, -, -, -, -⟩ := hr
  go_enter Try.func17, Try.ntmps17
  go_wp2_with fail
  refine (f24 B v l key _ m ver del _ h hB hl hk HR hm hap hv).mono ?_
  rintro e w1 ⟨v1, rfl, ho1, hg1⟩
  go_wp2
  go_ret
  exact ⟨v1, rfl, ho1, hg1⟩
end Go.Proofs.Qxb6618666a.walks
