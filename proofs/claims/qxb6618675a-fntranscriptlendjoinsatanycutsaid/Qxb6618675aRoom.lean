import Derived.Test.Qxb6618675aToMsg
namespace Go.Proofs.Qxb6618675a.walks
open Go.RowKit Go.Proofs.Qxb6618675a.mem

/-- one array of an arena: nil, or a row of its own -/
def Hd (B : Nat) (w : World) (e sz : Nat) (h : Value) : Prop :=
  h = .slice none 0 0 ∨ ∃ g n c xs, h = .slice (some ⟨g, 0, none⟩) n c ∧ w.ownsRow B e sz (.slice (some ⟨g, 0, none⟩) n c) n xs ∧ c ≤ 1048576
/-- .. with room for so many more -/
def Room (B : Nat) (w : World) (e sz : Nat) (h : Value) (need : Nat) : Prop :=
  ∃ g n c xs, h = .slice (some ⟨g, 0, none⟩) n c ∧ w.ownsRow B e sz (.slice (some ⟨g, 0, none⟩) n c) n xs ∧ c ≤ 1048576 ∧ n + need ≤ c

theorem set_id {cs : Array Value} {r : Nat} {h : Value} (hc : cs[r]? = some h) : cs.setIfInBounds r h = cs := by
  apply Array.ext_getElem?
  intro i
  rw [Array.getElem?_setIfInBounds]
  split
  · next e => subst e; split
              · exact hc.symm
              · next hh => simp at hh; rw [Array.getElem?_eq_none hh] at hc; cases hc
  · rfl

theorem room_made {B L r e sz need N t : Nat} {cs : Array Value} {w w1 : World} (hL : w.heap[L]? = some (.cells cs t (0, 0))) (hg : w.grownBy w1 none)
    (ho : w1.ownsRow B e sz (.slice (some ⟨w.heap.size, 0, none⟩) 0 N) 0 []) (hN : N ≤ 1048576) (hn : need ≤ N) :
    Room B (w1.setCell ⟨L, r, none⟩ (.slice (some ⟨w.heap.size, 0, none⟩) 0 N)) e sz (.slice (some ⟨w.heap.size, 0, none⟩) 0 N) need ∧
      (w1.setCell ⟨L, r, none⟩ (.slice (some ⟨w.heap.size, 0, none⟩) 0 N)).heap[L]? = some (.cells (cs.setIfInBounds r (.slice (some ⟨w.heap.size, 0, none⟩) 0 N)) t (0, 0)) ∧
      w.grownBy (w1.setCell ⟨L, r, none⟩ (.slice (some ⟨w.heap.size, 0, none⟩) 0 N)) (some L) := by
  have hlt : L < w.heap.size := (Array.getElem?_eq_some_iff.1 hL).1
  have hL1 : w1.heap[L]? = some (.cells cs t (0, 0)) := (hg.block L hlt (by simp)).trans hL
  have hs : w1.grownBy (w1.setCell ⟨L, r, none⟩ (.slice (some ⟨w.heap.size, 0, none⟩) 0 N)) (some L) :=
    ⟨rfl, rfl, rfl, by simp, fun k _ hk => heap_setCell_other w1 ⟨L, r, none⟩ k _ (fun e => hk (by simp [e]))⟩
  refine ⟨⟨_, 0, N, [], rfl, ho.kept hs (Or.inr (by simp [Value.ownBlock]; omega)), hN, by omega⟩, heap_setCell_same w1 L r cs t _ hL1, ?_⟩
  exact ⟨hs.os.trans hg.os, hs.tape.trans hg.tape, hs.output.trans hg.output, Nat.le_trans hg.size hs.size, fun k hk hne => (hs.block k (Nat.lt_of_lt_of_le hk hg.size) hne).trans (hg.block k hk (by simp))⟩

set_option maxHeartbeats 4000000 in
set_option maxRecDepth 10000 in
/-- makeRoomIn, of messages -/
theorem f29 (B L r need lim : Nat) (cs : Array Value) (t : Nat) (h : Value) (w : World) (hL : w.heap[L]? = some (.cells cs t (0, 0))) (hr : cs[r]? = some h) (hh : Hd B w 35 5 h) (hB : B ≤ w.heap.size) (hn : need ≤ 1048576) (h1 : 0 < lim) (h2 : lim ≤ 16384) :
    Calls Try.prog 29 #[.pointer (some ⟨L, r, none⟩), .int .i64 need, .int .i64 lim] w fun e w' =>
      ∃ x h', e = .returned x ∧ Room B w' 35 5 h' need ∧ w'.heap[L]? = some (.cells (cs.setIfInBounds r h') t (0, 0)) ∧ w.grownBy w' (some L) := by
  have hc : w.cell? ⟨L, r, none⟩ = some h := by rw [cell_of_row w L r cs t (0, 0) hL]; exact hr
  have hf := frozen_of_row w L r cs t hL
  have he := fun (w : World) (a : Option Addr) (n c : Nat) => run_neq_slice_nil (P := Try.prog) w 25 35 a n c Try.underlying25
  obtain ⟨i, hi, hz, hsize, hby⟩ := info_parts info35
  rcases hh with rfl | ⟨g, n, c, xs, rfl, hown, hcm⟩
  · obtain ⟨N, hN⟩ : ∃ N : Nat, N = need := ⟨_, rfl⟩
    have hb1 : i.bytes * N ≤ 281474976710656 := by rw [hby]; omega
    have hb2 : N ≤ maxLen := by unfold maxLen; omega
    have hb3 : N ≤ 1048576 := by omega
    have hb4 : need ≤ N := by omega
    have hNN : max (need : Int) (min 0 (lim : Int)) = (N : Int) := by omega
    clear hN
    go_enter Try.func29, Try.ntmps29
    go_wp2
    go_quiet (fail)
    go_wp2_with (at_make; refine wpList_make_own _ rfl _ _ 25 rfl B 35 i _ 5 Try.underlying25 hi hz hsize _ _ _ N rfl rfl rfl hb1 hb2 hB ?_)
    intro w1 ho1 hg1
    obtain ⟨r1, r2, r3⟩ := room_made (r := r) hL ⟨hg1.os, hg1.tape, hg1.output, hg1.size, hg1.block⟩ ho1 hb3 hb4
    have hc1 := World.grownBy.cell (a := ⟨L, r, none⟩) hg1 hc (by simp)
    have hf1 : w1.frozen? ⟨L, r, none⟩ = false := (World.frozen?_of_block (hg1.block L (Array.getElem?_eq_some_iff.1 hL).1 (by simp))).trans hf
    go_wp2
    go_end0
    exact ⟨_, _, rfl, r1, r2, r3⟩
  · have hnc : n ≤ c := by
      rcases hown.2 with ⟨h0, -⟩ | ⟨g', c', cur, h0, -, -, hle, -⟩
      · cases h0
      · cases h0; exact hle
    by_cases hroom : n + need ≤ c
    · have hd : decide ((need : Int) ≤ (c : Int) - n) = true := by simp; omega
      go_enter Try.func29, Try.ntmps29
      go_wp2
      go_quiet (fail)
      go_wp2
      (try simp only [Exit.inBlock, Exit.then]); refine bodyPost_ret (results_none rfl _ _ _) rfl ?_
      exact ⟨_, _, rfl, ⟨g, n, c, xs, rfl, hown, hcm, hroom⟩, by rw [set_id hr]; exact hL, ⟨rfl, rfl, rfl, Nat.le_refl _, fun _ _ _ => rfl⟩⟩
    · have hd : decide ((need : Int) ≤ (c : Int) - n) = false := by simp; omega
      obtain ⟨N, hN⟩ : ∃ N : Nat, N = max need (min (2 * c) lim) := ⟨_, rfl⟩
      have hb1 : i.bytes * N ≤ 281474976710656 := by rw [hby]; omega
      have hb2 : N ≤ maxLen := by unfold maxLen; omega
      have hb3 : N ≤ 1048576 := by omega
      have hb4 : need ≤ N := by omega
      have hNN : max (need : Int) (min (2 * (c : Int)) (lim : Int)) = (N : Int) := by omega
      clear hN
      go_enter Try.func29, Try.ntmps29
      go_wp2
      go_quiet (fail)
      go_wp2_with (at_make; refine wpList_make_own _ rfl _ _ 25 rfl B 35 i _ 5 Try.underlying25 hi hz hsize _ _ _ N rfl rfl rfl hb1 hb2 hB ?_)
      intro w1 ho1 hg1
      obtain ⟨r1, r2, r3⟩ := room_made (r := r) hL ⟨hg1.os, hg1.tape, hg1.output, hg1.size, hg1.block⟩ ho1 hb3 hb4
      have hc1 := World.grownBy.cell (a := ⟨L, r, none⟩) hg1 hc (by simp)
      have hf1 : w1.frozen? ⟨L, r, none⟩ = false := (World.frozen?_of_block (hg1.block L (Array.getElem?_eq_some_iff.1 hL).1 (by simp))).trans hf
      go_wp2
      go_end0
      exact ⟨_, _, rfl, r1, r2, r3⟩

set_option maxHeartbeats 4000000 in
set_option maxRecDepth 10000 in
/-- makeRoomIn, of calls -/
theorem f30 (B L r need lim : Nat) (cs : Array Value) (t : Nat) (h : Value) (w : World) (hL : w.heap[L]? = some (.cells cs t (0, 0))) (hr : cs[r]? = some h) (hh : Hd B w 69 3 h) (hB : B ≤ w.heap.size) (hn : need ≤ 1048576) (h1 : 0 < lim) (h2 : lim ≤ 16384) :
    Calls Try.prog 30 #[.pointer (some ⟨L, r, none⟩), .int .i64 need, .int .i64 lim] w fun e w' =>
      ∃ x h', e = .returned x ∧ Room B w' 69 3 h' need ∧ w'.heap[L]? = some (.cells (cs.setIfInBounds r h') t (0, 0)) ∧ w.grownBy w' (some L) := by
  have hc : w.cell? ⟨L, r, none⟩ = some h := by rw [cell_of_row w L r cs t (0, 0) hL]; exact hr
  have hf := frozen_of_row w L r cs t hL
  have he := fun (w : World) (a : Option Addr) (n c : Nat) => run_neq_slice_nil (P := Try.prog) w 32 69 a n c Try.underlying32
  obtain ⟨i, hi, hz, hsize, hby⟩ := info_parts info69
  rcases hh with rfl | ⟨g, n, c, xs, rfl, hown, hcm⟩
  · obtain ⟨N, hN⟩ : ∃ N : Nat, N = need := ⟨_, rfl⟩
    have hb1 : i.bytes * N ≤ 281474976710656 := by rw [hby]; omega
    have hb2 : N ≤ maxLen := by unfold maxLen; omega
    have hb3 : N ≤ 1048576 := by omega
    have hb4 : need ≤ N := by omega
    have hNN : max (need : Int) (min 0 (lim : Int)) = (N : Int) := by omega
    clear hN
    go_enter Try.func30, Try.ntmps30
    go_wp2
    go_quiet (fail)
    go_wp2_with (at_make; refine wpList_make_own _ rfl _ _ 32 rfl B 69 i _ 3 Try.underlying32 hi hz hsize _ _ _ N rfl rfl rfl hb1 hb2 hB ?_)
    intro w1 ho1 hg1
    obtain ⟨r1, r2, r3⟩ := room_made (r := r) hL ⟨hg1.os, hg1.tape, hg1.output, hg1.size, hg1.block⟩ ho1 hb3 hb4
    have hc1 := World.grownBy.cell (a := ⟨L, r, none⟩) hg1 hc (by simp)
    have hf1 : w1.frozen? ⟨L, r, none⟩ = false := (World.frozen?_of_block (hg1.block L (Array.getElem?_eq_some_iff.1 hL).1 (by simp))).trans hf
    go_wp2
    go_end0
    exact ⟨_, _, rfl, r1, r2, r3⟩
  · have hnc : n ≤ c := by
      rcases hown.2 with ⟨h0, -⟩ | ⟨g', c', cur, h0, -, -, hle, -⟩
      · cases h0
      · cases h0; exact hle
    by_cases hroom : n + need ≤ c
    · have hd : decide ((need : Int) ≤ (c : Int) - n) = true := by simp; omega
      go_enter Try.func30, Try.ntmps30
      go_wp2
      go_quiet (fail)
      go_wp2
      (try simp only [Exit.inBlock, Exit.then]); refine bodyPost_ret (results_none rfl _ _ _) rfl ?_
      exact ⟨_, _, rfl, ⟨g, n, c, xs, rfl, hown, hcm, hroom⟩, by rw [set_id hr]; exact hL, ⟨rfl, rfl, rfl, Nat.le_refl _, fun _ _ _ => rfl⟩⟩
    · have hd : decide ((need : Int) ≤ (c : Int) - n) = false := by simp; omega
      obtain ⟨N, hN⟩ : ∃ N : Nat, N = max need (min (2 * c) lim) := ⟨_, rfl⟩
      have hb1 : i.bytes * N ≤ 281474976710656 := by rw [hby]; omega
      have hb2 : N ≤ maxLen := by unfold maxLen; omega
      have hb3 : N ≤ 1048576 := by omega
      have hb4 : need ≤ N := by omega
      have hNN : max (need : Int) (min (2 * (c : Int)) (lim : Int)) = (N : Int) := by omega
      clear hN
      go_enter Try.func30, Try.ntmps30
      go_wp2
      go_quiet (fail)
      go_wp2_with (at_make; refine wpList_make_own _ rfl _ _ 32 rfl B 69 i _ 3 Try.underlying32 hi hz hsize _ _ _ N rfl rfl rfl hb1 hb2 hB ?_)
      intro w1 ho1 hg1
      obtain ⟨r1, r2, r3⟩ := room_made (r := r) hL ⟨hg1.os, hg1.tape, hg1.output, hg1.size, hg1.block⟩ ho1 hb3 hb4
      have hc1 := World.grownBy.cell (a := ⟨L, r, none⟩) hg1 hc (by simp)
      have hf1 : w1.frozen? ⟨L, r, none⟩ = false := (World.frozen?_of_block (hg1.block L (Array.getElem?_eq_some_iff.1 hL).1 (by simp))).trans hf
      go_wp2
      go_end0
      exact ⟨_, _, rfl, r1, r2, r3⟩

set_option maxHeartbeats 4000000 in
set_option maxRecDepth 10000 in
/-- makeRoomIn, of results -/
theorem f31 (B L r need lim : Nat) (cs : Array Value) (t : Nat) (h : Value) (w : World) (hL : w.heap[L]? = some (.cells cs t (0, 0))) (hr : cs[r]? = some h) (hh : Hd B w 71 4 h) (hB : B ≤ w.heap.size) (hn : need ≤ 1048576) (h1 : 0 < lim) (h2 : lim ≤ 16384) :
    Calls Try.prog 31 #[.pointer (some ⟨L, r, none⟩), .int .i64 need, .int .i64 lim] w fun e w' =>
      ∃ x h', e = .returned x ∧ Room B w' 71 4 h' need ∧ w'.heap[L]? = some (.cells (cs.setIfInBounds r h') t (0, 0)) ∧ w.grownBy w' (some L) := by
  have hc : w.cell? ⟨L, r, none⟩ = some h := by rw [cell_of_row w L r cs t (0, 0) hL]; exact hr
  have hf := frozen_of_row w L r cs t hL
  have he := fun (w : World) (a : Option Addr) (n c : Nat) => run_neq_slice_nil (P := Try.prog) w 33 71 a n c Try.underlying33
  obtain ⟨i, hi, hz, hsize, hby⟩ := info_parts info71
  rcases hh with rfl | ⟨g, n, c, xs, rfl, hown, hcm⟩
  · obtain ⟨N, hN⟩ : ∃ N : Nat, N = need := ⟨_, rfl⟩
    have hb1 : i.bytes * N ≤ 281474976710656 := by rw [hby]; omega
    have hb2 : N ≤ maxLen := by unfold maxLen; omega
    have hb3 : N ≤ 1048576 := by omega
    have hb4 : need ≤ N := by omega
    have hNN : max (need : Int) (min 0 (lim : Int)) = (N : Int) := by omega
    clear hN
    go_enter Try.func31, Try.ntmps31
    go_wp2
    go_quiet (fail)
    go_wp2_with (at_make; refine wpList_make_own _ rfl _ _ 33 rfl B 71 i _ 4 Try.underlying33 hi hz hsize _ _ _ N rfl rfl rfl hb1 hb2 hB ?_)
    intro w1 ho1 hg1
    obtain ⟨r1, r2, r3⟩ := room_made (r := r) hL ⟨hg1.os, hg1.tape, hg1.output, hg1.size, hg1.block⟩ ho1 hb3 hb4
    have hc1 := World.grownBy.cell (a := ⟨L, r, none⟩) hg1 hc (by simp)
    have hf1 : w1.frozen? ⟨L, r, none⟩ = false := (World.frozen?_of_block (hg1.block L (Array.getElem?_eq_some_iff.1 hL).1 (by simp))).trans hf
    go_wp2
    go_end0
    exact ⟨_, _, rfl, r1, r2, r3⟩
  · have hnc : n ≤ c := by
      rcases hown.2 with ⟨h0, -⟩ | ⟨g', c', cur, h0, -, -, hle, -⟩
      · cases h0
      · cases h0; exact hle
    by_cases hroom : n + need ≤ c
    · have hd : decide ((need : Int) ≤ (c : Int) - n) = true := by simp; omega
      go_enter Try.func31, Try.ntmps31
      go_wp2
      go_quiet (fail)
      go_wp2
      (try simp only [Exit.inBlock, Exit.then]); refine bodyPost_ret (results_none rfl _ _ _) rfl ?_
      exact ⟨_, _, rfl, ⟨g, n, c, xs, rfl, hown, hcm, hroom⟩, by rw [set_id hr]; exact hL, ⟨rfl, rfl, rfl, Nat.le_refl _, fun _ _ _ => rfl⟩⟩
    · have hd : decide ((need : Int) ≤ (c : Int) - n) = false := by simp; omega
      obtain ⟨N, hN⟩ : ∃ N : Nat, N = max need (min (2 * c) lim) := ⟨_, rfl⟩
      have hb1 : i.bytes * N ≤ 281474976710656 := by rw [hby]; omega
      have hb2 : N ≤ maxLen := by unfold maxLen; omega
      have hb3 : N ≤ 1048576 := by omega
      have hb4 : need ≤ N := by omega
      have hNN : max (need : Int) (min (2 * (c : Int)) (lim : Int)) = (N : Int) := by omega
      clear hN
      go_enter Try.func31, Try.ntmps31
      go_wp2
      go_quiet (fail)
      go_wp2_with (at_make; refine wpList_make_own _ rfl _ _ 33 rfl B 71 i _ 4 Try.underlying33 hi hz hsize _ _ _ N rfl rfl rfl hb1 hb2 hB ?_)
      intro w1 ho1 hg1
      obtain ⟨r1, r2, r3⟩ := room_made (r := r) hL ⟨hg1.os, hg1.tape, hg1.output, hg1.size, hg1.block⟩ ho1 hb3 hb4
      have hc1 := World.grownBy.cell (a := ⟨L, r, none⟩) hg1 hc (by simp)
      have hf1 : w1.frozen? ⟨L, r, none⟩ = false := (World.frozen?_of_block (hg1.block L (Array.getElem?_eq_some_iff.1 hL).1 (by simp))).trans hf
      go_wp2
      go_end0
      exact ⟨_, _, rfl, r1, r2, r3⟩

set_option maxHeartbeats 4000000 in
set_option maxRecDepth 10000 in
/-- makeRoomIn, of bytes -/
theorem f32 (B L r need lim : Nat) (cs : Array Value) (t : Nat) (h : Value) (w : World) (hL : w.heap[L]? = some (.cells cs t (0, 0))) (hr : cs[r]? = some h) (hh : Hd B w 5 1 h) (hB : B ≤ w.heap.size) (hn : need ≤ 1048576) (h1 : 0 < lim) (h2 : lim ≤ 16384) :
    Calls Try.prog 32 #[.pointer (some ⟨L, r, none⟩), .int .i64 need, .int .i64 lim] w fun e w' =>
      ∃ x h', e = .returned x ∧ Room B w' 5 1 h' need ∧ w'.heap[L]? = some (.cells (cs.setIfInBounds r h') t (0, 0)) ∧ w.grownBy w' (some L) := by
  have hc : w.cell? ⟨L, r, none⟩ = some h := by rw [cell_of_row w L r cs t (0, 0) hL]; exact hr
  have hf := frozen_of_row w L r cs t hL
  have he := fun (w : World) (a : Option Addr) (n c : Nat) => run_neq_slice_nil (P := Try.prog) w 48 5 a n c Try.underlying48
  obtain ⟨i, hi, hz, hsize, hby⟩ := info_parts info5
  rcases hh with rfl | ⟨g, n, c, xs, rfl, hown, hcm⟩
  · obtain ⟨N, hN⟩ : ∃ N : Nat, N = need := ⟨_, rfl⟩
    have hb1 : i.bytes * N ≤ 281474976710656 := by rw [hby]; omega
    have hb2 : N ≤ maxLen := by unfold maxLen; omega
    have hb3 : N ≤ 1048576 := by omega
    have hb4 : need ≤ N := by omega
    have hNN : max (need : Int) (min 0 (lim : Int)) = (N : Int) := by omega
    clear hN
    go_enter Try.func32, Try.ntmps32
    go_wp2
    go_quiet (fail)
    go_wp2_with (at_make; refine wpList_make_own _ rfl _ _ 48 rfl B 5 i _ 1 Try.underlying48 hi hz hsize _ _ _ N rfl rfl rfl hb1 hb2 hB ?_)
    intro w1 ho1 hg1
    obtain ⟨r1, r2, r3⟩ := room_made (r := r) hL ⟨hg1.os, hg1.tape, hg1.output, hg1.size, hg1.block⟩ ho1 hb3 hb4
    have hc1 := World.grownBy.cell (a := ⟨L, r, none⟩) hg1 hc (by simp)
    have hf1 : w1.frozen? ⟨L, r, none⟩ = false := (World.frozen?_of_block (hg1.block L (Array.getElem?_eq_some_iff.1 hL).1 (by simp))).trans hf
    go_wp2
    go_end0
    exact ⟨_, _, rfl, r1, r2, r3⟩
  · have hnc : n ≤ c := by
      rcases hown.2 with ⟨h0, -⟩ | ⟨g', c', cur, h0, -, -, hle, -⟩
      · cases h0
      · cases h0; exact hle
    by_cases hroom : n + need ≤ c
    · have hd : decide ((need : Int) ≤ (c : Int) - n) = true := by simp; omega
      go_enter Try.func32, Try.ntmps32
      go_wp2
      go_quiet (fail)
      go_wp2
      (try simp only [Exit.inBlock, Exit.then]); refine bodyPost_ret (results_none rfl _ _ _) rfl ?_
      exact ⟨_, _, rfl, ⟨g, n, c, xs, rfl, hown, hcm, hroom⟩, by rw [set_id hr]; exact hL, ⟨rfl, rfl, rfl, Nat.le_refl _, fun _ _ _ => rfl⟩⟩
    · have hd : decide ((need : Int) ≤ (c : Int) - n) = false := by simp; omega
      obtain ⟨N, hN⟩ : ∃ N : Nat, N = max need (min (2 * c) lim) := ⟨_, rfl⟩
      have hb1 : i.bytes * N ≤ 281474976710656 := by rw [hby]; omega
      have hb2 : N ≤ maxLen := by unfold maxLen; omega
      have hb3 : N ≤ 1048576 := by omega
      have hb4 : need ≤ N := by omega
      have hNN : max (need : Int) (min (2 * (c : Int)) (lim : Int)) = (N : Int) := by omega
      clear hN
      go_enter Try.func32, Try.ntmps32
      go_wp2
      go_quiet (fail)
      go_wp2_with (at_make; refine wpList_make_own _ rfl _ _ 48 rfl B 5 i _ 1 Try.underlying48 hi hz hsize _ _ _ N rfl rfl rfl hb1 hb2 hB ?_)
      intro w1 ho1 hg1
      obtain ⟨r1, r2, r3⟩ := room_made (r := r) hL ⟨hg1.os, hg1.tape, hg1.output, hg1.size, hg1.block⟩ ho1 hb3 hb4
      have hc1 := World.grownBy.cell (a := ⟨L, r, none⟩) hg1 hc (by simp)
      have hf1 : w1.frozen? ⟨L, r, none⟩ = false := (World.frozen?_of_block (hg1.block L (Array.getElem?_eq_some_iff.1 hL).1 (by simp))).trans hf
      go_wp2
      go_end0
      exact ⟨_, _, rfl, r1, r2, r3⟩

end Go.Proofs.Qxb6618675a.walks
