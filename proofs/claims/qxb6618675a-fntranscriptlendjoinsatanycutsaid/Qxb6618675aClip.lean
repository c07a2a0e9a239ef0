import Derived.Test.Qxb6618675aToMsg
namespace Go.Proofs.Qxb6618675a.walks
open Go.RowKit Go.Proofs.Qxb6618675a.mem

/-- nothing that was there has turned but the blocks L and g -/
structure Two (L g : Nat) (w w' : World) : Prop where
  os : w'.os = w.os
  tape : w'.tape = w.tape
  output : w'.output = w.output
  size : w.heap.size ≤ w'.heap.size
  block : ∀ k, k < w.heap.size → k ≠ L → k ≠ g → w'.heap[k]? = w.heap[k]?

theorem clip_fin {B L r g n c m t e sz : Nat} {cs : Array Value} {xs news : List Value} {w w1 : World} (hL : w1.heap[L]? = some (.cells cs t (0, 0))) (hgL : g ≠ L)
    (hown : w1.ownsRow B e sz (.slice (some ⟨g, 0, none⟩) (n + m) c) (n + m) (xs ++ news)) (hg : w.grownBy w1 (some g)) :
    (w1.setCell ⟨L, r, none⟩ (.slice (some ⟨g, 0, none⟩) (n + m) c)).heap[L]? = some (.cells (cs.setIfInBounds r (.slice (some ⟨g, 0, none⟩) (n + m) c)) t (0, 0)) ∧
    (w1.setCell ⟨L, r, none⟩ (.slice (some ⟨g, 0, none⟩) (n + m) c)).ownsRow B e sz (.slice (some ⟨g, 0, none⟩) (n + m) c) (n + m) (xs ++ news) ∧
    Two L g w (w1.setCell ⟨L, r, none⟩ (.slice (some ⟨g, 0, none⟩) (n + m) c)) := by
  have hs : w1.grownBy (w1.setCell ⟨L, r, none⟩ (.slice (some ⟨g, 0, none⟩) (n + m) c)) (some L) :=
    ⟨rfl, rfl, rfl, by simp, fun k _ hk => heap_setCell_other w1 ⟨L, r, none⟩ k _ (fun e => hk (by simp [e]))⟩
  refine ⟨heap_setCell_same w1 L r cs t _ hL, hown.kept hs (Or.inr (by simp [Value.ownBlock]; exact hgL)), ?_⟩
  exact ⟨hs.os.trans hg.os, hs.tape.trans hg.tape, hs.output.trans hg.output, Nat.le_trans hg.size hs.size, fun k hk h1 h2 => (hs.block k (Nat.lt_of_lt_of_le hk hg.size) (by simpa using h1)).trans (hg.block k hk (by simpa using h2))⟩
theorem Two.drewN {L g : Nat} {w w' : World} (h : Two L g w w') (n : Nat) : Two L g w (w'.drewN n) := ⟨h.os, h.tape, h.output, h.size, h.block⟩

set_option maxHeartbeats 4000000 in
set_option maxRecDepth 10000 in
/-- appendClipped, of messages -/
theorem f33 (B L r g n c m cc : Nat) (cs : Array Value) (t : Nat) (ad : Addr) (xs news : List Value) (w : World)
    (hL : w.heap[L]? = some (.cells cs t (0, 0))) (hr : cs[r]? = some (.slice (some ⟨g, 0, none⟩) n c)) (hown : w.ownsRow B 35 5 (.slice (some ⟨g, 0, none⟩) n c) n xs)
    (hgL : g ≠ L) (hroom : n + m ≤ c) (hl : news.length = m * 5) (hnews : ∀ j u, news[j]? = some u → w.cell? (ad.add j) = some u) (h1 : ∀ u ∈ news, u.oneCell' = true) :
    Calls Try.prog 33 #[.pointer (some ⟨L, r, none⟩), .slice (some ad) m cc] w fun e w' =>
      ∃ o, e = .returned (.slice (some ⟨g, o, none⟩) m m) ∧ (m ≠ 0 → o = n * 5) ∧ w'.heap[L]? = some (.cells (cs.setIfInBounds r (.slice (some ⟨g, 0, none⟩) (n + m) c)) t (0, 0)) ∧
      w'.ownsRow B 35 5 (.slice (some ⟨g, 0, none⟩) (n + m) c) (n + m) (xs ++ news) ∧ Two L g w w' := by
  have hc0 : w.cell? ⟨L, r, none⟩ = some (.slice (some ⟨g, 0, none⟩) n c) := by rw [cell_of_row w L r cs t (0, 0) hL]; exact hr
  obtain ⟨i, hi, hz, hsize, hby⟩ := info_parts info35
  go_enter Try.func33, Try.ntmps33
  go_wp2_with (at_builtin; refine wpList_append_own_spare _ rfl _ _ 25 rfl B 35 i 5 Try.underlying25 hi hsize g n c _ rfl hown ad m cc news rfl hl hnews h1 hroom ?_)
  intro w1 hown1 hg1
  have hL1 : w1.heap[L]? = some (.cells cs t (0, 0)) := (hg1.block L (Array.getElem?_eq_some_iff.1 hL).1 (by simp; omega)).trans hL
  have hc1 : w1.cell? ⟨L, r, none⟩ = some (.slice (some ⟨g, 0, none⟩) n c) := by rw [cell_of_row w1 L r cs t (0, 0) hL1]; exact hr
  have hf1 := frozen_of_row w1 L r cs t hL1
  obtain ⟨r1, r2, r3⟩ := clip_fin (r := r) hL1 hgL hown1 hg1
  rcases Nat.eq_zero_or_pos m with hm0 | hm0
  · subst hm0
    go_wp2
    go_quiet (fail)
    go_wp2
    go_ret
    exact ⟨0, rfl, fun h => absurd rfl h, r1, r2, r3.drewN _⟩
  · have hne : ¬ m = 0 := by omega
    have hne2 : ¬ n + m = n := by omega
    have hnm : n + m - n = m := by omega
    go_wp2
    go_quiet (fail)
    go_wp2
    go_ret
    refine ⟨n * 5, by show Ending.returned (.slice (some ⟨g, n * 5, none⟩) (n + m - n) (n + m - n)) = _; rw [hnm], fun _ => by omega, r1, r2, r3.drewN _⟩

set_option maxHeartbeats 4000000 in
set_option maxRecDepth 10000 in
/-- appendClipped, of calls -/
theorem f34 (B L r g n c m cc : Nat) (cs : Array Value) (t : Nat) (ad : Addr) (xs news : List Value) (w : World)
    (hL : w.heap[L]? = some (.cells cs t (0, 0))) (hr : cs[r]? = some (.slice (some ⟨g, 0, none⟩) n c)) (hown : w.ownsRow B 69 3 (.slice (some ⟨g, 0, none⟩) n c) n xs)
    (hgL : g ≠ L) (hroom : n + m ≤ c) (hl : news.length = m * 3) (hnews : ∀ j u, news[j]? = some u → w.cell? (ad.add j) = some u) (h1 : ∀ u ∈ news, u.oneCell' = true) :
    Calls Try.prog 34 #[.pointer (some ⟨L, r, none⟩), .slice (some ad) m cc] w fun e w' =>
      ∃ o, e = .returned (.slice (some ⟨g, o, none⟩) m m) ∧ (m ≠ 0 → o = n * 3) ∧ w'.heap[L]? = some (.cells (cs.setIfInBounds r (.slice (some ⟨g, 0, none⟩) (n + m) c)) t (0, 0)) ∧
      w'.ownsRow B 69 3 (.slice (some ⟨g, 0, none⟩) (n + m) c) (n + m) (xs ++ news) ∧ Two L g w w' := by
  have hc0 : w.cell? ⟨L, r, none⟩ = some (.slice (some ⟨g, 0, none⟩) n c) := by rw [cell_of_row w L r cs t (0, 0) hL]; exact hr
  obtain ⟨i, hi, hz, hsize, hby⟩ := info_parts info69
  go_enter Try.func34, Try.ntmps34
  go_wp2_with (at_builtin; refine wpList_append_own_spare _ rfl _ _ 32 rfl B 69 i 3 Try.underlying32 hi hsize g n c _ rfl hown ad m cc news rfl hl hnews h1 hroom ?_)
  intro w1 hown1 hg1
  have hL1 : w1.heap[L]? = some (.cells cs t (0, 0)) := (hg1.block L (Array.getElem?_eq_some_iff.1 hL).1 (by simp; omega)).trans hL
  have hc1 : w1.cell? ⟨L, r, none⟩ = some (.slice (some ⟨g, 0, none⟩) n c) := by rw [cell_of_row w1 L r cs t (0, 0) hL1]; exact hr
  have hf1 := frozen_of_row w1 L r cs t hL1
  obtain ⟨r1, r2, r3⟩ := clip_fin (r := r) hL1 hgL hown1 hg1
  rcases Nat.eq_zero_or_pos m with hm0 | hm0
  · subst hm0
    go_wp2
    go_quiet (fail)
    go_wp2
    go_ret
    exact ⟨0, rfl, fun h => absurd rfl h, r1, r2, r3.drewN _⟩
  · have hne : ¬ m = 0 := by omega
    have hne2 : ¬ n + m = n := by omega
    have hnm : n + m - n = m := by omega
    go_wp2
    go_quiet (fail)
    go_wp2
    go_ret
    refine ⟨n * 3, by show Ending.returned (.slice (some ⟨g, n * 3, none⟩) (n + m - n) (n + m - n)) = _; rw [hnm], fun _ => by omega, r1, r2, r3.drewN _⟩

set_option maxHeartbeats 4000000 in
set_option maxRecDepth 10000 in
/-- appendClipped, of bytes -/
theorem f35 (B L r g n c m cc : Nat) (cs : Array Value) (t : Nat) (ad : Addr) (xs news : List Value) (w : World)
    (hL : w.heap[L]? = some (.cells cs t (0, 0))) (hr : cs[r]? = some (.slice (some ⟨g, 0, none⟩) n c)) (hown : w.ownsRow B 5 1 (.slice (some ⟨g, 0, none⟩) n c) n xs)
    (hgL : g ≠ L) (hroom : n + m ≤ c) (hl : news.length = m * 1) (hnews : ∀ j u, news[j]? = some u → w.cell? (ad.add j) = some u) (h1 : ∀ u ∈ news, u.oneCell' = true) :
    Calls Try.prog 35 #[.pointer (some ⟨L, r, none⟩), .slice (some ad) m cc] w fun e w' =>
      ∃ o, e = .returned (.slice (some ⟨g, o, none⟩) m m) ∧ (m ≠ 0 → o = n * 1) ∧ w'.heap[L]? = some (.cells (cs.setIfInBounds r (.slice (some ⟨g, 0, none⟩) (n + m) c)) t (0, 0)) ∧
      w'.ownsRow B 5 1 (.slice (some ⟨g, 0, none⟩) (n + m) c) (n + m) (xs ++ news) ∧ Two L g w w' := by
  have hc0 : w.cell? ⟨L, r, none⟩ = some (.slice (some ⟨g, 0, none⟩) n c) := by rw [cell_of_row w L r cs t (0, 0) hL]; exact hr
  obtain ⟨i, hi, hz, hsize, hby⟩ := info_parts info5
  go_enter Try.func35, Try.ntmps35
  go_wp2_with (at_builtin; refine wpList_append_own_spare _ rfl _ _ 48 rfl B 5 i 1 Try.underlying48 hi hsize g n c _ rfl hown ad m cc news rfl hl hnews h1 hroom ?_)
  intro w1 hown1 hg1
  have hL1 : w1.heap[L]? = some (.cells cs t (0, 0)) := (hg1.block L (Array.getElem?_eq_some_iff.1 hL).1 (by simp; omega)).trans hL
  have hc1 : w1.cell? ⟨L, r, none⟩ = some (.slice (some ⟨g, 0, none⟩) n c) := by rw [cell_of_row w1 L r cs t (0, 0) hL1]; exact hr
  have hf1 := frozen_of_row w1 L r cs t hL1
  obtain ⟨r1, r2, r3⟩ := clip_fin (r := r) hL1 hgL hown1 hg1
  rcases Nat.eq_zero_or_pos m with hm0 | hm0
  · subst hm0
    go_wp2
    go_quiet (fail)
    go_wp2
    go_ret
    exact ⟨0, rfl, fun h => absurd rfl h, r1, r2, r3.drewN _⟩
  · have hne : ¬ m = 0 := by omega
    have hne2 : ¬ n + m = n := by omega
    have hnm : n + m - n = m := by omega
    go_wp2
    go_quiet (fail)
    go_wp2
    go_ret
    refine ⟨n, by show Ending.returned (.slice (some ⟨g, n, none⟩) (n + m - n) (n + m - n)) = _; rw [hnm], fun _ => by omega, r1, r2, r3.drewN _⟩

set_option maxHeartbeats 4000000 in
set_option maxRecDepth 10000 in
/-- appendClipped, of results -/
theorem f36 (B L r g n c m cc : Nat) (cs : Array Value) (t : Nat) (ad : Addr) (xs news : List Value) (w : World)
    (hL : w.heap[L]? = some (.cells cs t (0, 0))) (hr : cs[r]? = some (.slice (some ⟨g, 0, none⟩) n c)) (hown : w.ownsRow B 71 4 (.slice (some ⟨g, 0, none⟩) n c) n xs)
    (hgL : g ≠ L) (hroom : n + m ≤ c) (hl : news.length = m * 4) (hnews : ∀ j u, news[j]? = some u → w.cell? (ad.add j) = some u) (h1 : ∀ u ∈ news, u.oneCell' = true) :
    Calls Try.prog 36 #[.pointer (some ⟨L, r, none⟩), .slice (some ad) m cc] w fun e w' =>
      ∃ o, e = .returned (.slice (some ⟨g, o, none⟩) m m) ∧ (m ≠ 0 → o = n * 4) ∧ w'.heap[L]? = some (.cells (cs.setIfInBounds r (.slice (some ⟨g, 0, none⟩) (n + m) c)) t (0, 0)) ∧
      w'.ownsRow B 71 4 (.slice (some ⟨g, 0, none⟩) (n + m) c) (n + m) (xs ++ news) ∧ Two L g w w' := by
  have hc0 : w.cell? ⟨L, r, none⟩ = some (.slice (some ⟨g, 0, none⟩) n c) := by rw [cell_of_row w L r cs t (0, 0) hL]; exact hr
  obtain ⟨i, hi, hz, hsize, hby⟩ := info_parts info71
  go_enter Try.func36, Try.ntmps36
  go_wp2_with (at_builtin; refine wpList_append_own_spare _ rfl _ _ 33 rfl B 71 i 4 Try.underlying33 hi hsize g n c _ rfl hown ad m cc news rfl hl hnews h1 hroom ?_)
  intro w1 hown1 hg1
  have hL1 : w1.heap[L]? = some (.cells cs t (0, 0)) := (hg1.block L (Array.getElem?_eq_some_iff.1 hL).1 (by simp; omega)).trans hL
  have hc1 : w1.cell? ⟨L, r, none⟩ = some (.slice (some ⟨g, 0, none⟩) n c) := by rw [cell_of_row w1 L r cs t (0, 0) hL1]; exact hr
  have hf1 := frozen_of_row w1 L r cs t hL1
  obtain ⟨r1, r2, r3⟩ := clip_fin (r := r) hL1 hgL hown1 hg1
  rcases Nat.eq_zero_or_pos m with hm0 | hm0
  · subst hm0
    go_wp2
    go_quiet (fail)
    go_wp2
    go_ret
    exact ⟨0, rfl, fun h => absurd rfl h, r1, r2, r3.drewN _⟩
  · have hne : ¬ m = 0 := by omega
    have hne2 : ¬ n + m = n := by omega
    have hnm : n + m - n = m := by omega
    go_wp2
    go_quiet (fail)
    go_wp2
    go_ret
    refine ⟨n * 4, by show Ending.returned (.slice (some ⟨g, n * 4, none⟩) (n + m - n) (n + m - n)) = _; rw [hnm], fun _ => by omega, r1, r2, r3.drewN _⟩

end Go.Proofs.Qxb6618675a.walks
