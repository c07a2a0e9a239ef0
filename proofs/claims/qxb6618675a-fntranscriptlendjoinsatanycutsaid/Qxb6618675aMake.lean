import Derived.Test.Qxb6618675aNew
import Derived.Test.Qxb6618675aSizes
import Derived.Test.Qxb6618675aRoom
import Derived.Deep.RegionLaw
namespace Go.Proofs.Qxb6618675a.walks
open Go.RowKit Go.Proofs.Qxb6618675a.mem

section
variable {B L g n c e sz t : Nat} {w w' : World} {xs : List Value} {cs : Array Value} {h : Value}
theorem ne_of_own (ho : w.ownsRow B e sz (.slice (some ⟨g, 0, none⟩) n c) n xs) (hL : w.heap[L]? = some (.cells cs t (0, 0))) (he : e ≠ t) : g ≠ L := by
  rintro rfl
  rcases ho.2 with ⟨h0, -⟩ | ⟨g', c', cur, h0, -, hg, -⟩
  · cases h0
  · cases h0
    rw [hL] at hg
    cases hg
    exact he rfl
theorem own_keep (ho : w.ownsRow B e sz (.slice (some ⟨g, 0, none⟩) n c) n xs) (hg : w.grownBy w' (some L)) (hL : w.heap[L]? = some (.cells cs t (0, 0))) (he : e ≠ t) : w'.ownsRow B e sz (.slice (some ⟨g, 0, none⟩) n c) n xs :=
  ho.kept hg (Or.inr (by simpa [Value.ownBlock] using ne_of_own ho hL he))
theorem Hd.keep (hh : Hd B w e sz h) (hg : w.grownBy w' (some L)) (hL : w.heap[L]? = some (.cells cs t (0, 0))) (he : e ≠ t) : Hd B w' e sz h := by
  rcases hh with rfl | ⟨g, n, c, xs, rfl, ho, hc⟩
  · exact .inl rfl
  · exact .inr ⟨g, n, c, xs, rfl, own_keep ho hg hL he, hc⟩
theorem Hd.quiet (hh : Hd B w e sz h) (hg : w.grownBy w' none) : Hd B w' e sz h := by
  rcases hh with rfl | ⟨g, n, c, xs, rfl, ho, hc⟩
  · exact .inl rfl
  · exact .inr ⟨g, n, c, xs, rfl, ho.kept hg (Or.inr (by simp [Value.ownBlock])), hc⟩
theorem Room.keep {need : Nat} (hh : Room B w e sz h need) (hg : w.grownBy w' (some L)) (hL : w.heap[L]? = some (.cells cs t (0, 0))) (he : e ≠ t) : Room B w' e sz h need := by
  obtain ⟨g, n, c, xs, rfl, ho, hc, hr⟩ := hh
  exact ⟨g, n, c, xs, rfl, own_keep ho hg hL he, hc, hr⟩
end
theorem heap_keep {w w' : World} {L k : Nat} {o : Obj} (hg : w.grownBy w' (some L)) (hk : w.heap[k]? = some o) (hne : k ≠ L) : w'.heap[k]? = some o :=
  (hg.block k (Array.getElem?_eq_some_iff.1 hk).1 (by simpa using hne)).trans hk
theorem gbL {w w1 w2 : World} {L : Nat} (h : w.grownBy w1 (some L)) (k : w1.grownBy w2 (some L)) : w.grownBy w2 (some L) :=
  ⟨k.os.trans h.os, k.tape.trans h.tape, k.output.trans h.output, Nat.le_trans h.size k.size, fun j hj hne => (k.block j (Nat.lt_of_lt_of_le hj h.size) hne).trans (h.block j hj hne)⟩

set_option maxHeartbeats 4000000 in
set_option maxRecDepth 10000 in
/-- makeRoom -/
theorem f25 (B L n1 n2 n3 n4 : Nat) (st : Int) (h1 h2 h3 h4 : Value) (w : World) (hL : w.heap[L]? = some (.cells (arena st h1 h2 h3 h4) 64 (0, 0)))
    (hh1 : Hd B w 35 5 h1) (hh2 : Hd B w 69 3 h2) (hh3 : Hd B w 71 4 h3) (hh4 : Hd B w 5 1 h4) (hB : B ≤ w.heap.size) (hn1 : n1 ≤ 1048576) (hn2 : n2 ≤ 1048576) (hn3 : n3 ≤ 1048576) (hn4 : n4 ≤ 1048576) :
    Calls Try.prog 25 #[.pointer (some ⟨L, 2, none⟩), .agg (four n1 n2 n3 n4), .int .i64 256] w fun e w' =>
      ∃ x h1' h2' h3' h4', e = .returned x ∧ w'.heap[L]? = some (.cells (arena st h1' h2' h3' h4') 64 (0, 0)) ∧ Room B w' 35 5 h1' n1 ∧ Room B w' 69 3 h2' n2 ∧ Room B w' 71 4 h3' n3 ∧ Room B w' 5 1 h4' n4 ∧ w.grownBy w' (some L) := by
  obtain ⟨W, hW⟩ : ∃ W, W = w.alloc (.cells (four n1 n2 n3 n4) 74) := ⟨_, rfl⟩
  have hLlt : L < w.heap.size := (Array.getElem?_eq_some_iff.1 hL).1
  have hg0 : w.grownBy W none := by rw [hW]; exact ga _ _
  have hg0' : w.grownBy W (some L) := by rw [hW]; exact World.grownBy_alloc _ _ _
  have hLW : W.heap[L]? = some (.cells (arena st h1 h2 h3 h4) 64 (0, 0)) := (hg0.block L hLlt (by simp)).trans hL
  have hk1 := hh1.quiet hg0
  have hk2 := hh2.quiet hg0
  have hk3 := hh3.quiet hg0
  have hk4 := hh4.quiet hg0
  have hNW : W.heap[w.heap.size]? = some (.cells (four n1 n2 n3 n4) 74 (0, 0)) := by rw [hW]; exact heap_alloc_new w _
  have hBW : B ≤ W.heap.size := Nat.le_trans hB hg0.size
  have hc0 : W.cell? ⟨w.heap.size, 0, none⟩ = some (.int .i64 n1) := by rw [cell_of_row W w.heap.size 0 _ 74 (0, 0) hNW]; rfl
  have hNL : w.heap.size ≠ L := by omega
  go_enter Try.func25, Try.ntmps25
  go_wp2
  change Code.wp _ _ _ _ (w.alloc (.cells (four n1 n2 n3 n4) 74))
  rw [← hW]
  clear hW
  go_region_law (first
    | ((try go_simp); go_at_call 29; refine (f29 B L 2 n1 256 (arena st h1 h2 h3 h4) 64 h1 _ ?_ rfl ?_ ?_ hn1 (by omega) (by omega)).mono ?_; exact hLW; exact hk1; exact hBW; rintro e w1 ⟨x1, h1', rfl, hR1, hL1, hg1⟩))
  have hg1 : W.grownBy w1 (some L) := ⟨hg1.os, hg1.tape, hg1.output, hg1.size, hg1.block⟩
  have hL1 : w1.heap[L]? = some (.cells (arena st h1' h2 h3 h4) 64 (0, 0)) := hL1
  have hk2 := hk2.keep hg1 hLW (by decide)
  have hk3 := hk3.keep hg1 hLW (by decide)
  have hk4 := hk4.keep hg1 hLW (by decide)
  have hN1 := heap_keep hg1 hNW hNL
  have hB1 := Nat.le_trans hBW hg1.size
  have hc1 : w1.cell? ⟨w.heap.size, 1, none⟩ = some (.int .i64 n2) := by rw [cell_of_row w1 w.heap.size 1 _ 74 (0, 0) hN1]; rfl
  have hgA := gbL hg0' hg1
  clear hg1 hLW hk1 hNW hBW hc0 hg0 hg0' hL hh1 hh2 hh3 hh4
  go_wp2
  go_region_law (first
    | ((try go_simp); go_at_call 30; refine (f30 B L 3 n2 256 (arena st h1' h2 h3 h4) 64 h2 _ ?_ rfl ?_ ?_ hn2 (by omega) (by omega)).mono ?_; exact hL1; exact hk2; exact hB1; rintro e w2 ⟨x2, h2', rfl, hR2, hL2, hg2⟩))
  have hg2 : w1.grownBy w2 (some L) := ⟨hg2.os, hg2.tape, hg2.output, hg2.size, hg2.block⟩
  have hL2 : w2.heap[L]? = some (.cells (arena st h1' h2' h3 h4) 64 (0, 0)) := hL2
  have hR1 := hR1.keep hg2 hL1 (by decide)
  have hk3 := hk3.keep hg2 hL1 (by decide)
  have hk4 := hk4.keep hg2 hL1 (by decide)
  have hN2 := heap_keep hg2 hN1 hNL
  have hB2 := Nat.le_trans hB1 hg2.size
  have hc2 : w2.cell? ⟨w.heap.size, 2, none⟩ = some (.int .i64 n3) := by rw [cell_of_row w2 w.heap.size 2 _ 74 (0, 0) hN2]; rfl
  have hgA := gbL hgA hg2
  clear hg2 hL1 hk2 hN1 hB1 hc1
  go_wp2
  go_region_law (first
    | ((try go_simp); go_at_call 31; refine (f31 B L 4 n3 256 (arena st h1' h2' h3 h4) 64 h3 _ ?_ rfl ?_ ?_ hn3 (by omega) (by omega)).mono ?_; exact hL2; exact hk3; exact hB2; rintro e w3 ⟨x3, h3', rfl, hR3, hL3, hg3⟩))
  have hg3 : w2.grownBy w3 (some L) := ⟨hg3.os, hg3.tape, hg3.output, hg3.size, hg3.block⟩
  have hL3 : w3.heap[L]? = some (.cells (arena st h1' h2' h3' h4) 64 (0, 0)) := hL3
  have hR1 := hR1.keep hg3 hL2 (by decide)
  have hR2 := hR2.keep hg3 hL2 (by decide)
  have hk4 := hk4.keep hg3 hL2 (by decide)
  have hN3 := heap_keep hg3 hN2 hNL
  have hB3 := Nat.le_trans hB2 hg3.size
  have hc3 : w3.cell? ⟨w.heap.size, 3, none⟩ = some (.int .i64 n4) := by rw [cell_of_row w3 w.heap.size 3 _ 74 (0, 0) hN3]; rfl
  have hgA := gbL hgA hg3
  clear hg3 hL2 hk3 hN2 hB2 hc2
  go_wp2
  go_region_law (first
    | ((try go_simp); go_at_call 32; refine (f32 B L 5 n4 16384 (arena st h1' h2' h3' h4) 64 h4 _ ?_ rfl ?_ ?_ hn4 (by omega) (by omega)).mono ?_; exact hL3; exact hk4; exact hB3; rintro e w4 ⟨x4, h4', rfl, hR4, hL4, hg4⟩))
  have hg4 : w3.grownBy w4 (some L) := ⟨hg4.os, hg4.tape, hg4.output, hg4.size, hg4.block⟩
  have hL4 : w4.heap[L]? = some (.cells (arena st h1' h2' h3' h4') 64 (0, 0)) := hL4
  have hR1 := hR1.keep hg4 hL3 (by decide)
  have hR2 := hR2.keep hg4 hL3 (by decide)
  have hR3 := hR3.keep hg4 hL3 (by decide)
  have hgA := gbL hgA hg4
  go_wp2
  go_end0
  exact ⟨_, h1', h2', h3', h4', rfl, hL4, hR1, hR2, hR3, hR4, hgA⟩
end Go.Proofs.Qxb6618675a.walks
