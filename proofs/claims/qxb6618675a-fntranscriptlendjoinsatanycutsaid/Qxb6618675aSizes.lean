import Derived.Test.Qxb6618675aToMsg
namespace Go.Proofs.Qxb6618675a.walks
open Go.RowKit Go.Proofs.Qxb6618675a.mem

theorem size74 : (Try.prog.info? 74).map (·.size) = some 4 := by kernel_rfl
def four (a b c d : Nat) : Array Value := #[.int .i64 a, .int .i64 b, .int .i64 c, .int .i64 d]
/-- the two boxes of sizesOf -/
structure Sx (N : Nat) (W : World) (a b c d : Nat) : Prop where
  b0 : W.heap[N]? = some (.cells (four 0 0 0 0) 74 (0, 0))
  b1 : W.heap[N + 1]? = some (.cells (four a b c d) 74 (0, 0))
section
variable {N : Nat} {W W' : World} {a b c d : Nat}
theorem Sx.kept (h : Sx N W a b c d) (hg : W.grownBy W' none) : Sx N W' a b c d :=
  ⟨(hg.block N (Array.getElem?_eq_some_iff.1 h.b0).1 (by simp)).trans h.b0, (hg.block (N + 1) (Array.getElem?_eq_some_iff.1 h.b1).1 (by simp)).trans h.b1⟩
theorem Sx.set1 (h : Sx N W a b c d) (z : Int) (b' : Nat) (hz : z = b') : Sx N (W.setCell ⟨N + 1, 1, none⟩ (.int .i64 z)) a b' c d := by
  subst hz
  exact ⟨(heap_setCell_other W ⟨N + 1, 1, none⟩ N _ (by show N ≠ N + 1; omega)).trans h.b0, heap_setCell_same W (N + 1) 1 _ 74 _ h.b1⟩
theorem Sx.set2 (h : Sx N W a b c d) (z : Int) (b' : Nat) (hz : z = b') : Sx N (W.setCell ⟨N + 1, 2, none⟩ (.int .i64 z)) a b b' d := by
  subst hz
  exact ⟨(heap_setCell_other W ⟨N + 1, 2, none⟩ N _ (by show N ≠ N + 1; omega)).trans h.b0, heap_setCell_same W (N + 1) 2 _ 74 _ h.b1⟩
theorem Sx.set3 (h : Sx N W a b c d) (z : Int) (b' : Nat) (hz : z = b') : Sx N (W.setCell ⟨N + 1, 3, none⟩ (.int .i64 z)) a b c b' := by
  subst hz
  exact ⟨(heap_setCell_other W ⟨N + 1, 3, none⟩ N _ (by show N ≠ N + 1; omega)).trans h.b0, heap_setCell_same W (N + 1) 3 _ 74 _ h.b1⟩
theorem Sx.at1 (h : Sx N W a b c d) (j : Nat) {u : Value} (hu : (four a b c d)[j]? = some u) : W.cell? ⟨N + 1, j, none⟩ = some u := by rw [cell_of_row W (N + 1) j _ 74 (0, 0) h.b1]; exact hu
theorem Sx.fz1 (h : Sx N W a b c d) (j : Nat) : W.frozen? ⟨N + 1, j, none⟩ = false := frozen_of_row W (N + 1) j _ 74 h.b1
theorem Sx.at0 (h : Sx N W a b c d) (j : Nat) {u : Value} (hu : (four 0 0 0 0)[j]? = some u) : W.cell? ⟨N, j, none⟩ = some u := by rw [cell_of_row W N j _ 74 (0, 0) h.b0]; exact hu
theorem Sx.fz0 (h : Sx N W a b c d) (j : Nat) : W.frozen? ⟨N, j, none⟩ = false := frozen_of_row W N j _ 74 h.b0
theorem Sx.new (w : World) (a : Nat) : Sx w.heap.size ((w.alloc (.cells (four 0 0 0 0) 74)).alloc (.cells (four a 0 0 0) 74)) a 0 0 0 := by
  refine ⟨?_, ?_⟩
  · rw [heap_alloc_old _ _ (by simp), heap_alloc_new]
  · have := heap_alloc_new (w.alloc (.cells (four 0 0 0 0) 74)) (.cells (four a 0 0 0) 74)
    simpa using this
end

set_option maxHeartbeats 4000000 in
set_option maxRecDepth 10000 in
/-- sizesOf -/
theorem f22 (B : Nat) (v : Value) (x : Option (List Msg)) (w : World) (h : RM w B v x) (hb : bulk (x.getD []) ≤ 1048576) :
    Calls Try.prog 22 #[v] w fun e w' => e = .returned (.agg (four (x.getD []).length (nC (x.getD [])) (nR (x.getD [])) (nA (x.getD [])))) ∧ w.grownBy w' none := by
  obtain ⟨a, n, c, rfl, hn, hlc, hcm, -, -, hat⟩ := RL.form h
  clear h
  obtain ⟨l, hl⟩ : ∃ l, l = x.getD [] := ⟨_, rfl⟩
  rw [← hl] at hn hb hat ⊢
  clear hl
  have hle1 : l.length ≤ n := by omega
  have hle2 : n ≤ l.length := by omega
  clear hn
  unfold bulk at hb
  go_enter Try.func22, Try.ntmps22
  go_wp2
  have hs0 := Sx.new w n
  go_loopw [13] (fun t wr => ∃ k : Nat, t = .int .i64 k ∧ k ≤ n ∧ Sx w.heap.size wr n (nC (l.take k)) (nR (l.take k)) (nA (l.take k)) ∧ w.grownBy wr none) (fun t _ => n - (intOf t).toNat)
  case atStart => exact ⟨0, rfl, Nat.zero_le _, hs0, (ga _ _).trans (ga _ _)⟩
  case round =>
    obtain ⟨k, rfl, hk, hs, hg⟩ := hrel
    by_cases hlt : k < n
    · obtain ⟨m, b, o, hm, rfl, hbB, hmsg⟩ := hat k hlt
      obtain ⟨v3, v4, e0, e1, e2, e3, e4, r3, r4, z1, z2, z3⟩ := hmsg
      have e0 := hg.cell e0 (by simp)
      have e1 := hg.cell e1 (by simp)
      have e2 := hg.cell e2 (by simp)
      have e3 := hg.cell e3 (by simp)
      have e4 := hg.cell e4 (by simp)
      clear hat
      obtain ⟨a3, n3, c3, rfl, hn3, l3, m3, -, -, hat3⟩ := RL.form r3
      obtain ⟨a4, n4, c4, rfl, hn4, l4, m4, -, -, -⟩ := RL.form r4
      clear r3 r4
      have hC := sum_take (fun m => (callsOf m).length) l k hm
      have hR := sum_take (fun m => (resOf m).length) l k hm
      have hA := sum_take (fun m => cSum (callsOf m)) l k hm
      have hC' := sum_split (fun m => (callsOf m).length) l (k + 1)
      have hR' := sum_split (fun m => (resOf m).length) l (k + 1)
      have hA' := sum_split (fun m => cSum (callsOf m)) l (k + 1)
      change nC (l.take (k + 1)) = nC (l.take k) + (callsOf m).length at hC
      change nR (l.take (k + 1)) = nR (l.take k) + (resOf m).length at hR
      change nA (l.take (k + 1)) = nA (l.take k) + cSum (callsOf m) at hA
      change nC l = nC (l.take (k + 1)) + _ at hC'
      change nR l = nR (l.take (k + 1)) + _ at hR'
      change nA l = nA (l.take (k + 1)) + _ at hA'
      change (callsOf m).length = n3 at hn3
      change (resOf m).length = n4 at hn4
      obtain ⟨p1, hp1⟩ : ∃ p, p = nC (l.take k) := ⟨_, rfl⟩
      obtain ⟨p2, hp2⟩ : ∃ p, p = nR (l.take k) := ⟨_, rfl⟩
      obtain ⟨p3, hp3⟩ : ∃ p, p = nA (l.take k) := ⟨_, rfl⟩
      rw [← hp1, ← hp2, ← hp3] at hs
      rw [← hp1] at hC
      rw [← hp2] at hR
      rw [← hp3] at hA
      have b1 : p1 + n3 ≤ 1048576 := by omega
      have b2 : p2 + n4 ≤ 1048576 := by omega
      have b3 : p3 + cSum (callsOf m) ≤ 1048576 := by omega
      obtain ⟨s1, hr1⟩ : ∃ s, s = m.role := ⟨_, rfl⟩
      obtain ⟨s2, hr2⟩ : ∃ s, s = m.text := ⟨_, rfl⟩
      obtain ⟨s3, hr3⟩ : ∃ s, s = m.refusal := ⟨_, rfl⟩
      rw [← hr1] at z1 e0
      rw [← hr2] at z2 e1
      rw [← hr3] at z3 e2
      have hlt' : w.heap.size + 1 < wr.heap.size := (Array.getElem?_eq_some_iff.1 hs.b1).1
      have q1 : ¬ wr.heap.size = w.heap.size + 1 := by omega
      have q2 : ¬ w.heap.size + 1 = wr.heap.size := by omega
      have hs1 := hs.set1 (p1 + n3) (p1 + n3) (by omega)
      have hs2 := hs1.set2 (p2 + n4) (p2 + n4) (by omega)
      have t1 : ∀ o, (wr.alloc o).cell? ⟨w.heap.size + 1, 1, none⟩ = some (.int .i64 p1) := fun o => (hs.kept (ga _ o)).at1 1 rfl
      have f1 : ∀ o, (wr.alloc o).frozen? ⟨w.heap.size + 1, 1, none⟩ = false := fun o => (hs.kept (ga _ o)).fz1 1
      have t2 : ∀ o, ((wr.setCell ⟨w.heap.size + 1, 1, none⟩ (.int .i64 (p1 + n3))).alloc o).cell? ⟨w.heap.size + 1, 2, none⟩ = some (.int .i64 p2) := fun o => (hs1.kept (ga _ o)).at1 2 rfl
      have f2 : ∀ o, ((wr.setCell ⟨w.heap.size + 1, 1, none⟩ (.int .i64 (p1 + n3))).alloc o).frozen? ⟨w.heap.size + 1, 2, none⟩ = false := fun o => (hs1.kept (ga _ o)).fz1 2
      have hN : w.heap.size ≤ w.heap.size + 1 := by omega
      have hg2 := gb_set (gb_set hg (a := ⟨w.heap.size + 1, 1, none⟩) hN (.int .i64 (p1 + n3))) (a := ⟨w.heap.size + 1, 2, none⟩) hN (.int .i64 (p2 + n4))
      clear hr1 hr2 hr3 hs1 hC' hR' hA' hs hp1 hp2 hp3
      rw [hn3] at hC
      rw [hn4] at hR
      rw [← hC, ← hR] at hs2
      go_wp2
      go_loopw [34] (fun t wq => ∃ j : Nat, t = .int .i64 j ∧ j ≤ n3 ∧ Sx w.heap.size wq n (nC (l.take (k + 1))) (nR (l.take (k + 1))) (p3 + cSum ((callsOf m).take j)) ∧ w.grownBy wq none) (fun t _ => n3 - (intOf t).toNat)
      case atStart => exact ⟨0, rfl, Nat.zero_le _, hs2.kept (ga _ _), hg2.trans (ga _ _)⟩
      case round =>
        clear hg hg2 hs2 e0 e1 e2 e3 e4 t1 t2 f1 f2 q1 q2 hlt'
        obtain ⟨j, rfl, hj, hs, hg⟩ := hrel
        by_cases hjt : j < n3
        · obtain ⟨q, b3, o3, hq, rfl, hb3, hcall⟩ := hat3 j hjt
          obtain ⟨v2, g0, g1, g2, r2, y1, y2⟩ := hcall
          have g0 := hg.cell g0 (by simp)
          have g1 := hg.cell g1 (by simp)
          have g2 := hg.cell g2 (by simp)
          obtain ⟨a2, n2, c2, rfl, hn2, l2, m2, -, -, -⟩ := RL.form r2
          clear r2 hat3
          have hq1 := sum_take Call.bulk (callsOf m) j hq
          have hq2 := sum_split Call.bulk (callsOf m) (j + 1)
          change cSum ((callsOf m).take (j + 1)) = cSum ((callsOf m).take j) + q.bulk at hq1
          change cSum (callsOf m) = cSum ((callsOf m).take (j + 1)) + _ at hq2
          change q.bulk = n2 at hn2
          obtain ⟨p4, hp4⟩ : ∃ p, p = cSum ((callsOf m).take j) := ⟨_, rfl⟩
          rw [← hp4] at hs hq1
          have b4 : p3 + p4 + n2 ≤ 1048576 := by omega
          have hs3 := hs.set3 ((p3 + p4 : Nat) + n2) (p3 + cSum ((callsOf m).take (j + 1))) (by omega)
          have t3 : ∀ o, (wr.alloc o).cell? ⟨w.heap.size + 1, 3, none⟩ = some (.int .i64 (p3 + p4 : Nat)) := fun o => (hs.kept (ga _ o)).at1 3 rfl
          have f3 : ∀ o, (wr.alloc o).frozen? ⟨w.heap.size + 1, 3, none⟩ = false := fun o => (hs.kept (ga _ o)).fz1 3
          have hlt' : w.heap.size + 1 < wr.heap.size := (Array.getElem?_eq_some_iff.1 hs.b1).1
          have q1 : ¬ wr.heap.size = w.heap.size + 1 := by omega
          have q2 : ¬ w.heap.size + 1 = wr.heap.size := by omega
          have hg3 := gb_set hg (a := ⟨w.heap.size + 1, 3, none⟩) hN (.int .i64 ((p3 + p4 : Nat) + n2))
          obtain ⟨t1, ht1⟩ : ∃ s, s = q.id := ⟨_, rfl⟩
          obtain ⟨t2, ht2⟩ : ∃ s, s = q.name := ⟨_, rfl⟩
          rw [← ht1] at y1 g0
          rw [← ht2] at y2 g1
          obtain ⟨p5, hp5⟩ : ∃ p, p = p3 + p4 := ⟨_, rfl⟩
          rw [← hp5] at hs3 t3 hg3 b4
          clear ht1 ht2 hq1 hq2 hp4 hs hp5
          go_wp2
          go_roundw
          case rel => exact ⟨j + 1, by go_num, by omega, hs3.kept (ga _ _), hg3.trans (ga _ _)⟩
          case measure => simp [intOf]; omega
        · obtain rfl : j = n3 := by omega
          rw [List.take_of_length_le (l := callsOf m) (i := j) (by omega), ← hA] at hs
          clear hat3
          go_wp2
          go_roundw
          case rel => exact ⟨k + 1, by go_num, by omega, hs, hg⟩
          case measure => simp [intOf]; omega
    · obtain rfl : k = n := by omega
      have hlen : l.length = k := by omega
      rw [List.take_of_length_le (by omega)] at hs
      have u0 := hs.at1 0 (u := .int .i64 (k : Nat)) rfl
      have u1 := hs.at1 1 (u := .int .i64 ((nC l) : Nat)) rfl
      have u2 := hs.at1 2 (u := .int .i64 ((nR l) : Nat)) rfl
      have u3 := hs.at1 3 (u := .int .i64 ((nA l) : Nat)) rfl
      have p0 := hs.at0 0 (u := .int .i64 0) rfl
      have p1 := hs.at0 1 (u := .int .i64 0) rfl
      have p2 := hs.at0 2 (u := .int .i64 0) rfl
      have p3 := hs.at0 3 (u := .int .i64 0) rfl
      have f0 := hs.fz0 0
      have f1 := hs.fz0 1
      have f2 := hs.fz0 2
      have f3 := hs.fz0 3
      have hrow := heap_setCell_same _ w.heap.size 3 _ 74 (.int .i64 (nA l)) (heap_setCell_same _ w.heap.size 2 _ 74 (.int .i64 (nR l)) (heap_setCell_same _ w.heap.size 1 _ 74 (.int .i64 (nC l)) (heap_setCell_same wr w.heap.size 0 _ 74 (.int .i64 k) hs.b0)))
      have hset : ∀ {W : World} {j : Nat} {u : Value}, w.grownBy W none → w.grownBy (W.setCell ⟨w.heap.size, j, none⟩ u) none := fun h => gb_set h (Nat.le_refl _) _
      go_wp2
      exact bodyPost_ret (v := .agg (four k (nC l) (nR l) (nA l))) (results_cell Try.results22 rfl hrow Try.underlying74 rfl size74) rfl ⟨by rw [hlen], hset (hset (hset (hset hg)))⟩
end Go.Proofs.Qxb6618675a.walks
