import Derived.Test.Qxb6618675aSameB
namespace Go.Proofs.Qxb6618675a.walks
open Go.RowKit Go.Proofs.Qxb6618675a.mem

/-- two slices that read alike -/
theorem pair {α : Type} {At : Nat → Nat → α → Prop} {sz B : Nat} {v u : Value} {x : Option (List α)} (h : RL At sz B v x) (g : RL At sz B u x) :
    ∃ a a' n c c' nb, v = .slice a n c ∧ u = .slice a' n c' ∧ (x.getD []).length = n ∧ a.isNone = nb ∧ a'.isNone = nb ∧
      ∀ i, i < n → ∃ m b o b' o', (x.getD [])[i]? = some m ∧ a = some ⟨b, o, none⟩ ∧ a' = some ⟨b', o', none⟩ ∧ b < B ∧ b' < B ∧ At b (o + i * sz) m ∧ At b' (o' + i * sz) m := by
  obtain ⟨a, n, c, rfl, hn, -, -, hnil, -, hat⟩ := RL.form h
  obtain ⟨a', n', c', rfl, hn', -, -, hnil', -, hat'⟩ := RL.form g
  obtain rfl : n = n' := by omega
  refine ⟨a, a', n, c, c', a.isNone, rfl, rfl, hn, rfl, ?_, fun i hi => ?_⟩
  · cases a with
    | none => rw [hnil'.1 (hnil.2 rfl)]
    | some p => cases a' with
      | none => have := hnil.1 (hnil'.2 rfl); cases this
      | some q => rfl
  · obtain ⟨m, b, o, hm, rfl, hb, h1⟩ := hat i hi
    obtain ⟨m', b', o', hm', rfl, hb', h1'⟩ := hat' i hi
    rw [hm] at hm'
    cases hm'
    exact ⟨m, b, o, b', o', hm, rfl, rfl, hb, hb', h1, h1'⟩

theorem box_kept {w w1 : World} {a : Addr} {v : Value} (h : w.cell? a = some v) (hg : w.grownBy w1 none) : w1.cell? a = some v := hg.cell h (by simp)

set_option maxHeartbeats 4000000 in
set_option maxRecDepth 10000 in
/-- zzb1SameMessage at two messages that read alike -/
theorem f11 (B : Nat) (m : Msg) (v3 v4 u3 u4 : Value) (w : World) (h3 : RC w B v3 m.calls) (h4 : RR w B v4 m.res) (g3 : RC w B u3 m.calls) (g4 : RR w B u4 m.res) (hB : B ≤ w.heap.size)
    (hc : ∀ c ∈ callsOf m, c.bulk ≤ 1048576) (hn : (callsOf m).length ≤ 1048576) (hr : (resOf m).length ≤ 1048576) :
    Calls Try.prog 11 #[.agg #[.string m.role, .string m.text, .string m.refusal, v3, v4], .agg #[.string m.role, .string m.text, .string m.refusal, u3, u4]] w fun e w' => e = .returned (.bool true) ∧ w.grownBy w' none := by
  obtain ⟨a3, a3', n3, c3, c3', nb3, rfl, rfl, hl3, hb3, hb3', hat3⟩ := pair h3 g3
  obtain ⟨a4, a4', n4, c4, c4', nb4, rfl, rfl, hl4, hb4, hb4', hat4⟩ := pair h4 g4
  unfold callsOf at hn hc
  unfold resOf at hr
  rw [hl3] at hn
  rw [hl4] at hr
  clear h3 h4 g3 g4
  have e3 : ∀ w : World, (binOp .eql 32 (.slice a3 n3 c3) (.slice none 0 0)).run Try.prog w = .ok (.bool nb3) w := fun w => by rw [← hb3]; exact Lib.run_eql_slice_nil w 32 69 a3 n3 c3 0 0 Try.underlying32
  have e3' : ∀ w : World, (binOp .eql 38 (.slice a3' n3 c3') (.slice none 0 0)).run Try.prog w = .ok (.bool nb3) w := fun w => by rw [← hb3']; exact Lib.run_eql_slice_nil w 38 50 a3' n3 c3' 0 0 Try.underlying38
  have e4 : ∀ w : World, (binOp .eql 33 (.slice a4 n4 c4) (.slice none 0 0)).run Try.prog w = .ok (.bool nb4) w := fun w => by rw [← hb4]; exact Lib.run_eql_slice_nil w 33 71 a4 n4 c4 0 0 Try.underlying33
  have e4' : ∀ w : World, (binOp .eql 39 (.slice a4' n4 c4') (.slice none 0 0)).run Try.prog w = .ok (.bool nb4) w := fun w => by rw [← hb4']; exact Lib.run_eql_slice_nil w 39 52 a4' n4 c4' 0 0 Try.underlying39
  clear hb3 hb3' hb4 hb4'
  obtain ⟨s1, hs1⟩ : ∃ s, s = m.role := ⟨_, rfl⟩
  obtain ⟨s2, hs2⟩ : ∃ s, s = m.text := ⟨_, rfl⟩
  obtain ⟨s3, hs3⟩ : ∃ s, s = m.refusal := ⟨_, rfl⟩
  rw [← hs1, ← hs2, ← hs3]
  clear hs1 hs2 hs3
  obtain ⟨w0, hw0⟩ : ∃ w0, w0 = (w.alloc (.cells #[.string s1, .string s2, .string s3, .slice a3 n3 c3, .slice a4 n4 c4] 35)).alloc (.cells #[.string s1, .string s2, .string s3, .slice a3' n3 c3', .slice a4' n4 c4'] 41) := ⟨_, rfl⟩
  have hg0 : w.grownBy w0 none := by rw [hw0]; exact (ga _ _).trans (ga _ _)
  have b3 : w0.cell? ⟨w.heap.size, 3, none⟩ = some (.slice a3 n3 c3) := by rw [hw0]; simp [go_sem]
  have b4 : w0.cell? ⟨w.heap.size, 4, none⟩ = some (.slice a4 n4 c4) := by rw [hw0]; simp [go_sem]
  have d3 : w0.cell? ⟨w.heap.size + 1, 3, none⟩ = some (.slice a3' n3 c3') := by rw [hw0]; simp [go_sem]
  have d4 : w0.cell? ⟨w.heap.size + 1, 4, none⟩ = some (.slice a4' n4 c4') := by rw [hw0]; simp [go_sem]
  have B4 := b4
  have D4 := d4
  go_enter Try.func11, Try.ntmps11
  go_wp2
  rw [← hw0]
  clear hw0
  go_loopw [5] (fun i wr => ∃ k : Nat, i = .int .i64 k ∧ k ≤ n3 ∧ w0.grownBy wr none) (fun i _ => n3 - (intOf i).toNat)
  case atStart => exact ⟨0, rfl, Nat.zero_le _, World.grownBy.refl _ _⟩
  case round =>
    obtain ⟨k, rfl, hk, hg⟩ := hrel
    have b3 := box_kept b3 hg
    have b4 := box_kept b4 hg
    have d3 := box_kept d3 hg
    have d4 := box_kept d4 hg
    have hf : Fr B w wr := Fr.quiet (hg0.trans hg) hB
    by_cases hlt : k < n3
    · obtain ⟨q, b, o, b', o', hq, rfl, rfl, hb, hb', k1, k2⟩ := hat3 k hlt
      have hcq : (q.args.getD []).length ≤ 1048576 := hc q (List.mem_of_getElem? hq)
      have k1 := k1.kept hf hb (Nat.le_refl _)
      have k2 := k2.kept hf hb' (Nat.le_refl _)
      obtain ⟨x2, x0, x1, x3, x4, -⟩ := k1
      obtain ⟨y2, y0, y1, y3, y4, -⟩ := k2
      have hx4 := fun (W : World) (hW : Fr B wr W) => RB.kept x4 hW (Nat.le_refl _)
      have hy4 := fun (W : World) (hW : Fr B wr W) => RB.kept y4 hW (Nat.le_refl _)
      obtain ⟨ax, nx, cx, rfl, -⟩ := RL.form x4
      obtain ⟨ay, ny, cy, rfl, -⟩ := RL.form y4
      clear hat3 hat4 x4 y4 hq hc e3 e3' e4 e4' b4 d4
      obtain ⟨t1, ht1⟩ : ∃ s, s = q.id := ⟨_, rfl⟩
      obtain ⟨t2, ht2⟩ : ∃ s, s = q.name := ⟨_, rfl⟩
      rw [← ht1] at x0 y0
      rw [← ht2] at x1 y1
      clear ht1 ht2
      have d3 : ∀ o, (wr.alloc o).cell? ⟨w.heap.size + 1, 3, none⟩ = some (.slice (some ⟨b', o', none⟩) n3 c3') := fun o => box_kept d3 (ga _ _)
      have y0 : ∀ x, (wr.alloc x).cell? ⟨b', o' + k * 3, none⟩ = _ := fun x => box_kept y0 (ga _ _)
      have y1 : ∀ x, (wr.alloc x).cell? ⟨b', o' + k * 3 + 1, none⟩ = _ := fun x => box_kept y1 (ga _ _)
      have y3 : ∀ x, (wr.alloc x).cell? ⟨b', o' + k * 3 + 2, none⟩ = _ := fun x => box_kept y3 (ga _ _)
      go_wp2_with fail
      have hG : wr.grownBy ((wr.alloc (.cells #[.string t1, .string t2, .slice ax nx cx] 69)).alloc (.cells #[.string t1, .string t2, .slice ay ny cy] 50)) none := (ga _ _).trans (ga _ _)
      refine (f20 B B _ _ q.args _ (hx4 _ (Fr.quiet hG (Nat.le_trans hB hf.size))) (hy4 _ (Fr.quiet hG (Nat.le_trans hB hf.size))) hcq).mono ?_
      rintro e w2 ⟨rfl, dn, rfl⟩
      go_wp2
      go_roundw
      case rel => exact ⟨k + 1, by go_num, by omega, hg.trans (hG.trans (gd _ _))⟩
      case measure => simp [intOf]; omega
    · clear hat3 hc
      go_wp2
      go_loopw [8] (fun i wr => ∃ k : Nat, i = .int .i64 k ∧ k ≤ n4 ∧ w0.grownBy wr none) (fun i _ => n4 - (intOf i).toNat)
      case atStart => exact ⟨0, rfl, Nat.zero_le _, hg⟩
      case round =>
        clear b3 b4 d3 d4 hf hg
        obtain ⟨j, rfl, hj, hg⟩ := hrel
        have b4 := box_kept B4 hg
        have d4 := box_kept D4 hg
        have hf : Fr B w wr := Fr.quiet (hg0.trans hg) hB
        by_cases hlt : j < n4
        · obtain ⟨q, b, o, b', o', hq, rfl, rfl, hb, hb', k1, k2⟩ := hat4 j hlt
          have k1 := k1.kept hf hb
          have k2 := k2.kept hf hb'
          obtain ⟨x0, x1, x2, x3, -⟩ := k1
          obtain ⟨y0, y1, y2, y3, -⟩ := k2
          clear hat4 hq e3 e3' e4 e4'
          obtain ⟨t1, ht1⟩ : ∃ s, s = q.cid := ⟨_, rfl⟩
          obtain ⟨t2, ht2⟩ : ∃ s, s = q.name := ⟨_, rfl⟩
          obtain ⟨t3, ht3⟩ : ∃ s, s = q.content := ⟨_, rfl⟩
          obtain ⟨t4, ht4⟩ : ∃ s, s = q.err := ⟨_, rfl⟩
          rw [← ht1] at x0 y0
          rw [← ht2] at x1 y1
          rw [← ht3] at x2 y2
          rw [← ht4] at x3 y3
          clear ht1 ht2 ht3 ht4
          have d4 : ∀ o, (wr.alloc o).cell? ⟨w.heap.size + 1, 4, none⟩ = some (.slice (some ⟨b', o', none⟩) n4 c4') := fun o => box_kept d4 (ga _ _)
          have y0 : ∀ x, (wr.alloc x).cell? ⟨b', o' + j * 4, none⟩ = _ := fun x => box_kept y0 (ga _ _)
          have y1 : ∀ x, (wr.alloc x).cell? ⟨b', o' + j * 4 + 1, none⟩ = _ := fun x => box_kept y1 (ga _ _)
          have y2 : ∀ x, (wr.alloc x).cell? ⟨b', o' + j * 4 + 2, none⟩ = _ := fun x => box_kept y2 (ga _ _)
          have y3 : ∀ x, (wr.alloc x).cell? ⟨b', o' + j * 4 + 3, none⟩ = _ := fun x => box_kept y3 (ga _ _)
          go_wp2
          go_roundw
          case rel => exact ⟨j + 1, by go_num, by omega, hg.trans ((ga _ _).trans (ga _ _))⟩
          case measure => simp [intOf]; omega
        · clear hat4
          go_wp2
          go_ret
          exact ⟨rfl, hg0.trans hg⟩
end Go.Proofs.Qxb6618675a.walks
