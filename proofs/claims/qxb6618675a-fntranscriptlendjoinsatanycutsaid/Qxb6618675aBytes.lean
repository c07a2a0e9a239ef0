import Derived.Test.Qxb6618675aSize
namespace Go.Proofs.Qxb6618675a.walks
open Go.RowKit Go.Proofs.Qxb6618675a.mem

/-- a bool is returned; if it is true, P -/
def BB (P : Prop) (e : Ending) : Prop := ∃ r : Bool, e = .returned (.bool r) ∧ (r = true → P)
theorem bb_no (P : Prop) : BB P (.returned (.bool false)) := ⟨false, rfl, by simp⟩
theorem bb_yes {P : Prop} (h : P) : BB P (.returned (.bool true)) := ⟨true, rfl, fun _ => h⟩

set_option maxHeartbeats 4000000 in
set_option maxRecDepth 10000 in
/-- zzBytes_..: if it is true there is little of it -/
theorem f16 (B : Nat) (v : Value) (x : Option (List Msg)) (i j k : Int) (w : World) (h : RM w B v x) :
    Calls Try.prog 16 #[v, .int .i64 i, .int .i64 j, .int .i64 k] w fun e w' => BB (bulk (x.getD []) ≤ 1048576) e ∧ w' = w := by
  obtain ⟨a, n, c, rfl, hlen, hlc, hcm, -, -, hat0⟩ := RL.form h
  clear h
  obtain ⟨S, hS⟩ : ∃ S : Nat → Nat, S = fun k => n + nC ((x.getD []).take k) + nR ((x.getD []).take k) + nA ((x.getD []).take k) := ⟨_, rfl⟩
  have hS0 : S 0 = n := by simp [hS, nC, nR, nA]
  have hSn : bulk (x.getD []) = S n := by
    rw [hS]
    simp only [bulk, hlen]
    rw [List.take_of_length_le (by omega)]
  have hat : ∀ i, i < n → ∃ m b o, S (i + 1) = S i + (callsOf m).length + (resOf m).length + cSum (callsOf m) ∧ a = some ⟨b, o, none⟩ ∧ MsgAt w B b (o + i * 5) m := by
    intro i hi
    obtain ⟨m, b, o, hm, rfl, -, hmm⟩ := hat0 i hi
    refine ⟨m, b, o, ?_, rfl, hmm⟩
    rw [hS]
    simp only [nC, nR, nA]
    rw [sum_take _ _ _ hm, sum_take _ _ _ hm, sum_take _ _ _ hm]
    omega
  rw [hSn]
  clear hSn hS hlen hat0
  by_cases c1 : 1048576 < n
  · go_enter Try.func16, Try.ntmps16
    go_wp2
    go_ret
    exact ⟨bb_no _, rfl⟩
  go_enter Try.func16, Try.ntmps16
  go_wp2
  go_loopw [9, 10] (fun t i wr => ∃ (z k : Nat), t = .int .i64 z ∧ S k ≤ z ∧ z ≤ 1048576 ∧ i = .int .i64 k ∧ k ≤ n ∧ w = wr) (fun _ i _ => n - (intOf i).toNat)
  case atStart => exact ⟨n, 0, by go_num, by omega, by omega, rfl, Nat.zero_le _, rfl⟩
  case round =>
    obtain ⟨z, k, rfl, hz, hz', rfl, hk, rfl⟩ := hrel
    by_cases hlt : k < n
    · obtain ⟨m, b, o, hSk, rfl, hmsg⟩ := hat k hlt
      obtain ⟨v3, v4, e0, e1, e2, e3, e4, r3, r4, z1, z2, z3⟩ := hmsg
      clear hat
      obtain ⟨a3, n3, c3, rfl, hl3, l3, m3, -, -, hat3'⟩ := RL.form r3
      obtain ⟨a4, n4, c4, rfl, hl4, l4, m4, -, -, hat4'⟩ := RL.form r4
      unfold maxLen at z1 z2 z3
      obtain ⟨T, hT⟩ : ∃ T : Nat → Nat, T = fun k => cSum ((m.calls.getD []).take k) := ⟨_, rfl⟩
      have hT0 : T 0 = 0 := by simp [hT, cSum]
      have hTn : cSum (callsOf m) = T n3 := by
        rw [hT]
        simp only [callsOf]
        rw [List.take_of_length_le (by omega)]
      have hat3 : ∀ i, i < n3 → ∃ q b o v, T (i + 1) = T i + (q.args.getD []).length ∧ a3 = some ⟨b, o, none⟩ ∧ CallAt w B b (o + i * 3) q ∧ v = q := by
        intro i hi
        obtain ⟨q, b, o, hq, rfl, -, hqq⟩ := hat3' i hi
        refine ⟨q, b, o, q, ?_, rfl, hqq, rfl⟩
        rw [hT]
        simp only [cSum]
        rw [sum_take _ _ _ hq]
        rfl
      have hat4 : ∀ i, i < n4 → ∃ q b o, a4 = some ⟨b, o, none⟩ ∧ ResAt w b (o + i * 4) q := by
        intro i hi
        obtain ⟨q, b, o, -, rfl, -, hqq⟩ := hat4' i hi
        exact ⟨q, b, o, rfl, hqq⟩
      rw [hTn] at hSk
      simp only [callsOf, resOf] at hSk
      rw [hl3, hl4] at hSk
      clear r3 r4 hT hTn hl3 hl4 hat3' hat4'
      obtain ⟨s1, hs1⟩ : ∃ s, s = m.role := ⟨_, rfl⟩
      obtain ⟨s2, hs2⟩ : ∃ s, s = m.text := ⟨_, rfl⟩
      obtain ⟨s3, hs3⟩ : ∃ s, s = m.refusal := ⟨_, rfl⟩
      rw [← hs1] at z1 e0
      rw [← hs2] at z2 e1
      rw [← hs3] at z3 e2
      clear hs1 hs2 hs3
      go_wp2
      all_goals first | (go_ret; exact ⟨bb_no _, rfl⟩) | skip
      go_loopw [9, 11] (fun t i wr => ∃ (y j : Nat), t = .int .i64 y ∧ S k + n3 + T j ≤ y ∧ y ≤ 1048576 ∧ i = .int .i64 j ∧ j ≤ n3 ∧ w = wr) (fun _ i _ => n3 - (intOf i).toNat)
      case atStart => exact ⟨z + s1.size + s2.size + s3.size + n3, 0, by go_num, by omega, by omega, rfl, Nat.zero_le _, rfl⟩
      case round =>
        obtain ⟨y, j, rfl, hy, hy', rfl, hj, rfl⟩ := hrel
        by_cases hjt : j < n3
        · obtain ⟨q, b3, o3, -, hTj, rfl, hcall, -⟩ := hat3 j hjt
          obtain ⟨v2, g0, g1, g2, r2, y1, y2⟩ := hcall
          obtain ⟨a2, n2, c2, rfl, hl2, l2, m2, -, -, -⟩ := RL.form r2
          rw [hl2] at hTj
          unfold maxLen at y1 y2
          clear r2 hat3 hat4 hl2
          obtain ⟨t1, ht1⟩ : ∃ s, s = q.id := ⟨_, rfl⟩
          obtain ⟨t2, ht2⟩ : ∃ s, s = q.name := ⟨_, rfl⟩
          rw [← ht1] at y1 g0
          rw [← ht2] at y2 g1
          clear ht1 ht2
          go_wp2
          all_goals first | (go_ret; exact ⟨bb_no _, rfl⟩) | skip
          go_roundw
          case rel => exact ⟨y + t1.size + t2.size + n2, j + 1, by go_num, by omega, by omega, by go_num, by omega, by trivial⟩
          case measure => simp [intOf]; omega
        · clear hat3
          obtain rfl : j = n3 := by omega
          go_wp2
          all_goals first | (go_ret; exact ⟨bb_no _, rfl⟩) | skip
          go_loopw [9, 12] (fun t i wr => ∃ (u j : Nat), t = .int .i64 u ∧ S (k + 1) ≤ u ∧ u ≤ 1048576 ∧ i = .int .i64 j ∧ j ≤ n4 ∧ w = wr) (fun _ i _ => n4 - (intOf i).toNat)
          case atStart => exact ⟨y + n4, 0, by go_num, by omega, by omega, rfl, Nat.zero_le _, rfl⟩
          case round =>
            obtain ⟨u, j', rfl, hu, hu', rfl, hj', rfl⟩ := hrel
            by_cases hjt' : j' < n4
            · obtain ⟨q, b3, o3, rfl, hcall⟩ := hat4 j' hjt'
              obtain ⟨g0, g1, g2, g3, y1, y2, y3⟩ := hcall
              unfold maxLen at y1 y2 y3
              clear hat4
              obtain ⟨t1, ht1⟩ : ∃ s, s = q.cid := ⟨_, rfl⟩
              obtain ⟨t2, ht2⟩ : ∃ s, s = q.name := ⟨_, rfl⟩
              obtain ⟨t3, ht3⟩ : ∃ s, s = q.content := ⟨_, rfl⟩
              rw [← ht1] at y1 g0
              rw [← ht2] at y2 g1
              rw [← ht3] at y3 g2
              clear ht1 ht2 ht3
              go_wp2
              all_goals first | (go_ret; exact ⟨bb_no _, rfl⟩) | skip
              go_roundw
              case rel => exact ⟨u + t1.size + t2.size + t3.size, j' + 1, by go_num, by omega, by omega, by go_num, by omega, by trivial⟩
              case measure => simp [intOf]; omega
            · clear hat4
              go_wp2
              refine ⟨?_, ?measure⟩
              iterate 10 (iterate 40 (try apply Exists.intro))
              refine ⟨?rel, rfl⟩
              case rel => exact ⟨u, k + 1, rfl, hu, hu', by go_num, by omega, by trivial⟩
              case measure => simp [intOf]; omega
    · obtain rfl : k = n := by omega
      go_wp2
      go_ret
      exact ⟨bb_yes (by omega), rfl⟩
end Go.Proofs.Qxb6618675a.walks
