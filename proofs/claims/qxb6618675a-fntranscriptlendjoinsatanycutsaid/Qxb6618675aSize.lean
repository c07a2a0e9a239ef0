import Derived.Test.Qxb6618675aRows
import Derived.Test.Qxb6618675aMem
import Derived.WalkSpells
import Derived.Lib.Walk
namespace Go.Proofs.Qxb6618675a.walks
open Go.RowKit Go.Proofs.Qxb6618675a.mem

theorem ga (w : World) (o : Obj) : w.grownBy (w.alloc o) none := World.grownBy_alloc w o none

/-- a bool is returned -/
def IsB (e : Ending) : Prop := ∃ r : Bool, e = .returned (.bool r)
theorem isB (r : Bool) : IsB (.returned (.bool r)) := ⟨r, rfl⟩

/-- zzb1Add -/
theorem f17 (a n : Int) (w : World) (h0 : 0 ≤ a) (h1 : a ≤ 1048577) (h2 : 0 ≤ n) (h3 : n ≤ 9223372036854775807) :
    Calls Try.prog 17 #[.int .i64 a, .int .i64 n] w fun e w' => ∃ r : Int, e = .returned (.int .i64 r) ∧ 0 ≤ r ∧ r ≤ 1048577 ∧ w' = w := by
  go_enter Try.func17, Try.ntmps17
  by_cases c1 : n > 1048576
  · go_wp2
    go_ret
    exact ⟨_, rfl, by omega, by omega, rfl⟩
  · by_cases c2 : a > 1048576 - n
    · go_wp2
      go_ret
      exact ⟨_, rfl, by omega, by omega, rfl⟩
    · go_wp2
      go_ret
      exact ⟨_, rfl, by omega, by omega, rfl⟩

set_option maxHeartbeats 4000000 in
set_option maxRecDepth 10000 in
/-- zzb1MsgsTooBig -/
theorem f7 (B : Nat) (v : Value) (x : Option (List Msg)) (w : World) (h : RM w B v x) (hB : B ≤ w.heap.size) :
    Calls Try.prog 7 #[v] w fun e w' => IsB e ∧ w.grownBy w' none := by
  obtain ⟨a, n, c, rfl, -, hlc, hcm, -, -, hat⟩ := RL.form h
  clear h
  by_cases c1 : n > 10922
  · go_enter Try.func7, Try.ntmps7
    go_wp2
    go_ret
    exact ⟨isB _, World.grownBy.refl _ _⟩
  · go_enter Try.func7, Try.ntmps7
    go_wp2
    go_loopw [3, 4] (fun t i wr => ∃ (z : Int) (k : Nat), t = .int .i64 z ∧ 0 ≤ z ∧ z ≤ 1048577 ∧ i = .int .i64 k ∧ k ≤ n ∧ w.grownBy wr none) (fun _ i _ => n - (intOf i).toNat)
    case atStart => exact ⟨_, 0, rfl, by omega, by omega, rfl, Nat.zero_le _, World.grownBy.refl _ _⟩
    case round =>
      obtain ⟨z, k, rfl, hz, hz', rfl, hk, hg⟩ := hrel
      by_cases hlt : k < n
      · obtain ⟨m, b, o, -, rfl, hb, hmsg⟩ := hat k hlt
        have hmsg := hmsg.kept (Fr.quiet hg hB) hb (Nat.le_refl _)
        obtain ⟨v3, v4, e0, e1, e2, e3, e4, r3, r4, z1, z2, z3⟩ := hmsg
        clear hat
        obtain ⟨a3, n3, c3, rfl, -, l3, m3, -, -, hat3⟩ := RL.form r3
        obtain ⟨a4, n4, c4, rfl, -, l4, m4, -, -, hat4⟩ := RL.form r4
        unfold maxLen at z1 z2 z3
        clear r3 r4
        obtain ⟨s1, hs1⟩ : ∃ s, s = m.role := ⟨_, rfl⟩
        obtain ⟨s2, hs2⟩ : ∃ s, s = m.text := ⟨_, rfl⟩
        obtain ⟨s3, hs3⟩ : ∃ s, s = m.refusal := ⟨_, rfl⟩
        rw [← hs1] at z1 e0
        rw [← hs2] at z2 e1
        rw [← hs3] at z3 e2
        clear hs1 hs2 hs3
        go_wp2_with fail
        refine (f17 _ _ _ hz (by omega) (by omega) (by omega)).mono ?_
        rintro e w2 ⟨r2, rfl, hr2, hr2', rfl⟩
        go_wp2_with fail
        refine (f17 _ _ _ (by omega) (by omega) (by omega) (by omega)).mono ?_
        rintro e w2 ⟨r3, rfl, hr3, hr3', rfl⟩
        go_wp2_with fail
        refine (f17 _ _ _ (by omega) (by omega) (by omega) (by omega)).mono ?_
        rintro e w2 ⟨r4, rfl, hr4, hr4', rfl⟩
        by_cases d1 : 1048576 < r4
        · go_wp2
          go_ret
          exact ⟨isB _, hg.trans (ga _ _)⟩
        by_cases d2 : 16384 < n3
        · go_wp2
          go_ret
          exact ⟨isB _, hg.trans (ga _ _)⟩
        by_cases d3 : 16384 < n4
        · go_wp2
          go_ret
          exact ⟨isB _, hg.trans (ga _ _)⟩
        go_wp2_with fail
        refine (f17 _ _ _ (by omega) (by omega) (by omega) (by omega)).mono ?_
        rintro e w2 ⟨r5, rfl, hr5, hr5', rfl⟩
        go_wp2_with fail
        refine (f17 _ _ _ (by omega) (by omega) (by omega) (by omega)).mono ?_
        rintro e w2 ⟨r6, rfl, hr6, hr6', rfl⟩
        by_cases d4 : 1048576 < r6
        · go_wp2
          go_ret
          exact ⟨isB _, hg.trans (ga _ _)⟩
        go_wp2_with fail
        go_loopw [3, 6] (fun t i wq => ∃ (z : Int) (j : Nat), t = .int .i64 z ∧ 0 ≤ z ∧ z ≤ 1048577 ∧ i = .int .i64 j ∧ j ≤ n3 ∧ wq = wr.alloc (.cells #[.string s1, .string s2, .string s3, .slice a3 n3 c3, .slice a4 n4 c4] 41)) (fun _ i _ => n3 - (intOf i).toNat)
        case atStart => exact ⟨r6, 0, rfl, hr6, hr6', rfl, Nat.zero_le _, rfl⟩
        case round =>
          obtain ⟨y, j, rfl, hy, hy', rfl, hj, rfl⟩ := hrel
          by_cases hjt : j < n3
          · obtain ⟨q, b3, o3, -, rfl, hb3, hcall⟩ := hat3 j hjt
            have hcall := hcall.kept (Fr.quiet (ga wr (.cells #[.string s1, .string s2, .string s3, .slice (some ⟨b3, o3, none⟩) n3 c3, .slice a4 n4 c4] 41)) (Nat.le_trans hB hg.size)) hb3 (Nat.le_refl _)
            obtain ⟨v2, g0, g1, g2, r2, y1, y2⟩ := hcall
            obtain ⟨a2, n2, c2, rfl, -, l2, m2, -, -, -⟩ := RL.form r2
            unfold maxLen at y1 y2
            clear r2 hat3 hat4
            obtain ⟨t1, ht1⟩ : ∃ s, s = q.id := ⟨_, rfl⟩
            obtain ⟨t2, ht2⟩ : ∃ s, s = q.name := ⟨_, rfl⟩
            rw [← ht1] at y1 g0
            rw [← ht2] at y2 g1
            clear ht1 ht2
            go_wp2_with fail
            refine (f17 _ _ _ (by omega) (by omega) (by omega) (by omega)).mono ?_
            rintro e w2 ⟨x1, rfl, hx1, hx1', rfl⟩
            go_wp2_with fail
            refine (f17 _ _ _ (by omega) (by omega) (by omega) (by omega)).mono ?_
            rintro e w2 ⟨x2, rfl, hx2, hx2', rfl⟩
            go_wp2_with fail
            refine (f17 _ _ _ (by omega) (by omega) (by omega) (by omega)).mono ?_
            rintro e w2 ⟨x3, rfl, hx3, hx3', rfl⟩
            by_cases d5 : 1048576 < x3
            · go_wp2
              go_ret
              exact ⟨isB _, hg.trans (ga _ _)⟩
            · go_wp2
              go_roundw
              case rel => exact ⟨x3, j + 1, rfl, hx3, hx3', by go_num, by omega, by trivial⟩
              case measure => simp [intOf]; omega
          · clear hat3
            go_wp2_with fail
            go_loopw [3, 7] (fun t i wq => ∃ (z : Int) (j : Nat), t = .int .i64 z ∧ 0 ≤ z ∧ z ≤ 1048577 ∧ i = .int .i64 j ∧ j ≤ n4 ∧ wq = wr.alloc (.cells #[.string s1, .string s2, .string s3, .slice a3 n3 c3, .slice a4 n4 c4] 41)) (fun _ i _ => n4 - (intOf i).toNat)
            case atStart => exact ⟨y, 0, rfl, hy, hy', rfl, Nat.zero_le _, rfl⟩
            case round =>
              obtain ⟨y', j', rfl, hy, hy', rfl, hj, rfl⟩ := hrel
              by_cases hjt' : j' < n4
              · obtain ⟨q, b3, o3, -, rfl, hb3, hcall⟩ := hat4 j' hjt'
                have hcall := hcall.kept (Fr.quiet (ga wr (.cells #[.string s1, .string s2, .string s3, .slice a3 n3 c3, .slice (some ⟨b3, o3, none⟩) n4 c4] 41)) (Nat.le_trans hB hg.size)) hb3
                obtain ⟨g0, g1, g2, g3, y1, y2, y3⟩ := hcall
                unfold maxLen at y1 y2 y3
                clear hat4
                obtain ⟨t1, ht1⟩ : ∃ s, s = q.cid := ⟨_, rfl⟩
                obtain ⟨t2, ht2⟩ : ∃ s, s = q.name := ⟨_, rfl⟩
                obtain ⟨t3, ht3⟩ : ∃ s, s = q.content := ⟨_, rfl⟩
                rw [← ht1] at y1 g0
                rw [← ht2] at y2 g1
                rw [← ht3] at y3 g2
                clear ht1 ht2 ht3
                go_wp2_with fail
                refine (f17 _ _ _ (by omega) (by omega) (by omega) (by omega)).mono ?_
                rintro e w2 ⟨x1, rfl, hx1, hx1', rfl⟩
                go_wp2_with fail
                refine (f17 _ _ _ (by omega) (by omega) (by omega) (by omega)).mono ?_
                rintro e w2 ⟨x2, rfl, hx2, hx2', rfl⟩
                go_wp2_with fail
                refine (f17 _ _ _ (by omega) (by omega) (by omega) (by omega)).mono ?_
                rintro e w2 ⟨x3, rfl, hx3, hx3', rfl⟩
                by_cases d5 : 1048576 < x3
                · go_wp2
                  go_ret
                  exact ⟨isB _, hg.trans (ga _ _)⟩
                · go_wp2
                  go_roundw
                  case rel => exact ⟨x3, j' + 1, rfl, hx3, hx3', by go_num, by omega, by trivial⟩
                  case measure => simp [intOf]; omega
              · clear hat4
                go_wp2
                go_roundw
                case rel => exact ⟨y', k + 1, rfl, hy, hy', by go_num, by omega, hg.trans (ga _ _)⟩
                case measure => simp [intOf]; omega
      · go_wp2
        go_ret
        exact ⟨isB _, hg⟩
end Go.Proofs.Qxb6618675a.walks
