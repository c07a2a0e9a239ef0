import Derived.Test.Qxb6618675aSameM
namespace Go.Proofs.Qxb6618675a.walks
open Go.RowKit Go.Proofs.Qxb6618675a.mem

/-- n messages from the place i of l on -/
def Got (w : World) (B : Nat) (v : Value) (l : List Msg) (i n : Nat) : Prop :=
  ∃ a c, v = .slice a n c ∧ ∀ k, k < n → ∃ m b o, a = some ⟨b, o, none⟩ ∧ b < B ∧ l[i + k]? = some m ∧ MsgAt w B b (o + k * 5) m

structure Small (m : Msg) : Prop where
  one : ∀ c ∈ callsOf m, c.bulk ≤ 1048576
  two : (callsOf m).length ≤ 1048576
  three : (resOf m).length ≤ 1048576

theorem le_sum {l : List Nat} {x : Nat} (h : x ∈ l) : x ≤ l.sum := by
  induction l with
  | nil => cases h
  | cons y t ih =>
    rw [List.sum_cons]
    rcases List.mem_cons.1 h with rfl | h
    · omega
    · have := ih h; omega
theorem small_of {l : List Msg} (h : bulk l ≤ 1048576) {m : Msg} (hm : m ∈ l) : Small m := by
  unfold bulk at h
  have h1 : (callsOf m).length ≤ nC l := le_sum (List.mem_map_of_mem (f := fun m => (callsOf m).length) hm)
  have h2 : (resOf m).length ≤ nR l := le_sum (List.mem_map_of_mem (f := fun m => (resOf m).length) hm)
  have h3 : cSum (callsOf m) ≤ nA l := le_sum (List.mem_map_of_mem (f := fun m => cSum (callsOf m)) hm)
  refine ⟨fun c hc => ?_, by omega, by omega⟩
  have h4 : c.bulk ≤ cSum (callsOf m) := le_sum (List.mem_map_of_mem (f := Call.bulk) hc)
  omega

theorem gd1 (w : World) : w.grownBy w.drew none := ⟨rfl, rfl, rfl, Nat.le_refl _, fun _ _ _ => rfl⟩

set_option maxHeartbeats 4000000 in
set_option maxRecDepth 10000 in
/-- zzb1SameRange -/
theorem f15 (B : Nat) (v u : Value) (x : Option (List Msg)) (i n j : Nat) (w : World) (hv : Got w B v (x.getD []) i n) (hu : RM w B u x) (hB : B ≤ w.heap.size) (hb : bulk (x.getD []) ≤ 1048576) (hi : j ≤ (x.getD []).length) (hj : i + n = j) :
    Calls Try.prog 15 #[v, u, .int .i64 i, .int .i64 j] w fun e w' => e = .returned (.bool true) ∧ w.grownBy w' none := by
  obtain ⟨a, c, rfl, hat⟩ := hv
  obtain ⟨a', n', c', rfl, hn', hlc', hcm', -, -, hat'⟩ := RL.form hu
  clear hu
  have hs : ∀ m ∈ x.getD [], Small m := fun m hm => small_of hb hm
  have hll : n' ≤ 1048576 := by rw [← hn']; unfold bulk at hb; omega
  rw [hn'] at hi
  clear hb
  have hpair : ∀ k, k < n → ∃ m b o b' o', Small m ∧ a = some ⟨b, o, none⟩ ∧ a' = some ⟨b', o', none⟩ ∧ b < B ∧ b' < B ∧ MsgAt w B b (o + k * 5) m ∧ MsgAt w B b' (o' + (i + k) * 5) m := by
    intro k hk
    obtain ⟨m, b, o, rfl, h1, h2, h3⟩ := hat k hk
    obtain ⟨m', b', o', h2', rfl, h1', h3'⟩ := hat' (i + k) (by omega)
    rw [h2] at h2'
    cases h2'
    exact ⟨m, b, o, b', o', hs m (List.mem_of_getElem? h2), rfl, rfl, h1, h1', h3, h3'⟩
  clear hat hat' hn' hs
  have hd : ((n : Int) != (j : Int) - (i : Int)) = false := by
    have : (n : Int) = (j : Int) - (i : Int) := by omega
    rw [← this]; simp
  go_enter Try.func15, Try.ntmps15
  go_wp2
  go_loopw [9] (fun t wr => ∃ k : Nat, t = .int .i64 k ∧ k ≤ n ∧ w.grownBy wr none) (fun t _ => n - (intOf t).toNat)
  case atStart => exact ⟨0, rfl, Nat.zero_le _, World.grownBy.refl _ _⟩
  case round =>
    obtain ⟨k, rfl, hk, hg⟩ := hrel
    have hf : Fr B w wr := Fr.quiet hg hB
    by_cases hlt : k < n
    · obtain ⟨m, b, o, b', o', hsm, rfl, rfl, q1, q2, m1, m2⟩ := hpair k hlt
      have m1 := m1.kept hf q1 (Nat.le_refl _)
      have m2 := m2.kept hf q2 (Nat.le_refl _)
      obtain ⟨v3, v4, x0, x1, x2, x3, x4, x5, x6, -⟩ := m1
      obtain ⟨u3, u4, y0, y1, y2, y3, y4, y5, y6, -⟩ := m2
      have C : ∀ W, wr.grownBy W none → Calls Try.prog 11 _ W _ := fun W hW => f11 B m v3 v4 u3 u4 W (x5.kept (Fr.quiet hW (Nat.le_trans hB hf.size)) (Nat.le_refl _)) (x6.kept (Fr.quiet hW (Nat.le_trans hB hf.size)) (Nat.le_refl _))
        (y5.kept (Fr.quiet hW (Nat.le_trans hB hf.size)) (Nat.le_refl _)) (y6.kept (Fr.quiet hW (Nat.le_trans hB hf.size)) (Nat.le_refl _)) (Nat.le_trans hB (Nat.le_trans hf.size hW.size)) hsm.one hsm.two hsm.three
      obtain ⟨a3, n3, c3, rfl, -⟩ := RL.form x5
      obtain ⟨a4, n4, c4, rfl, -⟩ := RL.form x6
      obtain ⟨d3, p3, f3, rfl, -⟩ := RL.form y5
      obtain ⟨d4, p4, f4, rfl, -⟩ := RL.form y6
      clear x5 x6 y5 y6 hpair hsm
      go_wp2
      have i1 : IntKind.i64.wrap ((i : Int) + (k : Int)) = (i : Int) + k := IntWalk.i64_in _ (by omega)
      have i2 : (0 : Int) ≤ (i : Int) + k := by omega
      have i3 : (i : Int) + k < n' := by omega
      have i4 : ((i : Int) + (k : Int)).toNat = i + k := by omega
      go_region_law (first | (try go_simp; go_at_call 11; refine (C _ (gd1 _)).mono ?_; rintro e w2 ⟨rfl, hg2⟩))
      all_goals
        go_wp2
        go_roundw
        case rel => exact ⟨k + 1, by go_num, by omega, hg.trans ((gd1 _).trans hg2)⟩
        case measure => simp [intOf]; omega
    · clear hpair
      go_wp2
      go_ret
      exact ⟨rfl, hg⟩
end Go.Proofs.Qxb6618675a.walks
