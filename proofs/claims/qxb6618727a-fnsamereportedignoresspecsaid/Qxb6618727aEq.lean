import Derived.Test.Qxb6618727aAlike
namespace Go.Proofs.Qxb6618727a.tm
open Go.RowKit

theorem and_bd (a b : Int) (ha : 0 ≤ a) (ha' : a < 1000000000) (hb : 0 ≤ b) (hb' : b < 1000000000) : 0 ≤ bits .and .u64 a b ∧ bits .and .u64 a b < 1000000000 := by
  obtain ⟨x, rfl⟩ := Int.eq_ofNat_of_zero_le ha
  obtain ⟨y, rfl⟩ := Int.eq_ofNat_of_zero_le hb
  rw [(bits_nat .u64 64 (by decide) wraps_u64 x y (by omega) (by omega)).1]
  have : x &&& y ≤ x := Nat.and_le_left
  omega
theorem and_mask (a : Int) (ha : 0 ≤ a) (ha' : a < 1000000000) : bits .and .u64 a 1073741823 = a := by
  have := bits_mask .u64 64 (by decide) wraps_u64 30 (by decide) a ha (by omega)
  rw [show (2 : Int) ^ 30 - 1 = 1073741823 by decide] at this
  rw [this]; omega

set_option maxHeartbeats 400000 in
theorem f30' (b : Nat) (a : Int) (w : World) (h : w.cell? ⟨b, 0, none⟩ = some (.int .u64 a)) (ha : 0 ≤ a) (ha' : a < 1000000000) :
    Calls Try.prog 30 #[.pointer (some ⟨b, 0, none⟩)] w fun e w' => e = .returned (.int .i32 a) ∧ w' = w := by
  have hm := and_mask a ha ha'
  go_enter Try.func30, Try.ntmps30
  go_wp2
  go_ret
  exact ⟨rfl, rfl⟩

set_option maxHeartbeats 400000 in
theorem f33 (b : Nat) (a e : Int) (w : World) (h : w.cell? ⟨b, 0, none⟩ = some (.int .u64 a)) (h' : w.cell? ⟨b, 1, none⟩ = some (.int .i64 e)) (ha : 0 ≤ a) (ha' : a < 1000000000) :
    Calls Try.prog 33 #[.pointer (some ⟨b, 0, none⟩)] w fun r w' => r = .returned (.int .i64 e) ∧ w' = w := by
  have hm := and_high a ha (by omega)
  go_enter Try.func33, Try.ntmps33
  go_wp2
  go_ret
  exact ⟨rfl, rfl⟩

set_option maxHeartbeats 1000000 in
/-- Time.Equal -/
theorem f28 (a b a' b' : Int) (w : World) (h1 : 0 ≤ a) (h2 : a < 1000000000) (h3 : 0 ≤ a') (h4 : a' < 1000000000) :
    Calls Try.prog 28 #[.agg #[.int .u64 a, .int .i64 b, .pointer none], .agg #[.int .u64 a', .int .i64 b', .pointer none]] w fun e w' => e = .returned (.bool (tB a b a' b')) ∧ w.grownBy w' none := by
  have hbd := and_bd a a' h1 h2 h3 h4
  obtain ⟨X, hX⟩ : ∃ X, bits .and .u64 a a' = X := ⟨_, rfl⟩
  rw [hX] at hbd
  have hm := and_high X hbd.1 (by omega)
  clear hbd
  obtain ⟨nb, hnb⟩ : ∃ nb : Bool, (b == b') = nb := ⟨_, rfl⟩
  obtain ⟨na, hna⟩ : ∃ na : Bool, (a == a') = na := ⟨_, rfl⟩
  have ht : Hid (tB a b a' b' = (na && nb)) := by show _ = _; unfold tB; rw [hnb, hna]
  go_enter Try.func28, Try.ntmps28
  go_wp2_with fail
  refine (f33 w.heap.size a b _ (by simp) (by simp) h1 h2).mono ?_
  rintro e w1 ⟨rfl, rfl⟩
  go_wp2_with fail
  refine (f33 (w.heap.size + 1) a' b' _ (by simp) (by simp) h3 h4).mono ?_
  rintro e w1 ⟨rfl, rfl⟩
  cases nb
  · go_wp2
    go_ret
    exact ⟨rb (x := false) (by rw [ht.out]; simp), (ga _ _).trans (ga _ _)⟩
  · go_wp2_with fail
    refine (f30' w.heap.size a _ (by simp) h1 h2).mono ?_
    rintro e w1 ⟨rfl, rfl⟩
    go_wp2_with fail
    refine (f30' (w.heap.size + 1) a' _ (by simp) h3 h4).mono ?_
    rintro e w1 ⟨rfl, rfl⟩
    go_wp2
    go_ret
    exact ⟨rb (x := na) (by rw [ht.out]; simp), (ga _ _).trans (ga _ _)⟩

def exB (c c' : Int) (s s' : ByteArray) (o o' : Bool) (a b a' b' : Int) : Bool := c == c' && s.toList == s'.toList && o == o' && tB a b a' b'

set_option maxHeartbeats 1000000 in
set_option maxRecDepth 10000 in
/-- Exit.Equal -/
theorem f27 (c c' : Int) (s s' : ByteArray) (o o' : Bool) (a b a' b' : Int) (w : World) (h1 : 0 ≤ a) (h2 : a < 1000000000) (h3 : 0 ≤ a') (h4 : a' < 1000000000) :
    Calls Try.prog 27 #[.agg #[.int .i64 c, .string s, .bool o, .int .u64 a, .int .i64 b, .pointer none], .agg #[.int .i64 c', .string s', .bool o', .int .u64 a', .int .i64 b', .pointer none]] w
      fun e w' => e = .returned (.bool (exB c c' s s' o o' a b a' b')) ∧ w.grownBy w' none := by
  have C28 : Hid (∀ w, Calls _ _ _ _ _) := fun w => f28 a b a' b' w h1 h2 h3 h4
  clear h1 h2 h3 h4
  obtain ⟨nc, hnc⟩ : ∃ nc : Bool, (c == c') = nc := ⟨_, rfl⟩
  obtain ⟨no, hno⟩ : ∃ no : Bool, (o == o') = no := ⟨_, rfl⟩
  have ht : Hid (exB c c' s s' o o' a b a' b' = (nc && (s.toList == s'.toList) && no && tB a b a' b')) := by show _ = _; unfold exB; rw [hnc, hno]
  go_enter Try.func27, Try.ntmps27
  go_wp2_with fail
  · have e1 : nc = true := by assumption
    have e2 : s.toList = s'.toList := by assumption
    have e3 : no = true := by assumption
    refine (C28.out _).mono ?_
    rintro e w1 ⟨rfl, hg⟩
    go_wp2
    go_ret
    exact ⟨rb (x := tB a b a' b') (by rw [ht.out]; simp [e1, e2, e3]), ((ga _ _).trans (ga _ _)).trans hg⟩
  · rename_i e1 e2 e3
    go_ret
    exact ⟨rb (x := false) (by rw [ht.out]; simp [e1, e2, e3]), (ga _ _).trans (ga _ _)⟩
  · rename_i e1 e2
    go_ret
    exact ⟨rb (x := false) (by rw [ht.out]; simp [e1, e2]), (ga _ _).trans (ga _ _)⟩
  · rename_i e1
    go_ret
    exact ⟨rb (x := false) (by rw [ht.out]; simp [e1]), (ga _ _).trans (ga _ _)⟩
end Go.Proofs.Qxb6618727a.tm
