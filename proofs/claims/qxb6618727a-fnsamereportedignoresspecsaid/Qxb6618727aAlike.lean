import Derived.Test.Qxb6618727aFence
import Derived.Laws.StructEq
import Derived.Laws.Pointers
namespace Go.Proofs.Qxb6618727a.tm
open Go.RowKit

theorem e41 (d : Nat) (w : World) : (Op.equalIn (d + 1) 41 (.pointer none) (.pointer none)).run Try.prog w = .ok true w :=
  run_equalIn_pointer_nil w d 41 none (by kernel_rfl)

theorem eq45 (a b a' b' : Int) (w : World) : (binOp .eql 45 (.agg #[.int .u64 a, .int .i64 b, .pointer none]) (.agg #[.int .u64 a', .int .i64 b', .pointer none])).run Try.prog w = .ok (.bool (a == a' && b == b')) w := by
  have h1 := e41 9997 w
  by_cases e1 : a = a'
  · by_cases e2 : b = b'
    · simp [go_sem, Try.underlying45, e1, e2, h1]
    · simp [go_sem, Try.underlying45, e1, e2]
  · simp [go_sem, Try.underlying45, e1]

theorem eq60 (r r' : ByteArray) (l l' a b a' b' c d c' d' : Int) (w : World) : (binOp .eql 60 (.agg #[.string r, .int .i64 l, .int .u64 a, .int .i64 b, .pointer none, .int .u64 c, .int .i64 d, .pointer none]) (.agg #[.string r', .int .i64 l', .int .u64 a', .int .i64 b', .pointer none, .int .u64 c', .int .i64 d', .pointer none])).run Try.prog w
    = .ok (.bool (r.toList == r'.toList && l == l' && (a == a' && b == b') && (c == c' && d == d'))) w := by
  have h1 := e41 9996 w
  by_cases e0 : r.toList = r'.toList
  · by_cases e3 : l = l'
    · by_cases e1 : a = a'
      · by_cases e2 : b = b'
        · by_cases e4 : c = c'
          · by_cases e5 : d = d'
            · simp [go_sem, Try.underlying60, e0, e3, e1, e2, e4, e5, h1]
            · simp [go_sem, Try.underlying60, e0, e3, e1, e2, e4, e5, h1]
          · simp [go_sem, Try.underlying60, e0, e3, e1, e2, e4, h1]
        · simp [go_sem, Try.underlying60, e0, e3, e1, e2]
      · simp [go_sem, Try.underlying60, e0, e3, e1]
    · simp [go_sem, Try.underlying60, e0, e3]
  · simp [go_sem, Try.underlying60, e0]

theorem rb {x y : Bool} (h : x = y) : Ending.returned (.bool x) = .returned (.bool y) := by rw [h]
def tB (a b a' b' : Int) : Bool := a == a' && b == b'
def cB (r r' : ByteArray) (l l' a b a' b' c d c' d' : Int) : Bool := r.toList == r'.toList && l == l' && (a == a' && b == b') && (c == c' && d == d')
def alikeB (h s rs h' s' rs' : ByteArray) (a b lv c d e f a' b' lv' c' d' e' f' : Int) : Bool :=
  h.toList == h'.toList && s.toList == s'.toList && tB a b a' b' && cB rs rs' lv lv' c d c' d' e f e' f'

set_option maxHeartbeats 1000000 in
set_option maxRecDepth 10000 in
theorem f21 (h s rs h' s' rs' : ByteArray) (a b lv c d e f a' b' lv' c' d' e' f' : Int) (w : World) :
    Calls Try.prog 21 #[.agg (cmd h s rs a b lv c d e f), .agg (cmd h' s' rs' a' b' lv' c' d' e' f')] w fun r w' => r = .returned (.bool (alikeB h s rs h' s' rs' a b lv c d e f a' b' lv' c' d' e' f')) ∧ w.grownBy w' none := by
  have q1 := fun w => eq45 a b a' b' w
  have q2 := fun w => eq60 rs rs' lv lv' c d c' d' e f e' f' w
  rw [show (a == a' && b == b') = tB a b a' b' from rfl] at q1
  rw [show (rs.toList == rs'.toList && lv == lv' && (c == c' && d == d') && (e == e' && f == f')) = cB rs rs' lv lv' c d c' d' e f e' f' from rfl] at q2
  obtain ⟨C, hC⟩ : ∃ C, C = cmd h s rs a b lv c d e f := ⟨_, rfl⟩
  obtain ⟨D, hD⟩ : ∃ D, D = cmd h' s' rs' a' b' lv' c' d' e' f' := ⟨_, rfl⟩
  have i0 : C[0]? = some (.string ⟨#[102, 101, 110, 99, 101]⟩) := by rw [hC]; rfl
  have i4 : C[4]? = some (.string rs) := by rw [hC]; rfl
  have i5 : C[5]? = some (.int .i64 lv) := by rw [hC]; rfl
  have i6 : C[6]? = some (.int .u64 c) := by rw [hC]; rfl
  have i7 : C[7]? = some (.int .i64 d) := by rw [hC]; rfl
  have i8 : C[8]? = some (.pointer none) := by rw [hC]; rfl
  have i9 : C[9]? = some (.int .u64 e) := by rw [hC]; rfl
  have i10 : C[10]? = some (.int .i64 f) := by rw [hC]; rfl
  have i11 : C[11]? = some (.pointer none) := by rw [hC]; rfl
  have i18 : C[18]? = some (.string h) := by rw [hC]; rfl
  have i19 : C[19]? = some (.string s) := by rw [hC]; rfl
  have i24 : C[24]? = some (.int .u64 a) := by rw [hC]; rfl
  have i25 : C[25]? = some (.int .i64 b) := by rw [hC]; rfl
  have i26 : C[26]? = some (.pointer none) := by rw [hC]; rfl
  have j0 : D[0]? = some (.string ⟨#[102, 101, 110, 99, 101]⟩) := by rw [hD]; rfl
  have j4 : D[4]? = some (.string rs') := by rw [hD]; rfl
  have j5 : D[5]? = some (.int .i64 lv') := by rw [hD]; rfl
  have j6 : D[6]? = some (.int .u64 c') := by rw [hD]; rfl
  have j7 : D[7]? = some (.int .i64 d') := by rw [hD]; rfl
  have j8 : D[8]? = some (.pointer none) := by rw [hD]; rfl
  have j9 : D[9]? = some (.int .u64 e') := by rw [hD]; rfl
  have j10 : D[10]? = some (.int .i64 f') := by rw [hD]; rfl
  have j11 : D[11]? = some (.pointer none) := by rw [hD]; rfl
  have j18 : D[18]? = some (.string h') := by rw [hD]; rfl
  have j19 : D[19]? = some (.string s') := by rw [hD]; rfl
  have j24 : D[24]? = some (.int .u64 a') := by rw [hD]; rfl
  have j25 : D[25]? = some (.int .i64 b') := by rw [hD]; rfl
  have j26 : D[26]? = some (.pointer none) := by rw [hD]; rfl
  rw [← hC, ← hD]
  clear hC hD
  go_enter Try.func21, Try.ntmps21
  go_wp2
  · rename_i h1 h2 h3
    go_ret
    exact ⟨rb (x := cB rs rs' lv lv' c d c' d' e f e' f') (by simp [alikeB, h1, h2, h3]), (ga _ _).trans (ga _ _)⟩
  · rename_i h1 h2 h3
    go_ret
    exact ⟨rb (x := false) (by simp [alikeB, h1, h2, h3]), (ga _ _).trans (ga _ _)⟩
  · rename_i h1 h2
    go_ret
    exact ⟨rb (x := false) (by simp [alikeB, h2]), (ga _ _).trans (ga _ _)⟩
  · rename_i h1
    go_ret
    exact ⟨rb (x := false) (by simp [alikeB, h1]), (ga _ _).trans (ga _ _)⟩
end Go.Proofs.Qxb6618727a.tm
