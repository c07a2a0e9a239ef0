import Derived.Test.Qxb6618727aTime
import Derived.Deep.QuietTactic
import Derived.BigQuiet
import Derived.Deep.RegionLaw
import Derived.Deep.DeepCutAuto
import Derived.Deep.WholeRow
import Derived.Deep.MidRow
namespace Go.Proofs.Qxb6618727a.tm
open Go.RowKit

theorem results_cell {fn : Func} {p : Tmp} {ty : TypeId} (h : fn.results = #[.cell p ty]) {tmps : Array Value} {P : Program} {w : World} {b : Nat} {cs : Array Value} {d : TypeDesc}
    (hp : tmps.getD p undef = .pointer (some ⟨b, 0, none⟩)) (hc : ∀ j, w.cell? ⟨b, j, none⟩ = cs[j]?) (hu : P.underlying ty = some d) (hd : d.isRow = true) (hi : (P.info? ty).map (·.size) = some cs.size) :
    (results fn tmps).run P w = .ok (.agg cs) w := by
  have hr : w.rangeAt b 0 cs.toList := fun j v hv => by rw [Nat.zero_add, hc j]; simpa using hv
  have hl := run_loadVar_mid (P := P) w b 0 ty cs.toList d hr hu hd (by simpa using hi)
  have hp' : tmps[p]?.getD undef = .pointer (some ⟨b, 0, none⟩) := by simpa using hp
  simp only [results, h]
  simp [asAddr, hp', hl]

/-- a Command that fences, as its cells -/
def cmd (h s rs : ByteArray) (a b lv c d e f : Int) : Array Value :=
  #[.string ⟨#[102, 101, 110, 99, 101]⟩, .int .i64 0, .int .u64 0, .int .i64 0, .string rs, .int .i64 lv, .int .u64 c, .int .i64 d, .pointer none, .int .u64 e, .int .i64 f,
    .pointer none, .pointer none, .string ⟨#[]⟩, .string ⟨#[]⟩, .string ⟨#[]⟩, .int .u64 0, .int .i64 0, .string h, .string s, .map none, .pointer none, .int .i64 0, .pointer none,
    .int .u64 a, .int .i64 b, .pointer none, .int .u64 0, .int .i64 0, .pointer none, .pointer none, .bool false, .string ⟨#[]⟩, .string ⟨#[]⟩, .slice none 0 0]

theorem size72 : (Try.prog.info? 72).map (·.size) = some 35 := by kernel_rfl
theorem cmd_size (h s rs : ByteArray) (a b lv c d e f : Int) : (cmd h s rs a b lv c d e f).size = 35 := rfl
theorem cmd_one (h s rs : ByteArray) (a b lv c d e f : Int) : (cmd h s rs a b lv c d e f).all (·.oneCell') = true := by simp [cmd, Value.oneCell']

set_option maxHeartbeats 1000000 in
theorem f18 (h s rs : ByteArray) (a b lv c d e f : Int) (w : World) :
    Calls Try.prog 18 #[.string h, .string s, .agg #[.int .u64 a, .int .i64 b, .pointer none], .agg #[.string rs, .int .i64 lv, .int .u64 c, .int .i64 d, .pointer none, .int .u64 e, .int .i64 f, .pointer none]] w fun r w' => r = .returned (.agg (cmd h s rs a b lv c d e f)) ∧ w.grownBy w' none := by
  go_enter Try.func18, Try.ntmps18
  go_wp2_with (refine wpList_store_row rfl 72 _ _ rfl (w.heap.size + 1 + 1) (cmd h s rs a b lv c d e f) rfl rfl 72 _ (by simpa using heap_alloc_last ((w.alloc (.cells #[.int .u64 a, .int .i64 b, .pointer none] 45)).alloc (.cells #[.string rs, .int .i64 lv, .int .u64 c, .int .i64 d, .pointer none, .int .u64 e, .int .i64 f, .pointer none] 60)) _) size72 (by rfl) (cmd_one _ _ _ _ _ _ _ _ _ _) ?_)
  have e1 := World.setRow_alloc_new ((w.alloc (.cells #[.int .u64 a, .int .i64 b, .pointer none] 45)).alloc (.cells #[.string rs, .int .i64 lv, .int .u64 c, .int .i64 d, .pointer none, .int .u64 e, .int .i64 f, .pointer none] 60))
  have e2 : ((w.alloc (.cells #[.int .u64 a, .int .i64 b, .pointer none] 45)).alloc (.cells #[.string rs, .int .i64 lv, .int .u64 c, .int .i64 d, .pointer none, .int .u64 e, .int .i64 f, .pointer none] 60)).heap.size = w.heap.size + 1 + 1 := by simp
  rw [e2] at e1
  rw [e1]
  have hB := blk_new ((w.alloc (.cells #[.int .u64 a, .int .i64 b, .pointer none] 45)).alloc (.cells #[.string rs, .int .i64 lv, .int .u64 c, .int .i64 d, .pointer none, .int .u64 e, .int .i64 f, .pointer none] 60)) (cmd h s rs a b lv c d e f) 72
  rw [e2] at hB
  exact bodyPost_ret (v := .agg (cmd h s rs a b lv c d e f)) (results_cell Try.results18 rfl hB Try.underlying72 rfl (by rw [cmd_size]; exact size72)) rfl ⟨rfl, ((ga _ _).trans (ga _ _)).trans (ga _ _)⟩

theorem f17 (a b : Int) (w : World) (ha : 0 ≤ a) (ha' : a ≤ 4194304) (hb : 0 ≤ b) :
    Calls Try.prog 17 #[.int .i64 a, .int .i64 b] w fun e w' => ∃ r : Int, e = .returned (.int .i64 r) ∧ 0 ≤ r ∧ r ≤ 2097152 ∧ w' = w := by
  go_enter Try.func17, Try.ntmps17
  go_wp2
  all_goals
    go_ret
    exact ⟨_, rfl, by omega, by omega, rfl⟩

theorem f16 (a : Int) (rs : ByteArray) (lv x y : Int) (w : World) (ha : 0 ≤ a) (ha' : a ≤ 4194304) (hs : rs.size ≤ maxLen) :
    Calls Try.prog 16 #[.int .i64 a, .agg #[.string rs, .int .i64 lv, .int .i64 x, .int .i64 y]] w fun e w' => ∃ r : Int, e = .returned (.int .i64 r) ∧ 0 ≤ r ∧ r ≤ 2097152 ∧ w.grownBy w' none := by
  unfold maxLen at hs
  go_enter Try.func16, Try.ntmps16
  go_wp2_with fail
  refine (f17 _ _ _ (by omega) (by omega) (by omega)).mono ?_
  rintro e w1 ⟨r, rfl, h1, h2, rfl⟩
  go_wp2
  go_ret
  exact ⟨_, rfl, h1, h2, ga _ _⟩

set_option maxHeartbeats 1000000 in
theorem f15 (h s rs h' s' rs' : ByteArray) (n lv x y n' lv' x' y' : Int) (w : World) (h1 : h.size ≤ maxLen) (h2 : s.size ≤ maxLen) (h3 : rs.size ≤ maxLen) (h4 : h'.size ≤ maxLen) (h5 : s'.size ≤ maxLen) (h6 : rs'.size ≤ maxLen) :
    Calls Try.prog 15 #[.string h, .string s, .int .i64 n, .agg #[.string rs, .int .i64 lv, .int .i64 x, .int .i64 y], .string h', .string s', .int .i64 n', .agg #[.string rs', .int .i64 lv', .int .i64 x', .int .i64 y']] w
      fun e w' => ∃ r : Bool, e = .returned (.bool r) ∧ w.grownBy w' none := by
  unfold maxLen at h1 h2 h3 h4 h5 h6
  go_enter Try.func15, Try.ntmps15
  go_wp2
  all_goals
    go_ret
    exact ⟨_, rfl, (ga _ _).trans (ga _ _)⟩
end Go.Proofs.Qxb6618727a.tm
