import Derived.Test.Qxb6618675aToMsg
namespace Go.Proofs.Qxb6618675a.walks
open Go.RowKit Go.Proofs.Qxb6618675a.mem

/-- an arena's seven cells: the lock's two, the four arrays' headers, 'rewound' -/
def arena (st : Int) (h1 h2 h3 h4 : Value) : Array Value := #[.int .i32 st, .int .u32 0, h1, h2, h3, h4, .bool false]
theorem size28 : (Try.prog.info? 28).map (·.size) = some 3 := by kernel_rfl

set_option maxHeartbeats 4000000 in
set_option maxRecDepth 10000 in
/-- ZZnewTranscript -/
theorem f8 (v : Value) (a : Option Addr) (n c : Nat) (w : World) (hv : v = .slice a n c) :
    Calls Try.prog 8 #[v] w fun e w' => ∃ p L, e = .returned (.agg #[v, .pointer (some ⟨p, 0, none⟩), .pointer (some ⟨L, 0, none⟩)]) ∧
      w'.heap[L]? = some (.cells (arena 0 (.slice none 0 0) (.slice none 0 0) (.slice none 0 0) (.slice none 0 0)) 64 (0, 0)) ∧ w.heap.size ≤ L ∧ w.grownBy w' none := by
  subst hv
  go_enter Try.func8, Try.ntmps8
  go_wp2
  refine bodyPost_ret (v := .agg #[.slice a n c, .pointer (some ⟨w.heap.size + 1, 0, none⟩), .pointer (some ⟨w.heap.size + 1 + 1, 0, none⟩)]) (results_cell (t := 28) (b := w.heap.size) (cs := #[.slice a n c, .pointer (some ⟨w.heap.size + 1, 0, none⟩), .pointer (some ⟨w.heap.size + 1 + 1, 0, none⟩)]) Try.results8 rfl ?_ Try.underlying28 rfl size28) rfl ⟨_, _, rfl, ?_, ?_, ?_⟩
  · rw [heap_alloc_old _ _ (by simp; omega), heap_alloc_old _ _ (by simp), heap_alloc_new]
  · have := heap_alloc_new ((w.alloc (.cells #[.slice a n c, .pointer (some ⟨w.heap.size + 1, 0, none⟩), .pointer (some ⟨w.heap.size + 1 + 1, 0, none⟩)] 28)).alloc (.cells (arena 0 (.slice none 0 0) (.slice none 0 0) (.slice none 0 0) (.slice none 0 0)) 64)) (.cells (arena 0 (.slice none 0 0) (.slice none 0 0) (.slice none 0 0) (.slice none 0 0)) 64)
    simpa [arena] using this
  · omega
  · exact ((ga _ _).trans (ga _ _)).trans (ga _ _)
end Go.Proofs.Qxb6618675a.walks
