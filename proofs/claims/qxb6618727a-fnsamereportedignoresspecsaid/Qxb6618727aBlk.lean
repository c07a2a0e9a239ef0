/- blocks that are known whole: no dump beyond what Qxb6618727aTime brings -/
import Derived.Test.Qxb6618727aFence
namespace Go.Proofs.Qxb6618727a.blk
open Go.RowKit Go.Proofs.Qxb6618727a.tm

/-- a block that is known whole -/
def Row (w : World) (b n : Nat) : Prop := ∃ old t, w.heap[b]? = some (.cells old t (0, 0)) ∧ old.size = n
theorem Row.lt {w : World} {b n : Nat} (h : Row w b n) : b < w.heap.size := by
  obtain ⟨old, t, h, _⟩ := h
  exact (Array.getElem?_eq_some_iff.1 h).1
theorem Row.kept {w w1 : World} {b n : Nat} (h : Row w b n) (hg : w.grownBy w1 none) : Row w1 b n := by
  have hlt := h.lt
  obtain ⟨old, t, h, hn⟩ := h
  exact ⟨old, t, by rw [hg.block b hlt (by simp)]; exact h, hn⟩
theorem Row.new {w : World} {b n : Nat} {cs : Array Value} {t : TypeId} (hb : b = w.heap.size) (hn : cs.size = n) : Row (w.alloc (.cells cs t)) b n := by
  subst hb
  exact ⟨cs, t, heap_alloc_last w _, hn⟩
theorem run_storeRow {P : Program} (cs : Array Value) (n : Nat) (hs : cs.size = n) (h1 : cs.all (·.oneCell') = true) (w : World) (b : Nat) (hr : Row w b n) :
    (storeCells ⟨b, 0, none⟩ cs.toList).run P w = .ok () (w.setRow b cs) := by
  obtain ⟨old, t, hg, hn⟩ := hr
  have := run_storeCells_from (P := P) b t cs.toList 0 old w hg (by simp; omega) (fun v hv => (Array.all_eq_true_iff_forall_mem.1 h1) v (by simpa using hv))
  simpa using this
theorem blk_setRow_other {w : World} {b b' : Nat} {cs : Array Value} (cs' : Array Value) (hne : b ≠ b') (h : ∀ j, w.cell? ⟨b, j, none⟩ = cs[j]?) : ∀ j, (w.setRow b' cs').cell? ⟨b, j, none⟩ = cs[j]? := by
  intro j
  rw [World.cell?_of_block (w := w) (setRow_other w b' b cs' hne), h j]
theorem blk_setRow_same {w : World} {b n : Nat} (cs : Array Value) (h : Row w b n) : ∀ j, (w.setRow b cs).cell? ⟨b, j, none⟩ = cs[j]? := by
  intro j
  obtain ⟨old, t, hg, _⟩ := h
  exact cell_of_row _ b j cs t (0, 0) (setRow_heap w b old cs t _ hg)
theorem gset {w w1 : World} (h : w.grownBy w1 none) {b : Nat} (hb : w.heap.size ≤ b) (cs : Array Value) : w.grownBy (w1.setRow b cs) none :=
  ⟨h.os, h.tape, h.output, by simpa [World.setRow] using h.size, fun k hk hne => (setRow_other w1 b k cs (by omega)).trans (h.block k hk hne)⟩

theorem row_new' (w : World) (cs : Array Value) (t : TypeId) (n : Nat) (h : cs.size = n) : Row (w.alloc (.cells cs t)) w.heap.size n := Row.new rfl h
theorem size_setRow (w : World) (b : Nat) (cs : Array Value) : (w.setRow b cs).heap.size = w.heap.size := by simp [World.setRow]
theorem hide' {p : Prop} (h : p) : Hid p := h
theorem blk6 {w : World} {b : Nat} {a0 a1 a2 a3 a4 a5 : Value} (h : ∀ j, w.cell? ⟨b, j, none⟩ = (#[a0, a1, a2, a3, a4, a5] : Array Value)[j]?) :
    w.cell? ⟨b, 0, none⟩ = some a0 ∧ w.cell? ⟨b, 1, none⟩ = some a1 ∧ w.cell? ⟨b, 2, none⟩ = some a2 ∧ w.cell? ⟨b, 3, none⟩ = some a3 ∧ w.cell? ⟨b, 4, none⟩ = some a4 ∧ w.cell? ⟨b, 5, none⟩ = some a5 :=
  ⟨h 0, h 1, h 2, h 3, h 4, h 5⟩
theorem frz6 {w : World} {b : Nat} (h : ∀ j, w.frozen? ⟨b, j, none⟩ = false) :
    w.frozen? ⟨b, 0, none⟩ = false ∧ w.frozen? ⟨b, 1, none⟩ = false ∧ w.frozen? ⟨b, 2, none⟩ = false ∧ w.frozen? ⟨b, 3, none⟩ = false ∧ w.frozen? ⟨b, 4, none⟩ = false ∧ w.frozen? ⟨b, 5, none⟩ = false :=
  ⟨h 0, h 1, h 2, h 3, h 4, h 5⟩
end Go.Proofs.Qxb6618727a.blk
