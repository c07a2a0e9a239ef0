import Derived.Test.Qxb6618727aAlike
import Derived.Deep.RegionHeld3
namespace Go.Proofs.Qxb6618727a.tm
open Go.RowKit

/-- a block that is known whole -/
def Row (w : World) (b n : Nat) : Prop := ∃ old t, w.heap[b]? = some (.cells old t (0, 0)) ∧ old.size = n
theorem Row.lt {w : World} {b n : Nat} (h : Row w b n) : b < w.heap.size := by
  obtain ⟨old, t, h, _⟩ := h
  exact (Array.getElem?_eq_some_iff.1 h).1
theorem Row.kept {w w1 : World} {b n : Nat} (h : Row w b n) (hg : w.grownBy w1 none) : Row w1 b n := by
  have hlt := h.lt
  obtain ⟨old, t, h, hn⟩ := h
  exact ⟨old, t, by rw [hg.block b hlt (by simp)]; exact h, hn⟩
theorem Row.new {w : World} {b n : Nat} {cs : Array Value} {t : TypeId} (hb : b = w.heap.size) (hn : cs.size = n) : Row (w.alloc (.cells cs t)) b n := by
  subst hb
  exact ⟨cs, t, heap_alloc_last w _, hn⟩
theorem run_storeRow {P : Program} (cs : Array Value) (n : Nat) (hs : cs.size = n) (h1 : cs.all (·.oneCell') = true) (w : World) (b : Nat) (hr : Row w b n) :
    (storeCells ⟨b, 0, none⟩ cs.toList).run P w = .ok () (w.setRow b cs) := by
  obtain ⟨old, t, hg, hn⟩ := hr
  have := run_storeCells_from (P := P) b t cs.toList 0 old w hg (by simp; omega) (fun v hv => (Array.all_eq_true_iff_forall_mem.1 h1) v (by simpa using hv))
  simpa using this
theorem blk_setRow_other {w : World} {b b' : Nat} {cs : Array Value} (cs' : Array Value) (hne : b ≠ b') (h : ∀ j, w.cell? ⟨b, j, none⟩ = cs[j]?) : ∀ j, (w.setRow b' cs').cell? ⟨b, j, none⟩ = cs[j]? := by
  intro j
  rw [World.cell?_of_block (w := w) (setRow_other w b' b cs' hne), h j]
theorem blk_setRow_same {w : World} {b n : Nat} (cs : Array Value) (h : Row w b n) : ∀ j, (w.setRow b cs).cell? ⟨b, j, none⟩ = cs[j]? := by
  intro j
  obtain ⟨old, t, hg, _⟩ := h
  exact cell_of_row _ b j cs t (0, 0) (setRow_heap w b old cs t _ hg)
theorem gset {w w1 : World} (h : w.grownBy w1 none) {b : Nat} (hb : w.heap.size ≤ b) (cs : Array Value) : w.grownBy (w1.setRow b cs) none :=
  ⟨h.os, h.tape, h.output, by simpa [World.setRow] using h.size, fun k hk hne => (setRow_other w1 b k cs (by omega)).trans (h.block k hk hne)⟩

theorem row_new' (w : World) (cs : Array Value) (t : TypeId) (n : Nat) (h : cs.size = n) : Row (w.alloc (.cells cs t)) w.heap.size n := Row.new rfl h

theorem row_newd (w : World) (cs : Array Value) (t : TypeId) (n : Nat) (h : cs.size = n) : Row (w.alloc (.cells cs t)).drew w.heap.size n := Row.kept (row_new' w cs t n h) (gd _)

theorem size_setRow (w : World) (b : Nat) (cs : Array Value) : (w.setRow b cs).heap.size = w.heap.size := by simp [World.setRow]
theorem eq55 (r r' : ByteArray) (l l' a b a' b' : Int) (w : World) : (binOp .eql 55 (.agg #[.string r, .int .i64 l, .int .i64 a, .int .i64 b]) (.agg #[.string r', .int .i64 l', .int .i64 a', .int .i64 b'])).run Try.prog w
    = .ok (.bool (r.toList == r'.toList && l == l' && a == a' && b == b')) w := by
  by_cases e0 : r.toList = r'.toList
  · by_cases e3 : l = l'
    · by_cases e1 : a = a'
      · by_cases e2 : b = b'
        · simp [go_sem, Try.underlying55, e0, e3, e1, e2]
        · simp [go_sem, Try.underlying55, e0, e3, e1, e2]
      · simp [go_sem, Try.underlying55, e0, e3, e1]
    · simp [go_sem, Try.underlying55, e0, e3]
  · simp [go_sem, Try.underlying55, e0]

theorem tB_iff (n n' : Int) : tB (tw n) (te n) (tw n') (te n') = (n == n') := by
  unfold tB
  rw [Bool.eq_iff_iff]
  simp only [Bool.and_eq_true, beq_iff_eq]
  exact ⟨fun e => t_inj e.1 e.2, fun e => by rw [e]; exact ⟨rfl, rfl⟩⟩
theorem cB_iff (r r' : ByteArray) (l l' x y x' y' : Int) : cB r r' l l' (tw x) (te x) (tw x') (te x') (tw y) (te y) (tw y') (te y') = (r.toList == r'.toList && l == l' && x == x' && y == y') := by
  have h1 := tB_iff x x'
  have h2 := tB_iff y y'
  unfold tB at h1 h2
  unfold cB
  rw [h1, h2]

theorem hide' {p : Prop} (h : p) : Hid p := h
/-- what lies still: the two boxes; nothing old has turned -/
structure Inv (w W : World) (A B : Array Value) : Prop where
  one : ∀ j, W.cell? ⟨w.heap.size, j, none⟩ = A[j]?
  two : ∀ j, W.cell? ⟨w.heap.size + 1, j, none⟩ = B[j]?
  old : w.grownBy W none
  size : w.heap.size + 2 ≤ W.heap.size
  a0 : 0 < A.size
  b0 : 0 < B.size
theorem Inv.kept {w W W' : World} {A B : Array Value} (h : Inv w W A B) (hg : W.grownBy W' none) : Inv w W' A B :=
  ⟨blk_kept hg h.one h.a0, blk_kept hg h.two h.b0, h.old.trans hg, Nat.le_trans h.size hg.size, h.a0, h.b0⟩
theorem Inv.set {w W : World} {A B : Array Value} (h : Inv w W A B) {b : Nat} (hb : w.heap.size + 2 ≤ b) (cs : Array Value) : Inv w (W.setRow b cs) A B :=
  ⟨blk_setRow_other cs (by omega) h.one, blk_setRow_other cs (by omega) h.two, gset h.old (by omega) cs, by have := h.size; simpa [World.setRow] using this, h.a0, h.b0⟩
theorem Inv.hkept {w W W' : World} {A B : Array Value} (h : Hid (Inv w W A B)) (hg : W.grownBy W' none) : Hid (Inv w W' A B) := Inv.kept h hg
theorem Inv.cells {w W : World} {A B : Array Value} (h : Inv w W A B) : (∀ j, W.cell? ⟨w.heap.size, j, none⟩ = A[j]?) ∧ (∀ j, W.cell? ⟨w.heap.size + 1, j, none⟩ = B[j]?) := ⟨h.one, h.two⟩


set_option maxHeartbeats 2000000 in
set_option maxRecDepth 10000 in
theorem f5 (h s rs h' s' rs' : ByteArray) (n lv x y n' lv' x' y' : Int) (w : World) (h1 : h.size ≤ maxLen) (h2 : s.size ≤ maxLen) (h3 : rs.size ≤ maxLen) (h4 : h'.size ≤ maxLen) (h5 : s'.size ≤ maxLen) (h6 : rs'.size ≤ maxLen)
    (n1 : -9223372036854775808 ≤ n ∧ n ≤ 9223372036854775807) (x1 : -9223372036854775808 ≤ x ∧ x ≤ 9223372036854775807) (y1 : -9223372036854775808 ≤ y ∧ y ≤ 9223372036854775807)
    (n2 : -9223372036854775808 ≤ n' ∧ n' ≤ 9223372036854775807) (x2 : -9223372036854775808 ≤ x' ∧ x' ≤ 9223372036854775807) (y2 : -9223372036854775808 ≤ y' ∧ y' ≤ 9223372036854775807) :
    Calls Try.prog 5 #[.string h, .string s, .int .i64 n, .agg #[.string rs, .int .i64 lv, .int .i64 x, .int .i64 y], .string h', .string s', .int .i64 n', .agg #[.string rs', .int .i64 lv', .int .i64 x', .int .i64 y']] w
      fun e w' => e = .returned (.bool true) ∧ w.grownBy w' none := by
  have C15 : Hid (∀ w, Calls _ _ _ _ _) := fun w => f15 h s rs h' s' rs' n lv x y n' lv' x' y' w h1 h2 h3 h4 h5 h6
  have C19 : Hid (∀ w, Calls _ _ _ _ _) := fun w => f19 n w n1.1 n1.2
  have C19' : Hid (∀ w, Calls _ _ _ _ _) := fun w => f19 n' w n2.1 n2.2
  have C20 : Hid (∀ w, Calls _ _ _ _ _) := fun w => f20 rs lv x y w x1.1 x1.2 y1.1 y1.2
  have C20' : Hid (∀ w, Calls _ _ _ _ _) := fun w => f20 rs' lv' x' y' w x2.1 x2.2 y2.1 y2.2
  have C16 : Hid (∀ a w, _ → _ → Calls _ _ _ _ _) := fun a w e1 e2 => f16 a rs lv x y w e1 e2 h3
  have C16' : Hid (∀ a w, _ → _ → Calls _ _ _ _ _) := fun a w e1 e2 => f16 a rs' lv' x' y' w e1 e2 h6
  unfold maxLen at h1 h2 h3 h4 h5 h6
  clear n1 x1 y1 n2 x2 y2
  obtain ⟨A, hA⟩ : ∃ A : Array Value, A = #[.string rs, .int .i64 lv, .int .i64 x, .int .i64 y] := ⟨_, rfl⟩
  obtain ⟨A', hA'⟩ : ∃ A' : Array Value, A' = #[.string rs', .int .i64 lv', .int .i64 x', .int .i64 y'] := ⟨_, rfl⟩
  go_enter Try.func5, Try.ntmps5
  go_wp2_with fail
  refine (C15.out _).mono ?_
  rintro e w1 ⟨r, rfl, g1⟩
  have K1 := blk_kept g1 (blk_kept (ga _ _) (blk_new w #[.string rs, .int .i64 lv, .int .i64 x, .int .i64 y] 55) (by simp)) (by simp)
  have K2 := blk_kept g1 (blk_new (w.alloc (.cells #[.string rs, .int .i64 lv, .int .i64 x, .int .i64 y] 55)) #[.string rs', .int .i64 lv', .int .i64 x', .int .i64 y'] 55) (by simp)
  rw [show (w.alloc (.cells #[.string rs, .int .i64 lv, .int .i64 x, .int .i64 y] 55)).heap.size = w.heap.size + 1 by simp] at K2
  have G1 : w.grownBy w1 none := ((ga _ _).trans (ga _ _)).trans g1
  cases r
  · go_wp2
    go_ret
    exact ⟨rfl, G1⟩
  · go_wp2_with fail
    have hsz : w.heap.size + 2 ≤ w1.heap.size := by have := g1.size; simp at this; omega
    have I : Hid (Inv w w1.drew #[.string rs, .int .i64 lv, .int .i64 x, .int .i64 y] #[.string rs', .int .i64 lv', .int .i64 x', .int .i64 y']) := Inv.kept ⟨K1, K2, G1, hsz, by simp, by simp⟩ (gd _)
    clear K1 K2 C15 hsz
    go_region_held3 (fun w' => (∀ j, w'.cell? ⟨w.heap.size, j, none⟩ = (#[.string rs, .int .i64 lv, .int .i64 x, .int .i64 y] : Array Value)[j]?) ∧ (∀ j, w'.cell? ⟨w.heap.size + 1, j, none⟩ = (#[.string rs', .int .i64 lv', .int .i64 x', .int .i64 y'] : Array Value)[j]?))
      (with_reducible exact I.out.cells)
      (first
        | (go_at_call 17; refine (f17 _ _ _ (by omega) (by omega) (by omega)).mono ?_; rintro e w2 ⟨r1, rfl, hr1, hr1', rfl⟩)
        | (go_at_call_of 16 (Value.agg #[Value.string rs, Value.int IntKind.i64 lv, Value.int IntKind.i64 x, Value.int IntKind.i64 y]); refine (C16.out _ _ (by omega) (by omega)).mono ?_; rintro e w2 ⟨r1, rfl, hr1, hr1', hg2⟩; have I := (by with_reducible exact Inv.hkept I hg2))
        | (go_at_call_of 16 (Value.agg #[Value.string rs', Value.int IntKind.i64 lv', Value.int IntKind.i64 x', Value.int IntKind.i64 y']); refine (C16'.out _ _ (by omega) (by omega)).mono ?_; rintro e w2 ⟨r1, rfl, hr1, hr1', hg2⟩; have I := (by with_reducible exact Inv.hkept I hg2)))
    go_wp2_with fail
    · go_ret
      exact ⟨rfl, I.out.old⟩
    · obtain ⟨C, hC⟩ : ∃ C, Hid (C = cmd h s rs (tw n) (te n) lv (tw x) (te x) (tw y) (te y)) := ⟨_, rfl⟩
      obtain ⟨D, hD⟩ : ∃ D, Hid (D = cmd h' s' rs' (tw n') (te n') lv' (tw x') (te x') (tw y') (te y')) := ⟨_, rfl⟩
      have C21 : Hid (∀ w, Calls Try.prog 21 #[.agg C, .agg D] w fun r w' => r = .returned (.bool (alikeB h s rs h' s' rs' (tw n) (te n) lv (tw x) (te x) (tw y) (te y) (tw n') (te n') lv' (tw x') (te x') (tw y') (te y'))) ∧ w.grownBy w' none) := by
        rw [hC.out, hD.out]; exact fun w => f21 _ _ _ _ _ _ _ _ _ _ _ _ _ _ _ _ _ _ _ _ w
      have C18 : Hid (∀ w, Calls Try.prog 18 #[.string h, .string s, .agg #[.int .u64 (tw n), .int .i64 (te n), .pointer none], .agg #[.string rs, .int .i64 lv, .int .u64 (tw x), .int .i64 (te x), .pointer none, .int .u64 (tw y), .int .i64 (te y), .pointer none]] w fun r w' => r = .returned (.agg C) ∧ w.grownBy w' none) := by
        rw [hC.out]; exact fun w => f18 _ _ _ _ _ _ _ _ _ _ w
      have sC : C.size = 35 := by rw [hC.out]; rfl
      have oC : C.all (·.oneCell') = true := by rw [hC.out]; exact cmd_one _ _ _ _ _ _ _ _ _ _
      have hst := run_storeRow (P := Try.prog) C 35 sC oC
      have hrn := row_new'
      clear C16 C16'
      go_cut [17] (fun p wc => ∃ bx, p = .pointer (some ⟨bx, 0, none⟩) ∧ (∀ j, wc.cell? ⟨bx, j, none⟩ = C[j]?) ∧ w.heap.size + 2 ≤ bx ∧ bx < wc.heap.size ∧ Inv w wc #[.string rs, .int .i64 lv, .int .i64 x, .int .i64 y] #[.string rs', .int .i64 lv', .int .i64 x', .int .i64 y'])
      case first =>
        have I0 := I
        have I : Hid (Inv w w2.drew #[.string rs, .int .i64 lv, .int .i64 x, .int .i64 y] #[.string rs', .int .i64 lv', .int .i64 x', .int .i64 y']) := I.out.kept (gd _)
        go_region_held (fun w' => (∀ j, w'.cell? ⟨w.heap.size, j, none⟩ = (#[.string rs, .int .i64 lv, .int .i64 x, .int .i64 y] : Array Value)[j]?) ∧ (∀ j, w'.cell? ⟨w.heap.size + 1, j, none⟩ = (#[.string rs', .int .i64 lv', .int .i64 x', .int .i64 y'] : Array Value)[j]?))
          (first
            | with_reducible exact I.out.cells
            | with_reducible exact (I.out.kept (ga _ _)).cells
            | with_reducible exact (I0.out.kept ((ga _ _).trans (gd _))).cells
            | with_reducible exact (I.out.set hbx _).cells
            | with_reducible exact ((I.out.kept (ga _ _)).set I.out.size _).cells)
          (first
            | (go_at_call 19; refine (C19.out _).mono ?_; rintro e w3 ⟨rfl, hg⟩; have I := (by with_reducible exact Inv.hkept I hg))
            | (go_at_call 19; refine (C19.out _).mono ?_; rintro e w3 ⟨rfl, hg⟩; have hbx := I0.out.size; have hrow : Row w3 _ 35 := Row.kept (row_newd _ _ _ _ rfl) hg; have I := (by with_reducible exact Inv.hkept I0 (((ga _ _).trans (gd _)).trans hg)))
            | (go_at_call 20; refine (C20.out _).mono ?_; rintro e w3 ⟨rfl, hg⟩; have hrow := Row.kept hrow hg; have I := (by with_reducible exact Inv.hkept I hg))
            | (go_at_call 20; refine (C20.out _).mono ?_; rintro e w3 ⟨rfl, hg⟩; have I := (by with_reducible exact Inv.hkept I hg))
            | (go_at_call 20; refine (C20.out _).mono ?_; rintro e w3 ⟨rfl, hg⟩; have hbx := I.out.size; have hrow : Row w3 _ 35 := Row.kept (row_new' _ _ _ _ rfl) hg; have I := (by with_reducible exact Inv.hkept I ((ga _ _).trans hg)))
            | (go_at_call 18; refine (C18.out _).mono ?_; rintro e w3 ⟨rfl, hg⟩; have hrow := Row.kept hrow hg; have I := (by with_reducible exact Inv.hkept I hg))
            | (go_at_call 18; refine (C18.out _).mono ?_; rintro e w3 ⟨rfl, hg⟩; have I := (by with_reducible exact Inv.hkept I hg))
            | (go_at_call 18; refine (C18.out _).mono ?_; rintro e w3 ⟨rfl, hg⟩; have hbx := I.out.size; have hrow : Row w3 _ 35 := Row.kept (row_new' _ _ _ _ rfl) hg; have I := (by with_reducible exact Inv.hkept I ((ga _ _).trans hg))))
        all_goals go_wp2
        · go_meet
          case rel => exact ⟨_, rfl, blk_setRow_same C (row_new' _ _ _ _ rfl), I.out.size, by rw [size_setRow]; exact (row_new' _ _ _ 35 rfl).lt, (I.out.kept (ga _ _)).set I.out.size C⟩
        all_goals
          go_meet
          case rel => exact ⟨_, rfl, blk_setRow_same C hrow, hbx, by rw [size_setRow]; exact hrow.lt, I.out.set hbx C⟩
      case rest =>
        obtain ⟨bx, hp, BX, hx1, hx2, I1⟩ := hcut
        subst hp
        have I : Hid (Inv w wc _ _) := I1
        have HBX : Hid (∀ j, _) := BX
        clear BX I1 hst sC oC C19 C20 C18
        have C18' : Hid (∀ w, Calls Try.prog 18 #[.string h', .string s', .agg #[.int .u64 (tw n'), .int .i64 (te n'), .pointer none], .agg #[.string rs', .int .i64 lv', .int .u64 (tw x'), .int .i64 (te x'), .pointer none, .int .u64 (tw y'), .int .i64 (te y'), .pointer none]] w fun r w' => r = .returned (.agg D) ∧ w.grownBy w' none) := by
          rw [hD.out]; exact fun w => f18 _ _ _ _ _ _ _ _ _ _ w
        have sD : D.size = 35 := by rw [hD.out]; rfl
        have oD : D.all (·.oneCell') = true := by rw [hD.out]; exact cmd_one _ _ _ _ _ _ _ _ _ _
        have hst := run_storeRow (P := Try.prog) D 35 sD oD
        go_wp2_with fail
        go_cut [18] (fun p wd => ∃ bz, p = .pointer (some ⟨bz, 0, none⟩) ∧ (∀ j, wd.cell? ⟨bz, j, none⟩ = D[j]?) ∧ wc.grownBy wd none ∧ Inv w wd #[.string rs, .int .i64 lv, .int .i64 x, .int .i64 y] #[.string rs', .int .i64 lv', .int .i64 x', .int .i64 y'])
        case first =>
          have I0 := I
          have I : Hid (Inv w wc.drew #[.string rs, .int .i64 lv, .int .i64 x, .int .i64 y] #[.string rs', .int .i64 lv', .int .i64 x', .int .i64 y']) := I.out.kept (gd _)
          have Q : Hid (wc.grownBy wc.drew none) := gd _
          go_region_held (fun w' => (∀ j, w'.cell? ⟨w.heap.size, j, none⟩ = (#[.string rs, .int .i64 lv, .int .i64 x, .int .i64 y] : Array Value)[j]?) ∧ (∀ j, w'.cell? ⟨w.heap.size + 1, j, none⟩ = (#[.string rs', .int .i64 lv', .int .i64 x', .int .i64 y'] : Array Value)[j]?))
            (first
              | with_reducible exact I.out.cells
              | with_reducible exact (I.out.kept (ga _ _)).cells
              | with_reducible exact (I0.out.kept ((ga _ _).trans (gd _))).cells
              | with_reducible exact (I.out.set hbx _).cells
              | with_reducible exact ((I.out.kept (ga _ _)).set I.out.size _).cells)
            (first
              | (go_at_call 19; refine (C19'.out _).mono ?_; rintro e w3 ⟨rfl, hg⟩; have I := (by with_reducible exact Inv.hkept I hg); have Q : Hid (wc.grownBy w3 none) := Q.out.trans hg)
              | (go_at_call 19; refine (C19'.out _).mono ?_; rintro e w3 ⟨rfl, hg⟩; have hbx := I0.out.size; have hrow : Row w3 _ 35 := Row.kept (row_newd _ _ _ _ rfl) hg; have hby := Nat.le_refl wc.heap.size; have Q : Hid (wc.grownBy w3 none) := ((ga _ _).trans (gd _)).trans hg; have I := (by with_reducible exact Inv.hkept I0 (((ga _ _).trans (gd _)).trans hg)))
              | (go_at_call 20; refine (C20'.out _).mono ?_; rintro e w3 ⟨rfl, hg⟩; have hrow := Row.kept hrow hg; have I := (by with_reducible exact Inv.hkept I hg); have Q : Hid (wc.grownBy w3 none) := Q.out.trans hg)
              | (go_at_call 20; refine (C20'.out _).mono ?_; rintro e w3 ⟨rfl, hg⟩; have I := (by with_reducible exact Inv.hkept I hg); have Q : Hid (wc.grownBy w3 none) := Q.out.trans hg)
              | (go_at_call 20; refine (C20'.out _).mono ?_; rintro e w3 ⟨rfl, hg⟩; have hbx := I.out.size; have hby := Q.out.size; have hrow : Row w3 _ 35 := Row.kept (row_new' _ _ _ _ rfl) hg; have Q : Hid (wc.grownBy w3 none) := Q.out.trans ((ga _ _).trans hg); have I := (by with_reducible exact Inv.hkept I ((ga _ _).trans hg)))
              | (go_at_call 18; refine (C18'.out _).mono ?_; rintro e w3 ⟨rfl, hg⟩; have hrow := Row.kept hrow hg; have I := (by with_reducible exact Inv.hkept I hg); have Q : Hid (wc.grownBy w3 none) := Q.out.trans hg)
              | (go_at_call 18; refine (C18'.out _).mono ?_; rintro e w3 ⟨rfl, hg⟩; have I := (by with_reducible exact Inv.hkept I hg); have Q : Hid (wc.grownBy w3 none) := Q.out.trans hg)
              | (go_at_call 18; refine (C18'.out _).mono ?_; rintro e w3 ⟨rfl, hg⟩; have hbx := I.out.size; have hby := Q.out.size; have hrow : Row w3 _ 35 := Row.kept (row_new' _ _ _ _ rfl) hg; have Q : Hid (wc.grownBy w3 none) := Q.out.trans ((ga _ _).trans hg); have I := (by with_reducible exact Inv.hkept I ((ga _ _).trans hg))))
          all_goals go_wp2
          · go_meet
            case rel => exact ⟨_, rfl, blk_setRow_same D (row_new' _ _ _ _ rfl), gset (Q.out.trans (ga _ _)) Q.out.size D, (I.out.kept (ga _ _)).set I.out.size D⟩
          all_goals
            go_meet
            case rel => exact ⟨_, rfl, blk_setRow_same D hrow, gset Q.out hby D, I.out.set hbx D⟩
        case rest =>
          obtain ⟨bz, hp, BZ, QQ, I1⟩ := hcut
          subst hp
          have BX := blk_kept QQ HBX.out (by rw [hC.out]; simp [cmd_size])
          have B1 := I1.one
          have B2 := I1.two
          have GD := hide' I1.old
          have q55 := fun w => eq55 rs rs' lv lv' x y x' y' w
          obtain ⟨sB, hsB⟩ : ∃ sB : Bool, Hid (sB = (rs.toList == rs'.toList && lv == lv' && x == x' && y == y')) := ⟨_, rfl⟩
          rw [← hsB.out] at q55
          obtain ⟨SA, hSA⟩ : ∃ SA : Bool, Hid (SA = (h.toList == h'.toList && s.toList == s'.toList && n == n' && sB)) := ⟨_, rfl⟩
          have hAL : Hid (alikeB h s rs h' s' rs' (tw n) (te n) lv (tw x) (te x) (tw y) (te y) (tw n') (te n') lv' (tw x') (te x') (tw y') (te y') = SA) := by
            show _ = _
            rw [hSA.out, hsB.out]; unfold alikeB; rw [tB_iff, cB_iff]
          rw [hAL.out] at C21
          have BXr : wc.rangeAt bx 0 C.toList := fun j v hv => by rw [Nat.zero_add, BX j]; simpa using hv
          have BZr : wc.rangeAt bz 0 D.toList := fun j v hv => by rw [Nat.zero_add, BZ j]; simpa using hv
          have zC : (Try.prog.info? 72).map (·.size) = some C.toList.length := by rw [hC.out, Array.length_toList, cmd_size]; exact size72
          have zD : (Try.prog.info? 72).map (·.size) = some D.toList.length := by rw [hD.out, Array.length_toList, cmd_size]; exact size72
          have HX := hide' (And.intro BX BZ)
          have HXr := hide' (And.intro BXr BZr)
          have HZ := hide' (And.intro zC zD)
          clear I1 I HBX hst sD oD C18' C19' C20' QQ hrn hAL BX BZ BXr BZr zC zD h1 h2 h3 h4 h5 h6
          obtain ⟨nb, hnb⟩ : ∃ nb : Bool, (n == n') = nb := ⟨_, rfl⟩
          rw [hnb] at hSA
          go_upto_region 7 with fail
          go_cut [19] (fun p wx => p = .bool SA ∧ wx = wc)
          case first =>
            go_wp2_with fail
            all_goals go_meet
            all_goals
              case rel => exact ⟨congrArg Value.bool (by rw [hSA.out]; simp [*]), rfl⟩
          case rest =>
            obtain ⟨hp, hw⟩ := hcut
            subst hp
            subst hw
            clear B1 B2 q55
            go_wp2_with (first | (refine wpList_load_mid rfl 72 _ rfl bx 0 rfl C.toList _ HXr.out.1 Try.underlying72 rfl HZ.out.1 ?_) | (refine wpList_load_mid rfl 72 _ rfl bz 0 rfl D.toList _ HXr.out.2 Try.underlying72 rfl HZ.out.2 ?_))
            refine (C21.out _).mono ?_
            rintro e w6 ⟨rfl, hg6⟩
            have d1 := (blk_kept hg6 HX.out.1 (by rw [hC.out]; simp [cmd_size]) 18).trans (show C[18]? = some (.string h) by rw [hC.out]; rfl)
            have d2 := (blk_kept hg6 HX.out.2 (by rw [hD.out]; simp [cmd_size]) 18).trans (show D[18]? = some (.string h') by rw [hD.out]; rfl)
            go_wp2
            go_ret
            exact ⟨rfl, GD.out.trans hg6⟩
end Go.Proofs.Qxb6618727a.tm
