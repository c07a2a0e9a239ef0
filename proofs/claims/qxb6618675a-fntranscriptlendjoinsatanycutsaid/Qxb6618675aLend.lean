import Derived.Test.Qxb6618675aAdd
import Derived.Test.Qxb6618675aLocks
namespace Go.Proofs.Qxb6618675a.walks
open Go.RowKit Go.Proofs.Qxb6618675a.mem Go.MuLone

/-- an arena at rest -/
structure Ar (B L : Nat) (w : World) (h1 h2 h3 h4 : Value) : Prop where
  hL : w.heap[L]? = some (.cells (arena 0 h1 h2 h3 h4) 64 (0, 0))
  d1 : Hd B w 35 5 h1
  d2 : Hd B w 69 3 h2
  d3 : Hd B w 71 4 h3
  d4 : Hd B w 5 1 h4
theorem Ar.quiet {B L : Nat} {w w' : World} {h1 h2 h3 h4 : Value} (h : Ar B L w h1 h2 h3 h4) (hg : w.grownBy w' none) : Ar B L w' h1 h2 h3 h4 :=
  ⟨(hg.block L (Array.getElem?_eq_some_iff.1 h.hL).1 (by simp)).trans h.hL, h.d1.quiet hg, h.d2.quiet hg, h.d3.quiet hg, h.d4.quiet hg⟩

/-- the post of a region that does not panic: no word of the frame at a panic -/
def Calm (Q : Exit → Act → World → Prop) : Exit → Act → World → Prop
  | .panic _, _, _ => False
  | e, a, w => Q e a w
theorem wp_calm {P : Program} {id : Nat} {ops : Array Oper} {b : Bool} {Q : Exit → Act → World → Prop} {a : Act} {w : World} (h : (Code.region id ops b).wp P (Calm Q) a w) : (Code.region id ops b).wp P Q a w :=
  Code.wp_mono (fun e a w h => by cases e <;> first | exact h | exact (h : False).elim) h
theorem Calm.normal {Q : Exit → Act → World → Prop} {a : Act} {w : World} (h : Q .normal a w) : Calm Q .normal a w := h

set_option maxHeartbeats 8000000 in
set_option maxRecDepth 10000 in
/-- clone, of no message -/
theorem f19z (B L : Nat) (a : Option Addr) (cap : Nat) (l : List Msg) (w : World) (h1 h2 h3 h4 : Value) (hA : Ar B L w h1 h2 h3 h4) :
    Calls Try.prog 19 #[.pointer (some ⟨L, 0, none⟩), .slice a 0 cap] w fun e w' =>
      ∃ v', e = .returned v' ∧ Got w' w'.heap.size v' l 0 0 ∧ (∃ h1 h2 h3 h4, Ar B L w' h1 h2 h3 h4) ∧ FrL B L w w' := by
  go_enter_defers Try.func19, Try.ntmps19
  go_wp2
  exact ⟨_, results_tmp rfl _ _ _, _, rfl, ⟨a, 0, rfl, fun k hk => absurd hk (Nat.not_lt_zero k)⟩, ⟨_, _, _, _, hA⟩, FrL.refl _ _ _⟩

theorem hd_of {B e sz g n c L t : Nat} {w w' : World} {cs : Array Value} (h : ∃ xs, w.ownsRow B e sz (S g n c) n xs) (hc : c ≤ 1048576) (hg : w.grownBy w' (some L)) (hL : w.heap[L]? = some (.cells cs t (0, 0))) (he : e ≠ t) : Hd B w' e sz (S g n c) := by
  obtain ⟨xs, ho⟩ := h
  exact Hd.keep (.inr ⟨g, n, c, xs, rfl, ho, hc⟩) hg hL he
theorem gb_setL (w : World) (L j : Nat) (u : Value) : w.grownBy (w.setCell ⟨L, j, none⟩ u) (some L) :=
  ⟨rfl, rfl, rfl, by simp, fun k _ hk => heap_setCell_other w ⟨L, j, none⟩ k u (fun e => hk (by simp [e]))⟩

set_option maxHeartbeats 8000000 in
set_option maxRecDepth 10000 in
/-- clone, of some messages -/
theorem f19s (B L D N cap : Nat) (ad : Addr) (l : List Msg) (w : World) (h1 h2 h3 h4 : Value) (hA : Ar B L w h1 h2 h3 h4) (hv : RM w D (.slice (some ad) N cap) (some l)) (hDL : D ≤ L) (hDB : D ≤ B) (hN : 0 < N) (hB : B ≤ w.heap.size) (hb : bulk l ≤ 1048576) :
    Calls Try.prog 19 #[.pointer (some ⟨L, 0, none⟩), .slice (some ad) N cap] w fun e w' =>
      ∃ v', e = .returned v' ∧ Got w' w'.heap.size v' l 0 N ∧ (∃ h1 h2 h3 h4, Ar B L w' h1 h2 h3 h4) ∧ FrL B L w w' := by
  have hcl1 := f22 D _ (some l) w hv hb
  simp only [Option.getD_some] at hcl1
  have hlN : l.length = N := by
    obtain ⟨a, c', e, -⟩ := hv
    cases e
    rfl
  have hcap : cap ≤ maxLen := by
    obtain ⟨a, c', e, -, h, -⟩ := hv
    cases e
    exact h
  unfold maxLen at hcap
  rw [hlN] at hcl1
  unfold bulk at hb
  have hN1 : N ≤ 1048576 := by omega
  have hC1 : nC l ≤ 1048576 := by omega
  have hR1 : nR l ≤ 1048576 := by omega
  have hA1 : nA l ≤ 1048576 := by omega
  have hle1 : l.length ≤ N := by omega
  have hle2 : N ≤ l.length := by omega
  clear hlN hb
  have hLlt : L < w.heap.size := (Array.getElem?_eq_some_iff.1 hA.hL).1
  go_enter_defers Try.func19, Try.ntmps19
  go_wp2_with fail
  refine hcl1.mono ?_
  rintro e w1 ⟨rfl, hg1⟩
  clear hcl1
  unfold four
  go_wp2_with fail
  change Calls Try.prog 23 _ (w1.alloc (.cells (four N (nC l) (nR l) (nA l)) 74)) _
  obtain ⟨W1, hW1⟩ : ∃ W1, W1 = w1.alloc (.cells (four N (nC l) (nR l) (nA l)) 74) := ⟨_, rfl⟩
  rw [← hW1]
  have hgW : w.grownBy W1 none := by rw [hW1]; exact hg1.trans (ga _ _)
  have hbox : W1.heap[w1.heap.size]? = some (.cells (four N (nC l) (nR l) (nA l)) 74 (0, 0)) := by rw [hW1]; exact heap_alloc_new w1 _
  have hArW := hA.quiet hgW
  have hNL : w1.heap.size ≠ L := by have := hg1.size; omega
  obtain ⟨X, hX⟩ : ∃ X, X = w1.heap.size := ⟨_, rfl⟩
  rw [← hX] at hbox hNL ⊢
  clear hW1 hX hg1 hA
  have hc0 : W1.cell? ⟨L, 0, none⟩ = some (.int .i32 0) := by rw [cell_of_row W1 L 0 _ 64 (0, 0) hArW.hL]; rfl
  have hf0 := frozen_of_row W1 L 0 _ 64 hArW.hL
  refine (lock_free muLib ⟨L, 0, none⟩ W1 hc0 hf0).mono ?_
  rintro e W2 ⟨rfl, hW2⟩
  have hg2 : W1.grownBy W2 (some L) := by rw [hW2]; exact gb_setL _ _ _ _
  have hL2 : W2.heap[L]? = some (.cells (arena 1 h1 h2 h3 h4) 64 (0, 0)) := by rw [hW2]; exact heap_setCell_same W1 L 0 _ 64 _ hArW.hL
  clear hW2 hc0 hf0
  have k1 := hArW.d1.keep hg2 hArW.hL (by decide)
  have k2 := hArW.d2.keep hg2 hArW.hL (by decide)
  have k3 := hArW.d3.keep hg2 hArW.hL (by decide)
  have k4 := hArW.d4.keep hg2 hArW.hL (by decide)
  have hbox := heap_keep hg2 hbox hNL
  have hfr2 : FrL B L w W2 := (FrL.of (Fr.quiet hgW hB)).trans (FrL.ofL hg2 (Nat.le_trans hB hgW.size))
  have hB2 : B ≤ W2.heap.size := Nat.le_trans hB hfr2.size
  have c6 : W2.cell? ⟨L, 6, none⟩ = some (.bool false) := by rw [cell_of_row W2 L 6 _ 64 (0, 0) hL2]; rfl
  have b0 : W2.cell? ⟨X, 0, none⟩ = some (.int .i64 N) := by rw [cell_of_row W2 X 0 _ 74 (0, 0) hbox]; rfl
  have b1 : W2.cell? ⟨X, 1, none⟩ = some (.int .i64 (nC l)) := by rw [cell_of_row W2 X 1 _ 74 (0, 0) hbox]; rfl
  have b2 : W2.cell? ⟨X, 2, none⟩ = some (.int .i64 (nR l)) := by rw [cell_of_row W2 X 2 _ 74 (0, 0) hbox]; rfl
  have b3 : W2.cell? ⟨X, 3, none⟩ = some (.int .i64 (nA l)) := by rw [cell_of_row W2 X 3 _ 74 (0, 0) hbox]; rfl
  clear hg2 hgW hArW hbox
  go_wp2
  refine wp_calm ?_
  go_region_law (first
    | ((try go_simp); go_at_call 25; refine (f25 B L N (nC l) (nR l) (nA l) 1 h1 h2 h3 h4 _ ?_ ?_ ?_ ?_ ?_ ?_ hN1 hC1 hR1 hA1).mono ?_; exact hL2; exact k1; exact k2; exact k3; exact k4; exact hB2; rintro e w3 ⟨x3, g1', g2', g3', g4', rfl, hL3, hR1, hR2, hR3, hR4, hg3⟩))
  refine Calm.normal ?_
  have hg3 : W2.grownBy w3 (some L) := ⟨hg3.os, hg3.tape, hg3.output, hg3.size, hg3.block⟩
  obtain ⟨g1, n1, c1, xs1, rfl, ho1, hm1, hr1⟩ := hR1
  obtain ⟨g2, n2, c2, xs2, rfl, ho2, hm2, hr2⟩ := hR2
  obtain ⟨g3, n3, c3, xs3, rfl, ho3, hm3, hr3⟩ := hR3
  obtain ⟨g4, n4, c4, xs4, rfl, ho4, hm4, hr4⟩ := hR4
  have hst : St ⟨B, L, g1, c1, g2, c2, g3, c3, g4, c4, 1, D⟩ w3 n1 n2 n3 n4 := ⟨hL3, ⟨hDL, hDB⟩, ⟨_, ho1⟩, ⟨_, ho2⟩, ⟨_, ho3⟩, ⟨_, ho4⟩⟩
  have hfr3 : FrL B L w w3 := hfr2.trans (FrL.ofL hg3 hB2)
  have hB3 : B ≤ w3.heap.size := Nat.le_trans hB hfr3.size
  have hcl := f26 ⟨B, L, g1, c1, g2, c2, g3, c3, g4, c4, 1, D⟩ l n1 n2 n3 n4 N cap ad w3 hst (hv.kept (hfr3.toFr hDL hDB) (Nat.le_refl _)) hB3 hN1 hr1 hr2 hr3 hr4
  clear hg3 hL3 ho1 ho2 ho3 ho4 hst k1 k2 k3 k4 hL2 c6 b0 b1 b2 b3 hfr2 hv
  go_wp2_with fail
  refine hcl.mono ?_
  rintro e w4 ⟨o1, m2, m3, m4, rfl, hmsg, hst, hfr4⟩
  clear hcl
  have ha := hst.apart
  have hL4 := hst.hL
  have hc4 : w4.cell? ⟨L, 0, none⟩ = some (.int .i32 1) := by rw [cell_of_row w4 L 0 _ 64 (0, 0) hL4]; rfl
  have hf4 := frozen_of_row w4 L 0 _ 64 hL4
  have hg5 := gb_setL w4 L 0 (.int .i32 0)
  have hL5 := heap_setCell_same w4 L 0 _ 64 (.int .i32 0) hL4
  have hfr5 : FrL B L w (w4.setCell ⟨L, 0, none⟩ (.int .i32 0)) := (hfr3.trans hfr4).trans (FrL.ofL hg5 (Nat.le_trans hB3 hfr4.size))
  have har : Ar B L (w4.setCell ⟨L, 0, none⟩ (.int .i32 0)) (S g1 (n1 + N) c1) (S g2 m2 c2) (S g3 m3 c3) (S g4 m4 c4) :=
    ⟨hL5, hd_of hst.o1 hm1 hg5 hL4 (by decide), hd_of hst.o2 hm2 hg5 hL4 (by decide), hd_of hst.o3 hm3 hg5 hL4 (by decide), hd_of hst.o4 hm4 hg5 hL4 (by decide)⟩
  have hgot : Got (w4.setCell ⟨L, 0, none⟩ (.int .i32 0)) (w4.setCell ⟨L, 0, none⟩ (.int .i32 0)).heap.size (.slice (some ⟨g1, o1, none⟩) N N) l 0 N := by
    refine ⟨_, _, rfl, fun k hk => ?_⟩
    have hkl : k < l.length := by omega
    have hm := List.getElem?_eq_getElem hkl
    have hmv := MsgP.move (hmsg k _ hm) (w1 := w4.setCell ⟨L, 0, none⟩ (.int .i32 0)) (Agree.set (g := L) (j := 0) (fun p => (foot_two2 ha L 0 p).1 rfl)) (fun _ _ p => p) (fun r v _ hv => cell_set (fun e => ha.a1 e.1) hv)
    refine ⟨l[k], g1, o1, rfl, ?_, by rw [Nat.zero_add]; exact hm, hmv.toB⟩
    have := hst.lt1
    simpa using this
  clear hmsg
  go_wp2
  refine leaves_cons (f := 24) (args := #[.pointer (some ⟨L, 0, none⟩)]) (by simp) (by simp [go_sem]) ?_
  refine (unlock_deferred muLib ⟨L, 0, none⟩ .returning _ hc4 hf4).mono ?_
  rintro e u' w5 ⟨rfl, rfl, rfl⟩
  exact ⟨_, results_tmp rfl _ _ _, (.slice (some ⟨g1, o1, none⟩) N N), rfl, hgot, ⟨_, _, _, _, har⟩, hfr5⟩

theorem Got.sub {w : World} {B i N : Nat} {v : Value} {l : List Msg} (h : Got w B v ((l.drop i).take N) 0 N) : Got w B v l i N := by
  obtain ⟨a, c, rfl, hk⟩ := h
  refine ⟨a, c, rfl, fun k hkN => ?_⟩
  obtain ⟨m, b, o, e, hb, hm, hat⟩ := hk k hkN
  refine ⟨m, b, o, e, hb, ?_, hat⟩
  rw [Nat.zero_add, List.getElem?_take, if_pos hkN, List.getElem?_drop] at hm
  exact hm

set_option maxHeartbeats 8000000 in
set_option maxRecDepth 10000 in
/-- Lend -/
theorem f14 (B L D p i j : Nat) (v : Value) (x : Option (List Msg)) (w : World) (h1 h2 h3 h4 : Value) (hA : Ar B L w h1 h2 h3 h4) (hv : RM w D v x) (hDL : D ≤ L) (hDB : D ≤ B) (hB : B ≤ w.heap.size) (hb : bulk (x.getD []) ≤ 1048576) (hij : i ≤ j) (hj : j ≤ (x.getD []).length) :
    Calls Try.prog 14 #[.agg #[v, .pointer (some ⟨p, 0, none⟩), .pointer (some ⟨L, 0, none⟩)], .int .i64 i, .int .i64 j] w fun e w' =>
      ∃ v', e = .returned v' ∧ Got w' w'.heap.size v' (x.getD []) i (j - i) ∧ (∃ h1 h2 h3 h4, Ar B L w' h1 h2 h3 h4) ∧ FrL B L w w' := by
  obtain ⟨a, n, c, rfl, hn, hlc, hcm, hnil, hz, hat⟩ := RL.form hv
  clear hv
  obtain ⟨l, hl⟩ : ∃ l, l = x.getD [] := ⟨_, rfl⟩
  rw [← hl] at hn hb hj hat ⊢
  clear hl hnil
  rw [hn] at hj
  obtain ⟨W, hW⟩ : ∃ W, W = w.alloc (.cells #[.slice a n c, .pointer (some ⟨p, 0, none⟩), .pointer (some ⟨L, 0, none⟩)] 28) := ⟨_, rfl⟩
  have hgW : w.grownBy W none := by rw [hW]; exact ga _ _
  have hbox : W.heap[w.heap.size]? = some (.cells #[.slice a n c, .pointer (some ⟨p, 0, none⟩), .pointer (some ⟨L, 0, none⟩)] 28 (0, 0)) := by rw [hW]; exact heap_alloc_new w _
  have q0 : W.cell? ⟨w.heap.size, 0, none⟩ = some (.slice a n c) := by rw [cell_of_row W w.heap.size 0 _ 28 (0, 0) hbox]; rfl
  have q2 : W.cell? ⟨w.heap.size, 2, none⟩ = some (.pointer (some ⟨L, 0, none⟩)) := by rw [cell_of_row W w.heap.size 2 _ 28 (0, 0) hbox]; rfl
  have hAW := hA.quiet hgW
  have hAd : Ar B L W.drew h1 h2 h3 h4 := hAW.quiet (gd1 W)
  have hfrW : FrL B L w W.drew := .of (Fr.quiet hgW hB).drew
  have hjc : j ≤ c := by omega
  clear hbox hA hAW
  by_cases heq : i = j
  · subst heq
    rw [Nat.sub_self]
    have hcl := fun (a : Option Addr) (cap : Nat) => f19z B L a cap ((l.drop i).take 0) W.drew h1 h2 h3 h4 hAd
    by_cases hci : c = i
    · subst hci
      go_enter Try.func14, Try.ntmps14
      go_wp2
      rw [← hW]
      clear hW hat hn
      go_region_law (first
        | ((try go_simp); go_at_call 19; refine (hcl _ _).mono ?_; rintro e w1 ⟨v', rfl, hgot, har, hfr⟩))
      all_goals
        go_wp2
        go_ret
        exact ⟨v', rfl, hgot.sub, har, hfrW.trans hfr⟩
    · obtain ⟨ad, rfl⟩ : ∃ ad, a = some ad := by
        cases a with
        | none => obtain ⟨rfl, rfl⟩ := hz rfl; omega
        | some ad => exact ⟨ad, rfl⟩
      have hci' : ¬ c - i = 0 := by omega
      go_enter Try.func14, Try.ntmps14
      go_wp2
      rw [← hW]
      clear hW hat hn
      go_region_law (first
        | ((try go_simp); go_at_call 19; refine (hcl _ _).mono ?_; rintro e w1 ⟨v', rfl, hgot, har, hfr⟩))
      all_goals
        go_wp2
        go_ret
        exact ⟨v', rfl, hgot.sub, har, hfrW.trans hfr⟩
  · obtain ⟨-, b, o, -, rfl, -⟩ := hat i (by omega)
    have hrm : RM w D (.slice (some ⟨b, o + i * 5, none⟩) (j - i) (c - i)) (some ((l.drop i).take (j - i))) := by
      have hlen : ((l.drop i).take (j - i)).length = j - i := by simp; omega
      refine ⟨⟨b, o + i * 5, none⟩, c - i, by rw [hlen], by rw [hlen]; omega, by unfold maxLen; omega, fun k m hm => ?_⟩
      have hk : k < j - i := by rw [← hlen]; exact (List.getElem?_eq_some_iff.1 hm).1
      rw [List.getElem?_take, if_pos hk, List.getElem?_drop] at hm
      obtain ⟨m', b', o', hm', e, hbB, hmsg⟩ := hat (i + k) (by omega)
      cases e
      rw [hm] at hm'
      cases hm'
      refine ⟨rfl, hbB, ?_⟩
      have e2 : o + (i + k) * 5 = o + i * 5 + k * 5 := by omega
      rw [e2] at hmsg
      exact hmsg
    have hcl := f19s B L D (j - i) (c - i) ⟨b, o + i * 5, none⟩ ((l.drop i).take (j - i)) W.drew h1 h2 h3 h4 hAd (hrm.kept (hfrW.toFr hDL hDB) (Nat.le_refl _)) hDL hDB (by omega) (Nat.le_trans hB hfrW.size) (Nat.le_trans (bulk_sub l i (j - i)) hb)
    have hci : ¬ c = i := by omega
    have hci' : ¬ c - i = 0 := by omega
    go_enter Try.func14, Try.ntmps14
    go_wp2
    rw [← hW]
    clear hW hat hn hrm
    go_region_law (first
      | ((try go_simp); go_at_call 19; refine hcl.mono ?_; rintro e w1 ⟨v', rfl, hgot, har, hfr⟩))
    all_goals
      go_wp2
      go_ret
      exact ⟨v', rfl, hgot.sub, har, hfrW.trans hfr⟩
end Go.Proofs.Qxb6618675a.walks
