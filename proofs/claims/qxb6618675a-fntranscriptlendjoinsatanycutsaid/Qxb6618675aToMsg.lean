import Derived.Test.Qxb6618675aCopy
import Derived.Test.Qxb6618675aSameR
import Derived.Deep.DeepCutAuto
import Derived.Laws.Cover3
import Derived.Deep.MidRow
namespace Go.Proofs.Qxb6618675a.walks
open Go.RowKit Go.Proofs.Qxb6618675a.mem

def zero35 : Array Value := #[.string ⟨#[]⟩, .string ⟨#[]⟩, .string ⟨#[]⟩, .slice none 0 0, .slice none 0 0]
/-- the three boxes of zzb1ToMessage -/
structure Bx (N : Nat) (W : World) (z m : Array Value) : Prop where
  b0 : W.heap[N]? = some (.cells z 41 (0, 0))
  b1 : W.heap[N + 1]? = some (.cells zero35 35 (0, 0))
  b2 : W.heap[N + 1 + 1]? = some (.cells m 35 (0, 0))
theorem Bx.kept {N : Nat} {W W' : World} {z m : Array Value} (h : Bx N W z m) (hg : W.grownBy W' none) : Bx N W' z m :=
  ⟨(hg.block N (Array.getElem?_eq_some_iff.1 h.b0).1 (by simp)).trans h.b0, (hg.block (N + 1) (Array.getElem?_eq_some_iff.1 h.b1).1 (by simp)).trans h.b1, (hg.block (N + 1 + 1) (Array.getElem?_eq_some_iff.1 h.b2).1 (by simp)).trans h.b2⟩
theorem Bx.set {N : Nat} {W : World} {z m : Array Value} (h : Bx N W z m) {a : Addr} (ha : N + 3 ≤ a.block) (u : Value) : Bx N (W.setCell a u) z m :=
  ⟨(heap_setCell_other W a N u (by omega)).trans h.b0, (heap_setCell_other W a (N + 1) u (by omega)).trans h.b1, (heap_setCell_other W a (N + 1 + 1) u (by omega)).trans h.b2⟩
theorem Bx.put {N : Nat} {W : World} {z m : Array Value} (h : Bx N W z m) (j : Nat) (u : Value) : Bx N (W.setCell ⟨N + 1 + 1, j, none⟩ u) z (m.setIfInBounds j u) :=
  ⟨(heap_setCell_other W ⟨N + 1 + 1, j, none⟩ N u (by show N ≠ N + 1 + 1; omega)).trans h.b0, (heap_setCell_other W ⟨N + 1 + 1, j, none⟩ (N + 1) u (by simp)).trans h.b1, heap_setCell_same W (N + 1 + 1) j m 35 u h.b2⟩
theorem Bx.at0 {N : Nat} {W : World} {z m : Array Value} (h : Bx N W z m) (j : Nat) {u : Value} (hu : z[j]? = some u) : W.cell? ⟨N, j, none⟩ = some u := by rw [cell_of_row W N j z 41 (0, 0) h.b0]; exact hu
theorem Bx.at1 {N : Nat} {W : World} {z m : Array Value} (h : Bx N W z m) (j : Nat) {u : Value} (hu : zero35[j]? = some u) : W.cell? ⟨N + 1, j, none⟩ = some u := by rw [cell_of_row W (N + 1) j zero35 35 (0, 0) h.b1]; exact hu
theorem Bx.at2 {N : Nat} {W : World} {z m : Array Value} (h : Bx N W z m) (j : Nat) {u : Value} (hu : m[j]? = some u) : W.cell? ⟨N + 1 + 1, j, none⟩ = some u := by rw [cell_of_row W (N + 1 + 1) j m 35 (0, 0) h.b2]; exact hu
theorem Bx.fz1 {N : Nat} {W : World} {z m : Array Value} (h : Bx N W z m) (j : Nat) : W.frozen? ⟨N + 1, j, none⟩ = false := frozen_of_row W (N + 1) j zero35 35 h.b1
theorem Bx.fz2 {N : Nat} {W : World} {z m : Array Value} (h : Bx N W z m) (j : Nat) : W.frozen? ⟨N + 1 + 1, j, none⟩ = false := frozen_of_row W (N + 1 + 1) j m 35 h.b2
theorem Bx.new (w : World) (z m : Array Value) : Bx w.heap.size (((w.alloc (.cells z 41)).alloc (.cells zero35 35)).alloc (.cells m 35)) z m := by
  refine ⟨?_, ?_, ?_⟩
  · rw [heap_alloc_old _ _ (by simp; omega), heap_alloc_old _ _ (by simp), heap_alloc_new]
  · rw [heap_alloc_old _ _ (by simp)]
    have := heap_alloc_new (w.alloc (.cells z 41)) (.cells zero35 35)
    simpa using this
  · have := heap_alloc_new ((w.alloc (.cells z 41)).alloc (.cells zero35 35)) (.cells m 35)
    simpa using this

theorem results_cell {fn : Func} {p : Tmp} {ty : TypeId} (h : fn.results = #[.cell p ty]) {tmps : Array Value} {P : Program} {w : World} {b : Nat} {cs : Array Value} {d : TypeDesc} {t : TypeId}
    (hp : tmps.getD p undef = .pointer (some ⟨b, 0, none⟩)) (hc : w.heap[b]? = some (.cells cs t (0, 0))) (hu : P.underlying ty = some d) (hd : d.isRow = true) (hi : (P.info? ty).map (·.size) = some cs.size) :
    (results fn tmps).run P w = .ok (.agg cs) w := by
  have hr : w.rangeAt b 0 cs.toList := fun j v hv => by rw [Nat.zero_add, cell_of_row w b j cs t (0, 0) hc]; simpa using hv
  have hl := run_loadVar_mid (P := P) w b 0 ty cs.toList d hr hu hd (by simpa using hi)
  have hp' : tmps[p]?.getD undef = .pointer (some ⟨b, 0, none⟩) := by simpa using hp
  simp only [results, h]
  simp [asAddr, hp', hl]
theorem size35 : (Try.prog.info? 35).map (·.size) = some 5 := by kernel_rfl

/-- the result j lies in the row's cells -/
def ResDone (xs : List Value) (j : Nat) (r : Res) : Prop :=
  xs[j * 4]? = some (.string r.cid) ∧ xs[j * 4 + 1]? = some (.string r.name) ∧ xs[j * 4 + 2]? = some (.string r.content) ∧ xs[j * 4 + 3]? = some (.bool r.err) ∧ r.cid.size ≤ maxLen ∧ r.name.size ≤ maxLen ∧ r.content.size ≤ maxLen
theorem ResDone.set {xs : List Value} {j k i : Nat} {r : Res} (h : ResDone xs j r) (hj : j < k) (hi : k * 4 ≤ i) (u : Value) : ResDone (xs.set i u) j r := by
  obtain ⟨h0, h1, h2, h3, h4⟩ := h
  refine ⟨?_, ?_, ?_, ?_, h4⟩
  · rw [List.getElem?_set_ne (by omega)]; exact h0
  · rw [List.getElem?_set_ne (by omega)]; exact h1
  · rw [List.getElem?_set_ne (by omega)]; exact h2
  · rw [List.getElem?_set_ne (by omega)]; exact h3
theorem set4 (xs : List Value) (i : Nat) (h : i + 3 < xs.length) (a b c d : Value) :
    ((((xs.set i a).set (i + 1) b).set (i + 2) c).set (i + 3) d)[i]? = some a ∧ ((((xs.set i a).set (i + 1) b).set (i + 2) c).set (i + 3) d)[i + 1]? = some b ∧ ((((xs.set i a).set (i + 1) b).set (i + 2) c).set (i + 3) d)[i + 2]? = some c ∧ ((((xs.set i a).set (i + 1) b).set (i + 2) c).set (i + 3) d)[i + 3]? = some d := by
  refine ⟨?_, ?_, ?_, ?_⟩
  · rw [List.getElem?_set_ne (by omega), List.getElem?_set_ne (by omega), List.getElem?_set_ne (by omega), List.getElem?_set_self (by omega)]
  · rw [List.getElem?_set_ne (by omega), List.getElem?_set_ne (by omega), List.getElem?_set_self (by simp; omega)]
  · rw [List.getElem?_set_ne (by omega), List.getElem?_set_self (by simp; omega)]
  · rw [List.getElem?_set_self (by simp; omega)]
theorem row_res {W : World} {G n n0 : Nat} {xs : List Value} {l : List Res} (hown : W.ownsRow G 71 4 (.slice (some ⟨G, 0, none⟩) n n) n xs) (hl : l.length = n) (hn0 : n0 ≤ G) (hm : n ≤ maxLen)
    (hd : ∀ j c, j < n → l[j]? = some c → ResDone xs j c) : RRp W (Above n0) (.slice (some ⟨G, 0, none⟩) n n) (some l) := by
  refine ⟨⟨G, 0, none⟩, n, by rw [hl], by omega, hm, fun i c hc => ⟨rfl, ?_⟩⟩
  have hi : i < n := by rw [← hl]; exact (List.getElem?_eq_some_iff.1 hc).1
  obtain ⟨h0, h1, h2, h3, h4⟩ := hd i c hi hc
  refine ⟨⟨hn0, hn0, hn0, hn0⟩, ?_, ?_, ?_, ?_, h4⟩
  · simp only [Nat.zero_add]; rw [hown.cellAt _ (by omega)]; exact h0
  · simp only [Nat.zero_add]; rw [hown.cellAt _ (by omega)]; exact h1
  · simp only [Nat.zero_add]; rw [hown.cellAt _ (by omega)]; exact h2
  · simp only [Nat.zero_add]; rw [hown.cellAt _ (by omega)]; exact h3

/-- the call j lies in the row's cells -/
def CallDone (W : World) (n0 : Nat) (xs : List Value) (j : Nat) (c : mem.Call) : Prop :=
  ∃ vb, xs[j * 3]? = some (.string c.id) ∧ xs[j * 3 + 1]? = some (.string c.name) ∧ xs[j * 3 + 2]? = some vb ∧ RBp W (Above n0) vb c.args ∧ c.id.size ≤ maxLen ∧ c.name.size ≤ maxLen
theorem CallDone.kept {W W' : World} {n0 : Nat} {xs : List Value} {j : Nat} {c : mem.Call} (h : CallDone W n0 xs j c) (hf : Agree (Above n0) W W') : CallDone W' n0 xs j c := by
  obtain ⟨vb, h0, h1, h2, h3, h4⟩ := h
  exact ⟨vb, h0, h1, h2, h3.kept hf (fun _ _ p => p), h4⟩
theorem CallDone.set {W : World} {n0 : Nat} {xs : List Value} {j k i : Nat} {c : mem.Call} (h : CallDone W n0 xs j c) (hj : j < k) (hi : k * 3 ≤ i) (u : Value) : CallDone W n0 (xs.set i u) j c := by
  obtain ⟨vb, h0, h1, h2, h3, h4⟩ := h
  refine ⟨vb, ?_, ?_, ?_, h3, h4⟩
  · rw [List.getElem?_set_ne (by omega)]; exact h0
  · rw [List.getElem?_set_ne (by omega)]; exact h1
  · rw [List.getElem?_set_ne (by omega)]; exact h2

theorem set3 (xs : List Value) (i : Nat) (h : i + 2 < xs.length) (a b c : Value) :
    (((xs.set i a).set (i + 1) b).set (i + 2) c)[i]? = some a ∧ (((xs.set i a).set (i + 1) b).set (i + 2) c)[i + 1]? = some b ∧ (((xs.set i a).set (i + 1) b).set (i + 2) c)[i + 2]? = some c := by
  refine ⟨?_, ?_, ?_⟩
  · rw [List.getElem?_set_ne (by omega), List.getElem?_set_ne (by omega), List.getElem?_set_self (by omega)]
  · rw [List.getElem?_set_ne (by omega), List.getElem?_set_self (by simp; omega)]
  · rw [List.getElem?_set_self (by simp; omega)]
/-- a row of calls of the call's own, read -/
theorem row_calls {W : World} {G n n0 : Nat} {xs : List Value} {l : List mem.Call} (hown : W.ownsRow G 69 3 (.slice (some ⟨G, 0, none⟩) n n) n xs) (hl : l.length = n) (hn0 : n0 ≤ G) (hm : n ≤ maxLen)
    (hd : ∀ j c, j < n → l[j]? = some c → CallDone W (G + 1) xs j c) : RCp W (Above n0) (.slice (some ⟨G, 0, none⟩) n n) (some l) := by
  refine ⟨⟨G, 0, none⟩, n, by rw [hl], by omega, hm, fun i c hc => ⟨rfl, ?_⟩⟩
  have hi : i < n := by rw [← hl]; exact (List.getElem?_eq_some_iff.1 hc).1
  obtain ⟨vb, h0, h1, h2, h3, h4⟩ := hd i c hi hc
  refine ⟨vb, ⟨hn0, hn0, hn0⟩, ?_, ?_, ?_, h3.kept (fun _ _ _ _ h => h) (fun b _ (p : G + 1 ≤ b) => (show n0 ≤ b by omega)), h4⟩
  · simp only [Nat.zero_add]; rw [hown.cellAt _ (by omega)]; exact h0
  · simp only [Nat.zero_add]; rw [hown.cellAt _ (by omega)]; exact h1
  · simp only [Nat.zero_add]; rw [hown.cellAt _ (by omega)]; exact h2

set_option maxHeartbeats 4000000 in
set_option maxRecDepth 10000 in
/-- zzb1ToMessage -/
theorem f18 (B : Nat) (m : Msg) (v3 v4 : Value) (w : World) (h3 : RC w B v3 m.calls) (h4 : RR w B v4 m.res) (hB : B ≤ w.heap.size) (hs : Small m) :
    Calls Try.prog 18 #[.agg #[.string m.role, .string m.text, .string m.refusal, v3, v4]] w fun e w' =>
      ∃ v3' v4', e = .returned (.agg #[.string m.role, .string m.text, .string m.refusal, v3', v4']) ∧ RCp w' (Above w.heap.size) v3' m.calls ∧ RRp w' (Above w.heap.size) v4' m.res ∧ w.grownBy w' none := by
  obtain ⟨hs1, hs2, hs3⟩ := hs
  obtain ⟨a3, n3, c3, rfl, hl3, l3, m3, nil3, z3, hat3⟩ := RL.form h3
  obtain ⟨a4, n4, c4, rfl, hl4, l4, m4, nil4, z4, hat4⟩ := RL.form h4
  unfold callsOf at hs1 hs2
  unfold resOf at hs3
  rw [hl3] at hs2
  rw [hl4] at hs3
  obtain ⟨s1, hs1'⟩ : ∃ s, s = m.role := ⟨_, rfl⟩
  obtain ⟨s2, hs2'⟩ : ∃ s, s = m.text := ⟨_, rfl⟩
  obtain ⟨s3, hs3'⟩ : ∃ s, s = m.refusal := ⟨_, rfl⟩
  rw [← hs1', ← hs2', ← hs3']
  clear hs1' hs2' hs3'
  obtain ⟨nb3, hnb3⟩ : ∃ nb, nb = a3.isNone := ⟨_, rfl⟩
  obtain ⟨nb4, hnb4⟩ : ∃ nb, nb = a4.isNone := ⟨_, rfl⟩
  have e3 : ∀ w : World, (binOp .neq 38 (.slice a3 n3 c3) (.slice none 0 0)).run Try.prog w = .ok (.bool (!nb3)) w := fun w => by rw [hnb3]; exact run_neq_slice_nil w 38 50 a3 n3 c3 Try.underlying38
  have e4 : ∀ w : World, (binOp .neq 39 (.slice a4 n4 c4) (.slice none 0 0)).run Try.prog w = .ok (.bool (!nb4)) w := fun w => by rw [hnb4]; exact run_neq_slice_nil w 39 52 a4 n4 c4 Try.underlying39
  go_enter Try.func18, Try.ntmps18
  go_upto_if 19 with fail
  go_cut [] (fun wc => ∃ v3', Bx w.heap.size wc #[.string s1, .string s2, .string s3, .slice a3 n3 c3, .slice a4 n4 c4] #[.string s1, .string s2, .string s3, v3', .slice none 0 0] ∧ RCp wc (Above (w.heap.size + 1 + 1 + 1)) v3' m.calls ∧ w.grownBy wc none)
  case first =>
    obtain ⟨W0, hW0⟩ : ∃ W0, W0 = (((w.alloc (.cells #[.string s1, .string s2, .string s3, .slice a3 n3 c3, .slice a4 n4 c4] 41)).alloc (.cells zero35 35)).alloc (.cells #[.string s1, .string s2, .string s3, .slice none 0 0, .slice none 0 0] 35)) := ⟨_, rfl⟩
    have hb : Bx w.heap.size W0 #[.string s1, .string s2, .string s3, .slice a3 n3 c3, .slice a4 n4 c4] #[.string s1, .string s2, .string s3, .slice none 0 0, .slice none 0 0] := by rw [hW0]; exact Bx.new w _ _
    have hg0 : w.grownBy W0 none := by rw [hW0]; exact ((ga _ _).trans (ga _ _)).trans (ga _ _)
    have hz0 : W0.heap.size = w.heap.size + 1 + 1 + 1 := by rw [hW0]; simp
    unfold zero35 at hW0
    rw [← hW0]
    clear hW0
    cases a3 with
    | none =>
      obtain ⟨rfl, rfl⟩ := z3 rfl
      have hnone : m.calls = none := nil3.2 rfl
      clear hat3 hat4
      go_wp2
      go_meet
      case rel => exact ⟨_, hb, by rw [hnone]; rfl, hg0⟩
    | some ad =>
      obtain ⟨i, hi, hz, hsize, hby⟩ := info_parts info69
      have hb1 : i.bytes * n3 ≤ 281474976710656 := by rw [hby]; omega
      have hb2 : n3 ≤ maxLen := by unfold maxLen; omega
      have q3 := hb.at0 3 (u := .slice (some ad) n3 c3) rfl
      go_wp2_with (at_make; refine wpList_make_full _ rfl _ _ 32 rfl (w.heap.size + 1 + 1 + 1) 69 i _ 3 Try.underlying32 hi hz hsize _ _ _ _ n3 rfl rfl rfl rfl hb1 hb2 (by rw [hz0]; exact Nat.le_refl _) ?_)
      intro w1 ho1 hg1
      have hb := hb.kept hg1
      have hg := hg0.trans hg1
      obtain ⟨G, hG⟩ : ∃ G, G = w.heap.size + 1 + 1 + 1 := ⟨_, rfl⟩
      rw [← hG] at ho1 ⊢
      have hNG : ¬ w.heap.size = G := by omega
      have hG1 : w.heap.size + 1 + 1 + 1 ≤ G := by omega
      clear hG
      go_wp2_with fail
      go_loopw [5] (fun t wr => ∃ (k : Nat) (xs : List Value), t = .int .i64 k ∧ k ≤ n3 ∧ wr.ownsRow G 69 3 (.slice (some ⟨G, 0, none⟩) n3 n3) n3 xs ∧ Bx w.heap.size wr #[.string s1, .string s2, .string s3, .slice (some ad) n3 c3, .slice a4 n4 c4] #[.string s1, .string s2, .string s3, .slice none 0 0, .slice none 0 0] ∧ w.grownBy wr none ∧ ∀ j c, j < k → (m.calls.getD [])[j]? = some c → CallDone wr (G + 1) xs j c) (fun t _ => n3 - (intOf t).toNat)
      case atStart => exact ⟨0, _, rfl, Nat.zero_le _, ho1, hb, hg, fun j c hj => by omega⟩
      case round =>
        obtain ⟨k, xs, rfl, hk, hown, hbx, hg, hdone⟩ := hrel
        have q3 := hbx.at0 3 (u := .slice (some ad) n3 c3) rfl
        by_cases hlt : k < n3
        · obtain ⟨q, b, o, hq, e, hbB, hcall⟩ := hat3 k hlt
          cases e
          have hf : Fr B w wr := Fr.quiet hg hB
          have hcall := hcall.kept hf hbB (Nat.le_refl _)
          obtain ⟨v2, x0, x1, x2, x4, y1, y2⟩ := hcall
          have hcq : (q.args.getD []).length ≤ 1048576 := hs1 q (List.mem_of_getElem? hq)
          have hbG : ¬ b = G := by omega
          have hlen : xs.length = n3 * 3 := hown.1
          have z0 : wr.cell? ⟨G, k * 3, none⟩ = some xs[k * 3] := by rw [hown.cellAt _ (by omega)]; exact List.getElem?_eq_getElem (by omega)
          have z1 : wr.cell? ⟨G, k * 3 + 1, none⟩ = some xs[k * 3 + 1] := by rw [hown.cellAt _ (by omega)]; exact List.getElem?_eq_getElem (by omega)
          have g0 := hown.frozenAt (k * 3)
          have g1 := hown.frozenAt (k * 3 + 1)
          obtain ⟨y0, hy0⟩ : ∃ y, y = xs[k * 3]'(by omega) := ⟨_, rfl⟩
          obtain ⟨y3, hy3⟩ : ∃ y, y = xs[k * 3 + 1]'(by omega) := ⟨_, rfl⟩
          rw [← hy0] at z0
          rw [← hy3] at z1
          obtain ⟨o1, -⟩ := hown.stored (k * 3) (.string q.id)
          obtain ⟨o2, -⟩ := o1.stored (k * 3 + 1) (.string q.name)
          have hbx2 := (hbx.set (a := ⟨G, k * 3, none⟩) (by show _ ≤ G; omega) (.string q.id)).set (a := ⟨G, k * 3 + 1, none⟩) (by show _ ≤ G; omega) (.string q.name)
          have hg2 := gb_set (gb_set hg (a := ⟨G, k * 3, none⟩) (by show _ ≤ G; omega) (.string q.id)) (a := ⟨G, k * 3 + 1, none⟩) (by show _ ≤ G; omega) (.string q.name)
          have hcl := f21 B v2 q.args _ (x4.kept ((Fr.set wr (a := ⟨G, k * 3, none⟩) (by show _ ≤ G; omega) (.string q.id)).trans (Fr.set _ (a := ⟨G, k * 3 + 1, none⟩) (by show _ ≤ G; omega) (.string q.name))) (Nat.le_refl _)) hcq
          obtain ⟨av, nv, cv, rfl, -⟩ := RL.form x4
          clear hat3 hat4 hy0 hy3 x4
          go_wp2_with fail
          refine hcl.mono ?_
          rintro e w3 ⟨v', rfl, hv', hg3⟩
          have o3 := o2.kept hg3 (Or.inr (by simp [Value.ownBlock]))
          have hl3' : ((xs.set (k * 3) (.string q.id)).set (k * 3 + 1) (.string q.name)).length = n3 * 3 := by simpa using hlen
          have z2 : w3.cell? ⟨G, k * 3 + 2, none⟩ = some ((xs.set (k * 3) (.string q.id)).set (k * 3 + 1) (.string q.name))[k * 3 + 2] := by rw [o3.cellAt _ (by omega)]; exact List.getElem?_eq_getElem (by omega)
          have g2 := o3.frozenAt (k * 3 + 2)
          obtain ⟨o4, -⟩ := o3.stored (k * 3 + 2) v'
          have hGlt := (o2.lt G rfl).2
          have hbx3 := (hbx2.kept hg3).set (a := ⟨G, k * 3 + 2, none⟩) (by show _ ≤ G; omega) v'
          have hg4 := gb_set (hg2.trans hg3) (a := ⟨G, k * 3 + 2, none⟩) (by show _ ≤ G; omega) v'
          have hnot : ∀ n, G < n → ¬ Above n G 0 := fun n h (p : n ≤ G) => by omega
          have hdone' : ∀ j c, j < k + 1 → (m.calls.getD [])[j]? = some c → CallDone (w3.setCell ⟨G, k * 3 + 2, none⟩ v') (G + 1) (((xs.set (k * 3) (.string q.id)).set (k * 3 + 1) (.string q.name)).set (k * 3 + 2) v') j c := by
            intro j c hj hc
            by_cases e : j = k
            · subst e
              rw [hq] at hc
              cases hc
              obtain ⟨t0, t1, t2⟩ := set3 xs (j * 3) (by omega) (.string q.id) (.string q.name) v'
              exact ⟨v', t0, t1, t2, hv'.kept (Agree.set (fun (p : _ ≤ G) => by omega)) (fun b _ (p : _ ≤ b) => (show G + 1 ≤ b by omega)), y1, y2⟩
            · have d := hdone j c (by omega) hc
              have d := ((((d.kept (Agree.set (g := G) (j := k * 3) (u := .string q.id) (fun (p : G + 1 ≤ G) => by omega))).kept (Agree.set (g := G) (j := k * 3 + 1) (u := .string q.name) (fun (p : G + 1 ≤ G) => by omega))).kept (Agree.quiet hg3)).kept (Agree.set (g := G) (j := k * 3 + 2) (u := v') (fun (p : G + 1 ≤ G) => by omega)))
              exact ((d.set (k := k) (by omega) (by omega) _).set (k := k) (by omega) (by omega) _).set (k := k) (by omega) (by omega) _
          obtain ⟨av', nv', cv', rfl, -⟩ := RLp.form hv'
          obtain ⟨y4, hy4⟩ : ∃ y, y = ((xs.set (k * 3) (.string q.id)).set (k * 3 + 1) (.string q.name))[k * 3 + 2]'(by omega) := ⟨_, rfl⟩
          rw [← hy4] at z2
          clear hy4 hdone hv' o3 o2 o1 hbx2 hcl hbx hown
          go_wp2
          go_roundw
          case rel => exact ⟨k + 1, _, by go_num, by omega, o4, hbx3, hg4, hdone'⟩
          case measure => simp [intOf]; omega
        · obtain rfl : k = n3 := by omega
          obtain ⟨l, hl⟩ : ∃ l, m.calls = some l := by
            cases hmc : m.calls with
            | none => have := nil3.1 hmc; cases this
            | some l => exact ⟨l, rfl⟩
          have hd : RCp wr (Above (w.heap.size + 1 + 1 + 1)) (.slice (some ⟨G, 0, none⟩) k k) m.calls := by
            rw [hl] at hdone hl3 ⊢
            exact row_calls hown (by simpa using hl3) hG1 hb2 (fun j c hj hc => hdone j c hj (by simpa using hc))
          have hput := hbx.put 3 (.slice (some ⟨G, 0, none⟩) k k)
          have t3 := hbx.at2 3 (u := .slice none 0 0) rfl
          have f3 := hbx.fz2 3
          clear hat3 hat4 hdone
          go_wp2
          go_meet
          case rel => exact ⟨_, hput, hd.kept (Agree.set (fun (p : _ + 1 + 1 + 1 ≤ _) => by omega)) (fun _ _ p => p), gb_set hg (by show w.heap.size ≤ w.heap.size + 1 + 1; omega) _⟩
  case rest =>
    obtain ⟨v3', hbx, hrc, hg⟩ := hcut
    have q4 := hbx.at0 4 (u := .slice a4 n4 c4) rfl
    clear hat3
    go_upto_if 66 with fail
    go_cut [] (fun wd => ∃ v4', Bx w.heap.size wd #[.string s1, .string s2, .string s3, .slice a3 n3 c3, .slice a4 n4 c4] #[.string s1, .string s2, .string s3, v3', v4'] ∧ RCp wd (Above (w.heap.size + 1 + 1 + 1)) v3' m.calls ∧ RRp wd (Above (w.heap.size + 1 + 1 + 1)) v4' m.res ∧ w.grownBy wd none)
    case first =>
      cases a4 with
      | none =>
        obtain ⟨rfl, rfl⟩ := z4 rfl
        have hnone : m.res = none := nil4.2 rfl
        clear hat4
        go_wp2
        go_meet
        case rel => exact ⟨_, hbx, hrc, by rw [hnone]; rfl, hg⟩
      | some ad =>
        obtain ⟨i, hi, hz, hsize, hby⟩ := info_parts info71
        have hb1 : i.bytes * n4 ≤ 281474976710656 := by rw [hby]; omega
        have hb2 : n4 ≤ maxLen := by unfold maxLen; omega
        have hsz : w.heap.size + 1 + 1 < wc.heap.size := (Array.getElem?_eq_some_iff.1 hbx.b2).1
        go_wp2_with (at_make; refine wpList_make_full _ rfl _ _ 33 rfl wc.heap.size 71 i _ 4 Try.underlying33 hi hz hsize _ _ _ _ n4 rfl rfl rfl rfl hb1 hb2 (Nat.le_refl _) ?_)
        intro w1 ho1 hg1
        have hbx := hbx.kept hg1
        have hg := hg.trans hg1
        obtain ⟨G, hG⟩ : ∃ G, G = wc.heap.size := ⟨_, rfl⟩
        have hrc2 : RCp w1 (fun b o => Above (w.heap.size + 1 + 1 + 1) b o ∧ b ≠ G) v3' m.calls := hrc.lt.kept (Agree.quiet hg1) (fun b o p => ⟨p.1, by have := p.2; omega⟩)
        rw [← hG] at ho1 ⊢
        have hNG : ¬ w.heap.size = G := by omega
        have hG1 : w.heap.size + 1 + 1 + 1 ≤ G := by omega
        clear hG hg1
        go_wp2_with fail
        go_loopw [7] (fun t wr => ∃ (k : Nat) (xs : List Value), t = .int .i64 k ∧ k ≤ n4 ∧ wr.ownsRow G 71 4 (.slice (some ⟨G, 0, none⟩) n4 n4) n4 xs ∧ Bx w.heap.size wr #[.string s1, .string s2, .string s3, .slice a3 n3 c3, .slice (some ad) n4 c4] #[.string s1, .string s2, .string s3, v3', .slice none 0 0] ∧ RCp wr (fun b o => Above (w.heap.size + 1 + 1 + 1) b o ∧ b ≠ G) v3' m.calls ∧ w.grownBy wr none ∧ ∀ j c, j < k → (m.res.getD [])[j]? = some c → ResDone xs j c) (fun t _ => n4 - (intOf t).toNat)
        case atStart => exact ⟨0, _, rfl, Nat.zero_le _, ho1, hbx, hrc2, hg, fun j c hj => by omega⟩
        case round =>
          obtain ⟨k, xs, rfl, hk, hown, hbx, hrc, hg, hdone⟩ := hrel
          have q4 := hbx.at0 4 (u := .slice (some ad) n4 c4) rfl
          by_cases hlt : k < n4
          · obtain ⟨q, b, o, hq, e, hbB, hres⟩ := hat4 k hlt
            cases e
            have hf : Fr B w wr := Fr.quiet hg hB
            have hres := hres.kept hf hbB
            obtain ⟨x0, x1, x2, x3, y1, y2, y3⟩ := hres
            have hbG : ¬ b = G := by omega
            have hlen : xs.length = n4 * 4 := hown.1
            have z0 : wr.cell? ⟨G, k * 4, none⟩ = some xs[k * 4] := by rw [hown.cellAt _ (by omega)]; exact List.getElem?_eq_getElem (by omega)
            have z1 : wr.cell? ⟨G, k * 4 + 1, none⟩ = some xs[k * 4 + 1] := by rw [hown.cellAt _ (by omega)]; exact List.getElem?_eq_getElem (by omega)
            have z2 : wr.cell? ⟨G, k * 4 + 2, none⟩ = some xs[k * 4 + 2] := by rw [hown.cellAt _ (by omega)]; exact List.getElem?_eq_getElem (by omega)
            have z3 : wr.cell? ⟨G, k * 4 + 3, none⟩ = some xs[k * 4 + 3] := by rw [hown.cellAt _ (by omega)]; exact List.getElem?_eq_getElem (by omega)
            have g0 := hown.frozenAt (k * 4)
            have g1 := hown.frozenAt (k * 4 + 1)
            have g2 := hown.frozenAt (k * 4 + 2)
            have g3 := hown.frozenAt (k * 4 + 3)
            obtain ⟨c0, hc0⟩ : ∃ y, y = xs[k * 4]'(by omega) := ⟨_, rfl⟩
            obtain ⟨c1, hc1⟩ : ∃ y, y = xs[k * 4 + 1]'(by omega) := ⟨_, rfl⟩
            obtain ⟨c2, hc2⟩ : ∃ y, y = xs[k * 4 + 2]'(by omega) := ⟨_, rfl⟩
            obtain ⟨c3, hc3⟩ : ∃ y, y = xs[k * 4 + 3]'(by omega) := ⟨_, rfl⟩
            rw [← hc0] at z0
            rw [← hc1] at z1
            rw [← hc2] at z2
            rw [← hc3] at z3
            obtain ⟨o1, -⟩ := hown.stored (k * 4) (.string q.cid)
            obtain ⟨o2, -⟩ := o1.stored (k * 4 + 1) (.string q.name)
            obtain ⟨o3, -⟩ := o2.stored (k * 4 + 2) (.string q.content)
            obtain ⟨o4, -⟩ := o3.stored (k * 4 + 3) (.bool q.err)
            have hGle : w.heap.size + 3 ≤ G := by omega
            have hGle' : w.heap.size ≤ G := by omega
            have hbx4 := (((hbx.set (a := ⟨G, k * 4, none⟩) hGle (.string q.cid)).set (a := ⟨G, k * 4 + 1, none⟩) hGle (.string q.name)).set (a := ⟨G, k * 4 + 2, none⟩) hGle (.string q.content)).set (a := ⟨G, k * 4 + 3, none⟩) hGle (.bool q.err)
            have hg4 := gb_set (gb_set (gb_set (gb_set hg (a := ⟨G, k * 4, none⟩) hGle' (.string q.cid)) (a := ⟨G, k * 4 + 1, none⟩) hGle' (.string q.name)) (a := ⟨G, k * 4 + 2, none⟩) hGle' (.string q.content)) (a := ⟨G, k * 4 + 3, none⟩) hGle' (.bool q.err)
            have hA : ∀ {W : World} {j : Nat} {u : Value}, Agree (fun b o => Above (w.heap.size + 1 + 1 + 1) b o ∧ b ≠ G) W (W.setCell ⟨G, j, none⟩ u) := Agree.set (fun p => p.2 rfl)
            have hrc4 : RCp ((((wr.setCell ⟨G, k * 4, none⟩ (.string q.cid)).setCell ⟨G, k * 4 + 1, none⟩ (.string q.name)).setCell ⟨G, k * 4 + 2, none⟩ (.string q.content)).setCell ⟨G, k * 4 + 3, none⟩ (.bool q.err)) (fun b o => Above (w.heap.size + 1 + 1 + 1) b o ∧ b ≠ G) v3' m.calls :=
              (((hrc.kept hA (fun _ _ p => p)).kept hA (fun _ _ p => p)).kept hA (fun _ _ p => p)).kept hA (fun _ _ p => p)
            have hdone' : ∀ j c, j < k + 1 → (m.res.getD [])[j]? = some c → ResDone ((((xs.set (k * 4) (.string q.cid)).set (k * 4 + 1) (.string q.name)).set (k * 4 + 2) (.string q.content)).set (k * 4 + 3) (.bool q.err)) j c := by
              intro j c hj hc
              by_cases e : j = k
              · subst e
                rw [hq] at hc
                cases hc
                obtain ⟨t0, t1, t2, t3⟩ := set4 xs (j * 4) (by omega) (.string q.cid) (.string q.name) (.string q.content) (.bool q.err)
                exact ⟨t0, t1, t2, t3, y1, y2, y3⟩
              · have d := hdone j c (by omega) hc
                exact (((d.set (k := k) (by omega) (by omega) _).set (k := k) (by omega) (by omega) _).set (k := k) (by omega) (by omega) _).set (k := k) (by omega) (by omega) _
            clear hat4 hc0 hc1 hc2 hc3 hdone hrc hbx hown o1 o2 o3 hA
            go_wp2
            go_roundw
            case rel => exact ⟨k + 1, _, by go_num, by omega, o4, hbx4, hrc4, hg4, hdone'⟩
            case measure => simp [intOf]; omega
          · obtain rfl : k = n4 := by omega
            obtain ⟨l, hl⟩ : ∃ l, m.res = some l := by
              cases hmc : m.res with
              | none => have := nil4.1 hmc; cases this
              | some l => exact ⟨l, rfl⟩
            have hd : RRp wr (Above (w.heap.size + 1 + 1 + 1)) (.slice (some ⟨G, 0, none⟩) k k) m.res := by
              rw [hl] at hdone hl4 ⊢
              exact row_res hown (by simpa using hl4) hG1 hb2 (fun j c hj hc => hdone j c hj (by simpa using hc))
            have hput := hbx.put 4 (.slice (some ⟨G, 0, none⟩) k k)
            have t3 := hbx.at2 4 (u := .slice none 0 0) rfl
            have f3 := hbx.fz2 4
            clear hat4 hdone
            go_wp2
            go_meet
            case rel => exact ⟨_, hput, hrc.kept (Agree.set (fun p => by have p : _ + 1 + 1 + 1 ≤ _ := p.1; omega)) (fun _ _ p => p.1), hd.kept (Agree.set (fun (p : _ + 1 + 1 + 1 ≤ _) => by omega)) (fun _ _ p => p), gb_set hg (by show w.heap.size ≤ w.heap.size + 1 + 1; omega) _⟩
    case rest =>
      clear hbx hrc hg q4 hat4
      obtain ⟨v4', hbx, hrc, hrr, hg⟩ := hcut
      obtain ⟨a5, n5, c5, rfl, -⟩ := RLp.form hrc
      obtain ⟨a6, n6, c6, rfl, -⟩ := RLp.form hrr
      have t0 := hbx.at2 0 (u := .string s1) rfl
      have t1 := hbx.at2 1 (u := .string s2) rfl
      have t2 := hbx.at2 2 (u := .string s3) rfl
      have t3 := hbx.at2 3 (u := .slice a5 n5 c5) rfl
      have t4 := hbx.at2 4 (u := .slice a6 n6 c6) rfl
      have p0 := hbx.at1 0 (u := .string ⟨#[]⟩) rfl
      have p1 := hbx.at1 1 (u := .string ⟨#[]⟩) rfl
      have p2 := hbx.at1 2 (u := .string ⟨#[]⟩) rfl
      have p3 := hbx.at1 3 (u := .slice none 0 0) rfl
      have p4 := hbx.at1 4 (u := .slice none 0 0) rfl
      have f0 := hbx.fz1 0
      have f1 := hbx.fz1 1
      have f2 := hbx.fz1 2
      have f3 := hbx.fz1 3
      have f4 := hbx.fz1 4
      have hrow := heap_setCell_same _ (w.heap.size + 1) 4 _ 35 (.slice a6 n6 c6) (heap_setCell_same _ (w.heap.size + 1) 3 _ 35 (.slice a5 n5 c5) (heap_setCell_same _ (w.heap.size + 1) 2 _ 35 (.string s3) (heap_setCell_same _ (w.heap.size + 1) 1 _ 35 (.string s2) (heap_setCell_same wc (w.heap.size + 1) 0 _ 35 (.string s1) hbx.b1))))
      have hnot : ∀ j, ¬ Above (w.heap.size + 1 + 1 + 1) (w.heap.size + 1) j := fun j (p : _ ≤ _) => by omega
      have hA : ∀ {W : World} {j : Nat} {u : Value}, Agree (Above (w.heap.size + 1 + 1 + 1)) W (W.setCell ⟨w.heap.size + 1, j, none⟩ u) := Agree.set (hnot _)
      have hs : ∀ {W : World} {j : Nat} {u : Value}, w.grownBy W none → w.grownBy (W.setCell ⟨w.heap.size + 1, j, none⟩ u) none := fun h => gb_set h (by show w.heap.size ≤ w.heap.size + 1; omega) _
      go_wp2
      exact bodyPost_ret (v := .agg #[.string s1, .string s2, .string s3, .slice a5 n5 c5, .slice a6 n6 c6]) (results_cell Try.results18 rfl hrow Try.underlying35 rfl size35) rfl ⟨_, _, rfl, ((((hrc.kept hA (fun _ _ p => p)).kept hA (fun _ _ p => p)).kept hA (fun _ _ p => p)).kept hA (fun _ _ p => p)).kept hA (P' := Above w.heap.size) (fun b _ (p : _ + 1 + 1 + 1 ≤ b) => (show w.heap.size ≤ b by omega)), ((((hrr.kept hA (fun _ _ p => p)).kept hA (fun _ _ p => p)).kept hA (fun _ _ p => p)).kept hA (fun _ _ p => p)).kept hA (P' := Above w.heap.size) (fun b _ (p : _ + 1 + 1 + 1 ≤ b) => (show w.heap.size ≤ b by omega)), hs (hs (hs (hs (hs hg))))⟩
end Go.Proofs.Qxb6618675a.walks
