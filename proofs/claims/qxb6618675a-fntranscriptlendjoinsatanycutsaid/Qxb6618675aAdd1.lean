/-
  THE ARENA'S MEMORY, no walk: what an arena holds while copies are laid into it, and that every message reads as before behind each step.
-/
import Derived.Test.Qxb6618675aMake
import Derived.Test.Qxb6618675aClip
namespace Go.Proofs.Qxb6618675a.walks
open Go.RowKit Go.Proofs.Qxb6618675a.mem

abbrev S (g n c : Nat) : Value := .slice (some ⟨g, 0, none⟩) n c
structure Cx where
  B : Nat
  L : Nat
  g1 : Nat
  c1 : Nat
  g2 : Nat
  c2 : Nat
  g3 : Nat
  c3 : Nat
  g4 : Nat
  c4 : Nat
  st : Int
  D : Nat

structure St (K : Cx) (w : World) (n1 n2 n3 n4 : Nat) : Prop where
  hL : w.heap[K.L]? = some (.cells (arena K.st (S K.g1 n1 K.c1) (S K.g2 n2 K.c2) (S K.g3 n3 K.c3) (S K.g4 n4 K.c4)) 64 (0, 0))
  hB : K.D ≤ K.L ∧ K.D ≤ K.B
  o1 : ∃ xs, w.ownsRow K.B 35 5 (S K.g1 n1 K.c1) n1 xs
  o2 : ∃ xs, w.ownsRow K.B 69 3 (S K.g2 n2 K.c2) n2 xs
  o3 : ∃ xs, w.ownsRow K.B 71 4 (S K.g3 n3 K.c3) n3 xs
  o4 : ∃ xs, w.ownsRow K.B 5 1 (S K.g4 n4 K.c4) n4 xs

theorem own_ne {w : World} {B e e' sz sz' g g' n n' c c' : Nat} {xs xs' : List Value} (h : w.ownsRow B e sz (S g n c) n xs) (h' : w.ownsRow B e' sz' (S g' n' c') n' xs') (he : e ≠ e') : g ≠ g' := by
  rcases h'.2 with ⟨h0, -⟩ | ⟨g2, c2, cur, h0, -, hg, -⟩
  · cases h0
  · cases h0
    exact ne_of_own h hg he
theorem own_block {w w' : World} {B e sz g n c : Nat} {xs : List Value} (h : w.ownsRow B e sz (S g n c) n xs) (hb : w'.heap[g]? = w.heap[g]?) : w'.ownsRow B e sz (S g n c) n xs := by
  refine ⟨h.1, ?_⟩
  rcases h.2 with ⟨h0, -⟩ | ⟨g2, c2, cur, h0, hbg, hg, r⟩
  · cases h0
  · cases h0
    exact .inr ⟨g, c, cur, rfl, hbg, hb.trans hg, r⟩

structure Apart (K : Cx) : Prop where
  a1 : K.g1 ≠ K.L
  a2 : K.g2 ≠ K.L
  a3 : K.g3 ≠ K.L
  a4 : K.g4 ≠ K.L
  b12 : K.g1 ≠ K.g2
  b13 : K.g1 ≠ K.g3
  b14 : K.g1 ≠ K.g4
  b23 : K.g2 ≠ K.g3
  b24 : K.g2 ≠ K.g4
  b34 : K.g3 ≠ K.g4
  l0 : K.D ≤ K.L ∧ K.D ≤ K.B
  l1 : K.B ≤ K.g1
  l2 : K.B ≤ K.g2
  l3 : K.B ≤ K.g3
  l4 : K.B ≤ K.g4

section
variable {K : Cx} {w w' : World} {n1 n2 n3 n4 : Nat}
theorem St.apart (h : St K w n1 n2 n3 n4) : Apart K := by
  obtain ⟨hL, hB, ⟨x1, o1⟩, ⟨x2, o2⟩, ⟨x3, o3⟩, ⟨x4, o4⟩⟩ := h
  exact ⟨ne_of_own o1 hL (by decide), ne_of_own o2 hL (by decide), ne_of_own o3 hL (by decide), ne_of_own o4 hL (by decide), own_ne o1 o2 (by decide), own_ne o1 o3 (by decide), own_ne o1 o4 (by decide), own_ne o2 o3 (by decide), own_ne o2 o4 (by decide), own_ne o3 o4 (by decide), hB, (o1.lt _ rfl).1, (o2.lt _ rfl).1, (o3.lt _ rfl).1, (o4.lt _ rfl).1⟩
theorem St.lt1 (h : St K w n1 n2 n3 n4) : K.g1 < w.heap.size := by obtain ⟨x, o⟩ := h.o1; exact (o.lt _ rfl).2
theorem St.lt2 (h : St K w n1 n2 n3 n4) : K.g2 < w.heap.size := by obtain ⟨x, o⟩ := h.o2; exact (o.lt _ rfl).2
theorem St.lt3 (h : St K w n1 n2 n3 n4) : K.g3 < w.heap.size := by obtain ⟨x, o⟩ := h.o3; exact (o.lt _ rfl).2
theorem St.lt4 (h : St K w n1 n2 n3 n4) : K.g4 < w.heap.size := by obtain ⟨x, o⟩ := h.o4; exact (o.lt _ rfl).2
theorem St.fz1 (h : St K w n1 n2 n3 n4) (j : Nat) : w.frozen? ⟨K.g1, j, none⟩ = false := by obtain ⟨x, o⟩ := h.o1; exact o.frozenAt j
theorem St.fz2 (h : St K w n1 n2 n3 n4) (j : Nat) : w.frozen? ⟨K.g2, j, none⟩ = false := by obtain ⟨x, o⟩ := h.o2; exact o.frozenAt j
theorem St.set1 (h : St K w n1 n2 n3 n4) (j : Nat) (u : Value) : St K (w.setCell ⟨K.g1, j, none⟩ u) n1 n2 n3 n4 := by
  have ha := h.apart
  have hb : ∀ k, k ≠ K.g1 → (w.setCell ⟨K.g1, j, none⟩ u).heap[k]? = w.heap[k]? := fun k hk => heap_setCell_other w ⟨K.g1, j, none⟩ k u hk
  obtain ⟨hL, hB, ⟨x1, o1⟩, ⟨x2, o2⟩, ⟨x3, o3⟩, ⟨x4, o4⟩⟩ := h
  exact ⟨(hb _ ha.a1.symm).trans hL, hB, ⟨_, (o1.stored j u).1⟩, ⟨_, own_block o2 (hb _ ha.b12.symm)⟩, ⟨_, own_block o3 (hb _ ha.b13.symm)⟩, ⟨_, own_block o4 (hb _ ha.b14.symm)⟩⟩
theorem St.set2 (h : St K w n1 n2 n3 n4) (j : Nat) (u : Value) : St K (w.setCell ⟨K.g2, j, none⟩ u) n1 n2 n3 n4 := by
  have ha := h.apart
  have hb : ∀ k, k ≠ K.g2 → (w.setCell ⟨K.g2, j, none⟩ u).heap[k]? = w.heap[k]? := fun k hk => heap_setCell_other w ⟨K.g2, j, none⟩ k u hk
  obtain ⟨hL, hB, ⟨x1, o1⟩, ⟨x2, o2⟩, ⟨x3, o3⟩, ⟨x4, o4⟩⟩ := h
  exact ⟨(hb _ ha.a2.symm).trans hL, hB, ⟨_, own_block o1 (hb _ ha.b12)⟩, ⟨_, (o2.stored j u).1⟩, ⟨_, own_block o3 (hb _ ha.b23.symm)⟩, ⟨_, own_block o4 (hb _ ha.b24.symm)⟩⟩
/-- the world is drawn from: nothing turns -/
theorem St.same (h : St K w n1 n2 n3 n4) (hh : w'.heap = w.heap) : St K w' n1 n2 n3 n4 := by
  obtain ⟨hL, hB, ⟨x1, o1⟩, ⟨x2, o2⟩, ⟨x3, o3⟩, ⟨x4, o4⟩⟩ := h
  exact ⟨by rw [hh]; exact hL, hB, ⟨_, own_block o1 (by rw [hh])⟩, ⟨_, own_block o2 (by rw [hh])⟩, ⟨_, own_block o3 (by rw [hh])⟩, ⟨_, own_block o4 (by rw [hh])⟩⟩
theorem Two.keep {L g k : Nat} (h : Two L g w w') (hk : k < w.heap.size) (h1 : k ≠ L) (h2 : k ≠ g) : w'.heap[k]? = w.heap[k]? := h.block k hk h1 h2
theorem St.app1 {m : Nat} {xs' : List Value} (h : St K w n1 n2 n3 n4) (hL' : w'.heap[K.L]? = some (.cells ((arena K.st (S K.g1 n1 K.c1) (S K.g2 n2 K.c2) (S K.g3 n3 K.c3) (S K.g4 n4 K.c4)).setIfInBounds 2 (S K.g1 (n1 + m) K.c1)) 64 (0, 0)))
    (ho : w'.ownsRow K.B 35 5 (S K.g1 (n1 + m) K.c1) (n1 + m) xs') (ht : Two K.L K.g1 w w') : St K w' (n1 + m) n2 n3 n4 := by
  have ha := h.apart
  have k2 := h.lt2
  have k3 := h.lt3
  have k4 := h.lt4
  obtain ⟨hL, hB, ⟨x1, o1⟩, ⟨x2, o2⟩, ⟨x3, o3⟩, ⟨x4, o4⟩⟩ := h
  exact ⟨hL', hB, ⟨_, ho⟩, ⟨_, own_block o2 (ht.block _ k2 ha.a2 ha.b12.symm)⟩, ⟨_, own_block o3 (ht.block _ k3 ha.a3 ha.b13.symm)⟩, ⟨_, own_block o4 (ht.block _ k4 ha.a4 ha.b14.symm)⟩⟩
theorem St.app2 {m : Nat} {xs' : List Value} (h : St K w n1 n2 n3 n4) (hL' : w'.heap[K.L]? = some (.cells ((arena K.st (S K.g1 n1 K.c1) (S K.g2 n2 K.c2) (S K.g3 n3 K.c3) (S K.g4 n4 K.c4)).setIfInBounds 3 (S K.g2 (n2 + m) K.c2)) 64 (0, 0)))
    (ho : w'.ownsRow K.B 69 3 (S K.g2 (n2 + m) K.c2) (n2 + m) xs') (ht : Two K.L K.g2 w w') : St K w' n1 (n2 + m) n3 n4 := by
  have ha := h.apart
  have k1 := h.lt1
  have k3 := h.lt3
  have k4 := h.lt4
  obtain ⟨hL, hB, ⟨x1, o1⟩, ⟨x2, o2⟩, ⟨x3, o3⟩, ⟨x4, o4⟩⟩ := h
  exact ⟨hL', hB, ⟨_, own_block o1 (ht.block _ k1 ha.a1 ha.b12)⟩, ⟨_, ho⟩, ⟨_, own_block o3 (ht.block _ k3 ha.a3 ha.b23.symm)⟩, ⟨_, own_block o4 (ht.block _ k4 ha.a4 ha.b24.symm)⟩⟩
theorem St.app3 {m : Nat} {xs' : List Value} (h : St K w n1 n2 n3 n4) (hL' : w'.heap[K.L]? = some (.cells ((arena K.st (S K.g1 n1 K.c1) (S K.g2 n2 K.c2) (S K.g3 n3 K.c3) (S K.g4 n4 K.c4)).setIfInBounds 4 (S K.g3 (n3 + m) K.c3)) 64 (0, 0)))
    (ho : w'.ownsRow K.B 71 4 (S K.g3 (n3 + m) K.c3) (n3 + m) xs') (ht : Two K.L K.g3 w w') : St K w' n1 n2 (n3 + m) n4 := by
  have ha := h.apart
  have k1 := h.lt1
  have k2 := h.lt2
  have k4 := h.lt4
  obtain ⟨hL, hB, ⟨x1, o1⟩, ⟨x2, o2⟩, ⟨x3, o3⟩, ⟨x4, o4⟩⟩ := h
  exact ⟨hL', hB, ⟨_, own_block o1 (ht.block _ k1 ha.a1 ha.b13)⟩, ⟨_, own_block o2 (ht.block _ k2 ha.a2 ha.b23)⟩, ⟨_, ho⟩, ⟨_, own_block o4 (ht.block _ k4 ha.a4 ha.b34.symm)⟩⟩
theorem St.app4 {m : Nat} {xs' : List Value} (h : St K w n1 n2 n3 n4) (hL' : w'.heap[K.L]? = some (.cells ((arena K.st (S K.g1 n1 K.c1) (S K.g2 n2 K.c2) (S K.g3 n3 K.c3) (S K.g4 n4 K.c4)).setIfInBounds 5 (S K.g4 (n4 + m) K.c4)) 64 (0, 0)))
    (ho : w'.ownsRow K.B 5 1 (S K.g4 (n4 + m) K.c4) (n4 + m) xs') (ht : Two K.L K.g4 w w') : St K w' n1 n2 n3 (n4 + m) := by
  have ha := h.apart
  have k1 := h.lt1
  have k2 := h.lt2
  have k3 := h.lt3
  obtain ⟨hL, hB, ⟨x1, o1⟩, ⟨x2, o2⟩, ⟨x3, o3⟩, ⟨x4, o4⟩⟩ := h
  exact ⟨hL', hB, ⟨_, own_block o1 (ht.block _ k1 ha.a1 ha.b14)⟩, ⟨_, own_block o2 (ht.block _ k2 ha.a2 ha.b24)⟩, ⟨_, own_block o3 (ht.block _ k3 ha.a3 ha.b34)⟩, ⟨_, ho⟩⟩
end

/-! ### what an append keeps, and what it lays -/
section
variable {w w' : World} {B e sz L g n m c : Nat} {xs news : List Value}
theorem agree_two (h : w.ownsRow B e sz (S g n c) n xs) (h' : w'.ownsRow B e sz (S g (n + m) c) (n + m) (xs ++ news)) (ht : Two L g w w') {P : Nat → Nat → Prop} (hP : ∀ b o, P b o → b ≠ L ∧ (b = g → o < n * sz)) : Agree P w w' := by
  intro b o hp v hv
  obtain ⟨p1, p2⟩ := hP b o hp
  by_cases hb : b = g
  · subst hb
    have ho := p2 rfl
    have hle : n * sz ≤ (n + m) * sz := Nat.mul_le_mul_right _ (by omega)
    rw [h.cellAt o ho] at hv
    rw [h'.cellAt o (by omega), List.getElem?_append_left (by rw [h.1]; exact ho)]
    exact hv
  · rw [World.cell?_of_block (a := ⟨b, o, none⟩) (ht.block b (lt_of_cell hv) p1 hb)]
    exact hv
theorem new_two (h : w.ownsRow B e sz (S g n c) n xs) (h' : w'.ownsRow B e sz (S g (n + m) c) (n + m) (xs ++ news)) (j : Nat) (hj : j < m * sz) : w'.cell? ⟨g, n * sz + j, none⟩ = news[j]? := by
  rw [h'.cellAt _ (by rw [Nat.add_mul]; omega), List.getElem?_append_right (by rw [h.1]; omega), h.1]
  congr 1
  omega
end
/-- what lies below B has not turned, but for the block L -/
structure FrL (B L : Nat) (w w1 : World) : Prop where
  os : w1.os = w.os
  tape : w1.tape = w.tape
  output : w1.output = w.output
  size : w.heap.size ≤ w1.heap.size
  block : ∀ k, k < B → k ≠ L → w1.heap[k]? = w.heap[k]?
theorem FrL.refl (B L : Nat) (w : World) : FrL B L w w := ⟨rfl, rfl, rfl, Nat.le_refl _, fun _ _ _ => rfl⟩
theorem FrL.trans {B L : Nat} {w w1 w2 : World} (h : FrL B L w w1) (k : FrL B L w1 w2) : FrL B L w w2 :=
  ⟨k.os.trans h.os, k.tape.trans h.tape, k.output.trans h.output, Nat.le_trans h.size k.size, fun j hj hne => (k.block j hj hne).trans (h.block j hj hne)⟩
theorem FrL.toFr {B L D : Nat} {w w1 : World} (h : FrL B L w w1) (h1 : D ≤ L) (h2 : D ≤ B) : Fr D w w1 := ⟨h.os, h.tape, h.output, h.size, fun k hk => h.block k (by omega) (by omega)⟩
theorem FrL.of {B L : Nat} {w w1 : World} (h : Fr B w w1) : FrL B L w w1 := ⟨h.os, h.tape, h.output, h.size, fun k hk _ => h.block k hk⟩
theorem FrL.ofL {B L : Nat} {w w1 : World} (h : w.grownBy w1 (some L)) (hB : B ≤ w.heap.size) : FrL B L w w1 :=
  ⟨h.os, h.tape, h.output, h.size, fun k hk hne => h.block k (by omega) (by simpa using hne)⟩
theorem FrL.set {B L : Nat} (w : World) {a : Addr} (ha : B ≤ a.block) (v : Value) : FrL B L w (w.setCell a v) := .of (Fr.set w ha v)
theorem Two.frL {w w' : World} {B L g : Nat} (ht : Two L g w w') (h2 : B ≤ g) (hs : B ≤ w.heap.size) : FrL B L w w' :=
  ⟨ht.os, ht.tape, ht.output, ht.size, fun k hk hne => ht.block k (by omega) hne (by omega)⟩
theorem add_none (b o j : Nat) : (⟨b, o, none⟩ : Addr).add j = ⟨b, o + j, none⟩ := by
  unfold Addr.add
  split
  · next h => subst h; rfl
  · rfl
theorem news_of {w : World} {ad : Addr} {N : Nat} (h : ∀ j, j < N → ∃ u, w.cell? (ad.add j) = some u ∧ u.oneCell' = true) :
    ∃ news : List Value, news.length = N ∧ (∀ j u, news[j]? = some u → w.cell? (ad.add j) = some u) ∧ (∀ u ∈ news, u.oneCell' = true) ∧ (∀ j, j < N → news[j]? = w.cell? (ad.add j)) := by
  have key : ∀ j, j < N → ((List.range N).map (fun j => (w.cell? (ad.add j)).getD undef))[j]? = w.cell? (ad.add j) := by
    intro j hj
    obtain ⟨u, hu, -⟩ := h j hj
    simp [List.getElem?_map, List.getElem?_range hj, hu]
  refine ⟨(List.range N).map (fun j => (w.cell? (ad.add j)).getD undef), by simp, ?_, ?_, key⟩
  · intro j u hu
    have hj : j < N := by
      have := (List.getElem?_eq_some_iff.1 hu).1
      simpa using this
    rw [← key j hj]
    exact hu
  · intro u hu
    obtain ⟨j, hj, rfl⟩ := List.mem_map.1 hu
    obtain ⟨u, hu, h1⟩ := h j (List.mem_range.1 hj)
    rw [hu]
    exact h1

/-- what a message's reading may rest on: the source, and what is laid so far -/
def foot (K : Cx) (n2 n3 n4 : Nat) (b o : Nat) : Prop := b < K.D ∨ (b = K.g2 ∧ o < n2 * 3) ∨ (b = K.g3 ∧ o < n3 * 4) ∨ (b = K.g4 ∧ o < n4)
theorem foot.mono {K : Cx} {n2 n3 n4 m2 m3 m4 : Nat} (h2 : n2 ≤ m2) (h3 : n3 ≤ m3) (h4 : n4 ≤ m4) (b o : Nat) (h : foot K n2 n3 n4 b o) : foot K m2 m3 m4 b o := by
  unfold foot at *
  omega

/-- a call, its own cells free of the footprint -/
def CallQ (w : World) (P : Nat → Nat → Prop) (b o : Nat) (c : mem.Call) : Prop :=
  ∃ v, w.cell? ⟨b, o, none⟩ = some (.string c.id) ∧ w.cell? ⟨b, o + 1, none⟩ = some (.string c.name) ∧ w.cell? ⟨b, o + 2, none⟩ = some v ∧ RBp w P v c.args ∧ c.id.size ≤ maxLen ∧ c.name.size ≤ maxLen
theorem CallQ.toP {w : World} {P P' : Nat → Nat → Prop} {b o : Nat} {c : mem.Call} (h : CallQ w P b o c) (hP : ∀ b o, P b o → P' b o) (p : P' b o ∧ P' b (o + 1) ∧ P' b (o + 2)) : CallP w P' b o c := by
  obtain ⟨v, h0, h1, h2, h3, h4⟩ := h
  exact ⟨v, p, h0, h1, h2, h3.kept (fun _ _ _ _ k => k) hP, h4⟩
theorem CallQ.move {w w1 : World} {P P' : Nat → Nat → Prop} {b o : Nat} {c : mem.Call} (h : CallQ w P b o c) (hf : Agree P w w1) (hP : ∀ b o, P b o → P' b o)
    (hb : ∀ r v, r < 3 → w.cell? ⟨b, o + r, none⟩ = some v → w1.cell? ⟨b, o + r, none⟩ = some v) : CallQ w1 P' b o c := by
  obtain ⟨v, h0, h1, h2, h3, h4⟩ := h
  exact ⟨v, hb 0 _ (by omega) h0, hb 1 _ (by omega) h1, hb 2 _ (by omega) h2, h3.kept hf hP, h4⟩
theorem MsgP.move {w w1 : World} {P P' : Nat → Nat → Prop} {b o : Nat} {m : Msg} (h : MsgP w P b o m) (hf : Agree P w w1) (hP : ∀ b o, P b o → P' b o)
    (hb : ∀ r v, r < 5 → w.cell? ⟨b, o + r, none⟩ = some v → w1.cell? ⟨b, o + r, none⟩ = some v) : MsgP w1 P' b o m := by
  obtain ⟨v3, v4, h0, h1, h2, h3, h4, h5, h6, h7⟩ := h
  exact ⟨v3, v4, hb 0 _ (by omega) h0, hb 1 _ (by omega) h1, hb 2 _ (by omega) h2, hb 3 _ (by omega) h3, hb 4 _ (by omega) h4, h5.kept hf hP, h6.kept hf hP, h7⟩
end Go.Proofs.Qxb6618675a.walks
