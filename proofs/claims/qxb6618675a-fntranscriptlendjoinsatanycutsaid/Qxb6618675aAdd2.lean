/-
  THE STEPS OF 'add', no walk of it: each call of appendClipped, and what stands behind it.
-/
import Derived.Test.Qxb6618675aAdd1
namespace Go.Proofs.Qxb6618675a.walks
open Go.RowKit Go.Proofs.Qxb6618675a.mem

theorem Agree.trans {P : Nat → Nat → Prop} {w w1 w2 : World} (h : Agree P w w1) (k : Agree P w1 w2) : Agree P w w2 := fun b o p v hv => k b o p v (h b o p v hv)
theorem nC_drop {l : List Msg} {k : Nat} {m : Msg} (h : l[k]? = some m) : nC (l.drop k) = (callsOf m).length + nC (l.drop (k + 1)) := sum_drop (fun m => (callsOf m).length) l k h
theorem nR_drop {l : List Msg} {k : Nat} {m : Msg} (h : l[k]? = some m) : nR (l.drop k) = (resOf m).length + nR (l.drop (k + 1)) := sum_drop (fun m => (resOf m).length) l k h
theorem nA_drop {l : List Msg} {k : Nat} {m : Msg} (h : l[k]? = some m) : nA (l.drop k) = cSum (callsOf m) + nA (l.drop (k + 1)) := sum_drop (fun m => cSum (callsOf m)) l k h
theorem cSum_drop {l : List mem.Call} {j : Nat} {c : mem.Call} (h : l[j]? = some c) : cSum (l.drop j) = c.bulk + cSum (l.drop (j + 1)) := sum_drop Call.bulk l j h

theorem cell_two {w w' : World} {L g b o : Nat} {v : Value} (ht : Two L g w w') (h1 : b ≠ L) (h2 : b ≠ g) (hv : w.cell? ⟨b, o, none⟩ = some v) : w'.cell? ⟨b, o, none⟩ = some v := by
  rw [World.cell?_of_block (a := ⟨b, o, none⟩) (ht.block b (lt_of_cell hv) h1 h2)]
  exact hv
theorem cell_set {w : World} {g j b o : Nat} {u v : Value} (hne : ¬ (b = g ∧ o = j)) (hv : w.cell? ⟨b, o, none⟩ = some v) : (w.setCell ⟨g, j, none⟩ u).cell? ⟨b, o, none⟩ = some v := by
  rw [World.cell?_setCell_other w ⟨g, j, none⟩ ⟨b, o, none⟩ u (by intro e; cases e; exact hne ⟨rfl, rfl⟩)]
  exact hv

theorem spot_of {α : Type} {At : Nat → Nat → α → Prop} {sz n c : Nat} {ad : Addr} {l : List α} (h : RLp At sz (.slice (some ad) n c) (some l)) :
    l.length = n ∧ n ≤ c ∧ c ≤ maxLen ∧ ∀ i m, l[i]? = some m → ∃ b o, ad = ⟨b, o, none⟩ ∧ At b (o + i * sz) m := by
  obtain ⟨a, c', e, h1, h2, h3⟩ := h
  cases e
  refine ⟨rfl, h1, h2, fun i m hm => ?_⟩
  obtain ⟨k1, k2⟩ := h3 i m hm
  obtain ⟨b, o, sp⟩ := ad
  cases k1
  exact ⟨b, o, rfl, k2⟩

theorem cells_calls {w : World} {P : Nat → Nat → Prop} {ad : Addr} {l : List mem.Call} {n c : Nat} (h : RCp w P (.slice (some ad) n c) (some l)) :
    l.length = n ∧ n ≤ c ∧ c ≤ maxLen ∧ (∀ j, j < n * 3 → ∃ u, w.cell? (ad.add j) = some u ∧ u.oneCell' = true) ∧
    ∀ i c, l[i]? = some c → ∃ v, w.cell? (ad.add (i * 3)) = some (.string c.id) ∧ w.cell? (ad.add (i * 3 + 1)) = some (.string c.name) ∧ w.cell? (ad.add (i * 3 + 2)) = some v ∧ RBp w P v c.args ∧ c.id.size ≤ maxLen ∧ c.name.size ≤ maxLen := by
  obtain ⟨h1, h2, h3, h4⟩ := spot_of h
  have hat : ∀ i c, l[i]? = some c → ∃ v, w.cell? (ad.add (i * 3)) = some (.string c.id) ∧ w.cell? (ad.add (i * 3 + 1)) = some (.string c.name) ∧ w.cell? (ad.add (i * 3 + 2)) = some v ∧ RBp w P v c.args ∧ c.id.size ≤ maxLen ∧ c.name.size ≤ maxLen := by
    intro i c hc
    obtain ⟨b, o, rfl, v, -, k0, k1, k2, k3, k4⟩ := h4 i c hc
    exact ⟨v, by rw [add_none]; exact k0, by rw [add_none]; exact k1, by rw [add_none]; exact k2, k3, k4⟩
  refine ⟨h1, h2, h3, fun j hj => ?_, hat⟩
  have hi : j / 3 < l.length := by omega
  obtain ⟨v, k0, k1, k2, k3, -⟩ := hat (j / 3) _ (List.getElem?_eq_getElem hi)
  have hr : j % 3 = 0 ∨ j % 3 = 1 ∨ j % 3 = 2 := by omega
  rcases hr with hr | hr | hr
  · rw [show j = j / 3 * 3 by omega]; exact ⟨_, k0, rfl⟩
  · rw [show j = j / 3 * 3 + 1 by omega]; exact ⟨_, k1, rfl⟩
  · rw [show j = j / 3 * 3 + 2 by omega]
    obtain ⟨a, n, c, rfl, -⟩ := RLp.form k3
    exact ⟨_, k2, rfl⟩
theorem cells_res {w : World} {P : Nat → Nat → Prop} {ad : Addr} {l : List Res} {n c : Nat} (h : RRp w P (.slice (some ad) n c) (some l)) :
    l.length = n ∧ n ≤ c ∧ c ≤ maxLen ∧ (∀ j, j < n * 4 → ∃ u, w.cell? (ad.add j) = some u ∧ u.oneCell' = true) ∧
    ∀ i r, l[i]? = some r → w.cell? (ad.add (i * 4)) = some (.string r.cid) ∧ w.cell? (ad.add (i * 4 + 1)) = some (.string r.name) ∧ w.cell? (ad.add (i * 4 + 2)) = some (.string r.content) ∧ w.cell? (ad.add (i * 4 + 3)) = some (.bool r.err) ∧ r.cid.size ≤ maxLen ∧ r.name.size ≤ maxLen ∧ r.content.size ≤ maxLen := by
  obtain ⟨h1, h2, h3, h4⟩ := spot_of h
  have hat : ∀ i r, l[i]? = some r → w.cell? (ad.add (i * 4)) = some (.string r.cid) ∧ w.cell? (ad.add (i * 4 + 1)) = some (.string r.name) ∧ w.cell? (ad.add (i * 4 + 2)) = some (.string r.content) ∧ w.cell? (ad.add (i * 4 + 3)) = some (.bool r.err) ∧ r.cid.size ≤ maxLen ∧ r.name.size ≤ maxLen ∧ r.content.size ≤ maxLen := by
    intro i c hc
    obtain ⟨b, o, rfl, -, k0, k1, k2, k3, k4⟩ := h4 i c hc
    exact ⟨by rw [add_none]; exact k0, by rw [add_none]; exact k1, by rw [add_none]; exact k2, by rw [add_none]; exact k3, k4⟩
  refine ⟨h1, h2, h3, fun j hj => ?_, hat⟩
  have hi : j / 4 < l.length := by omega
  obtain ⟨k0, k1, k2, k3, -⟩ := hat (j / 4) _ (List.getElem?_eq_getElem hi)
  have hr : j % 4 = 0 ∨ j % 4 = 1 ∨ j % 4 = 2 ∨ j % 4 = 3 := by omega
  rcases hr with hr | hr | hr | hr
  · rw [show j = j / 4 * 4 by omega]; exact ⟨_, k0, rfl⟩
  · rw [show j = j / 4 * 4 + 1 by omega]; exact ⟨_, k1, rfl⟩
  · rw [show j = j / 4 * 4 + 2 by omega]; exact ⟨_, k2, rfl⟩
  · rw [show j = j / 4 * 4 + 3 by omega]; exact ⟨_, k3, rfl⟩
theorem cells_bytes {w : World} {P : Nat → Nat → Prop} {ad : Addr} {l : List UInt8} {n c : Nat} (h : RBp w P (.slice (some ad) n c) (some l)) :
    l.length = n ∧ n ≤ c ∧ c ≤ maxLen ∧ (∀ j, j < n * 1 → ∃ u, w.cell? (ad.add j) = some u ∧ u.oneCell' = true) ∧
    ∀ i u, l[i]? = some u → w.cell? (ad.add i) = some (.int .u8 (u.toNat : Int)) := by
  obtain ⟨h1, h2, h3, h4⟩ := spot_of h
  have hat : ∀ i u, l[i]? = some u → w.cell? (ad.add i) = some (.int .u8 (u.toNat : Int)) := by
    intro i c hc
    obtain ⟨b, o, rfl, -, k0⟩ := h4 i c hc
    rw [add_none]
    simpa using k0
  refine ⟨h1, h2, h3, fun j hj => ?_, hat⟩
  have hi : j < l.length := by omega
  exact ⟨_, hat j _ (List.getElem?_eq_getElem hi), rfl⟩

/-- between the steps: everything reads as it should, and there is room for what is to come -/
structure Inv (K : Cx) (l : List Msg) (w0 : World) (N1 o1 : Nat) (W : World) (a b n2 n3 n4 : Nat) : Prop where
  st : St K W N1 n2 n3 n4
  r2 : n2 + nC (l.drop a) ≤ K.c2
  r4 : n4 + nA (l.drop a) ≤ K.c4
  r3 : n3 + nR (l.drop b) ≤ K.c3
  msg : ∀ i m, l[i]? = some m → MsgP W (foot K n2 n3 n4) K.g1 (o1 + i * 5) m
  fr : FrL K.B K.L w0 W
  sz : K.B ≤ W.heap.size

/-- the cells of the message that is at work -/
def Work (K : Cx) (W : World) (o : Nat) (m : Msg) (P : Nat → Nat → Prop) (v3 : Value) : Prop :=
  ∃ v4, W.cell? ⟨K.g1, o, none⟩ = some (.string m.role) ∧ W.cell? ⟨K.g1, o + 1, none⟩ = some (.string m.text) ∧ W.cell? ⟨K.g1, o + 2, none⟩ = some (.string m.refusal) ∧ W.cell? ⟨K.g1, o + 3, none⟩ = some v3 ∧ W.cell? ⟨K.g1, o + 4, none⟩ = some v4 ∧
    RRp W P v4 m.res ∧ m.role.size ≤ maxLen ∧ m.text.size ≤ maxLen ∧ m.refusal.size ≤ maxLen
theorem Work.move {K : Cx} {W W' : World} {o : Nat} {m : Msg} {P P' : Nat → Nat → Prop} {v3 : Value} (h : Work K W o m P v3) (hf : Agree P W W') (hP : ∀ b o, P b o → P' b o)
    (hb : ∀ r v, r < 5 → W.cell? ⟨K.g1, o + r, none⟩ = some v → W'.cell? ⟨K.g1, o + r, none⟩ = some v) : Work K W' o m P' v3 := by
  obtain ⟨v4, h0, h1, h2, h3, h4, h5, h6⟩ := h
  exact ⟨v4, hb 0 _ (by omega) h0, hb 1 _ (by omega) h1, hb 2 _ (by omega) h2, hb 3 _ (by omega) h3, hb 4 _ (by omega) h4, h5.kept hf hP, h6⟩

structure InvC (K : Cx) (l : List Msg) (w0 : World) (N1 o1 : Nat) (W : World) (k : Nat) (m : Msg) (cnt o2 n2 n3 j n4 : Nat) : Prop where
  hc : m.calls = some (callsOf m)
  hn : (callsOf m).length = cnt
  st : St K W N1 (n2 + cnt) n3 n4
  r2 : n2 + cnt + nC (l.drop (k + 1)) ≤ K.c2
  r4 : n4 + cSum ((callsOf m).drop j) + nA (l.drop (k + 1)) ≤ K.c4
  r3 : n3 + nR (l.drop k) ≤ K.c3
  ho : cnt ≠ 0 → o2 = n2 * 3
  cm : cnt ≤ maxLen
  msg : ∀ i m', i ≠ k → l[i]? = some m' → MsgP W (foot K n2 n3 n4) K.g1 (o1 + i * 5) m'
  own : Work K W (o1 + k * 5) m (foot K n2 n3 n4) (.slice (some ⟨K.g2, o2, none⟩) cnt cnt)
  call : ∀ i c, (callsOf m)[i]? = some c → CallQ W (foot K n2 n3 n4) K.g2 (o2 + i * 3) c
  fr : FrL K.B K.L w0 W
  sz : K.B ≤ W.heap.size

section
variable {K : Cx} {l : List Msg} {w0 W W' : World} {N1 o1 a b k n2 n3 n4 : Nat} {m : Msg}
theorem foot_g1 {j : Nat} (ha : Apart K) : ¬ foot K n2 n3 n4 K.g1 j := by
  have h0 := ha.l0
  have h1 := ha.l1
  have h2 := ha.b12
  have h3 := ha.b13
  have h4 := ha.b14
  unfold foot
  omega
theorem foot_g2 {j : Nat} (ha : Apart K) (hj : n2 * 3 ≤ j) : ¬ foot K n2 n3 n4 K.g2 j := by
  have h0 := ha.l0
  have h1 := ha.l2
  have h2 := ha.b23
  have h3 := ha.b24
  unfold foot
  omega
theorem foot_two2 (ha : Apart K) (b o : Nat) (p : foot K n2 n3 n4 b o) : b ≠ K.L ∧ (b = K.g2 → o < n2 * 3) := by
  obtain ⟨a1, a2, a3, a4, b12, b13, b14, b23, b24, b34, l0, l1, l2, l3, l4⟩ := ha
  unfold foot at p
  omega
theorem foot_two3 (ha : Apart K) (b o : Nat) (p : foot K n2 n3 n4 b o) : b ≠ K.L ∧ (b = K.g3 → o < n3 * 4) := by
  obtain ⟨a1, a2, a3, a4, b12, b13, b14, b23, b24, b34, l0, l1, l2, l3, l4⟩ := ha
  unfold foot at p
  omega
theorem foot_two4 (ha : Apart K) (b o : Nat) (p : foot K n2 n3 n4 b o) : b ≠ K.L ∧ (b = K.g4 → o < n4 * 1) := by
  obtain ⟨a1, a2, a3, a4, b12, b13, b14, b23, b24, b34, l0, l1, l2, l3, l4⟩ := ha
  unfold foot at p
  omega

/-- only the draw's counter has turned -/
theorem Inv.same (h : Inv K l w0 N1 o1 W a b n2 n3 n4) (hh : W'.heap = W.heap) (h1 : W'.os = W.os) (h2 : W'.tape = W.tape) (h3 : W'.output = W.output) : Inv K l w0 N1 o1 W' a b n2 n3 n4 := by
  have hc : ∀ a : Addr, W'.cell? a = W.cell? a := fun a => World.cell?_of_block (by rw [hh])
  obtain ⟨s, r2, r4, r3, msg, fr, sz⟩ := h
  exact ⟨s.same hh, r2, r4, r3, fun i m hm => MsgP.move (msg i m hm) (fun _ _ _ _ k => by rw [hc]; exact k) (fun _ _ p => p) (fun _ _ _ k => by rw [hc]; exact k), ⟨h1.trans fr.os, h2.trans fr.tape, h3.trans fr.output, by rw [hh]; exact fr.size, fun k hk hne => by rw [hh]; exact fr.block k hk hne⟩, by rw [hh]; exact sz⟩
theorem InvC.same {cnt o2 j : Nat} (h : InvC K l w0 N1 o1 W k m cnt o2 n2 n3 j n4) (hh : W'.heap = W.heap) (h1 : W'.os = W.os) (h2 : W'.tape = W.tape) (h3 : W'.output = W.output) : InvC K l w0 N1 o1 W' k m cnt o2 n2 n3 j n4 := by
  have hc : ∀ a : Addr, W'.cell? a = W.cell? a := fun a => World.cell?_of_block (by rw [hh])
  have hA : ∀ {P}, Agree P W W' := fun _ _ _ _ k => by rw [hc]; exact k
  obtain ⟨p1, p2, s, r2, r4, r3, p3, p4, msg, own, call, fr, sz⟩ := h
  exact ⟨p1, p2, s.same hh, r2, r4, r3, p3, p4, fun i m hi hm => MsgP.move (msg i m hi hm) hA (fun _ _ p => p) (fun _ _ _ k => by rw [hc]; exact k), own.move hA (fun _ _ p => p) (fun _ _ _ k => by rw [hc]; exact k), fun i c h => (call i c h).move hA (fun _ _ p => p) (fun _ _ _ k => by rw [hc]; exact k), ⟨h1.trans fr.os, h2.trans fr.tape, h3.trans fr.output, by rw [hh]; exact fr.size, fun k hk hne => by rw [hh]; exact fr.block k hk hne⟩, by rw [hh]; exact sz⟩

/-- a message without calls: passed over -/
theorem Inv.skipC (h : Inv K l w0 N1 o1 W k b n2 n3 n4) (hm : l[k]? = some m) : Inv K l w0 N1 o1 W (k + 1) b n2 n3 n4 := by
  have h1 := nC_drop hm
  have h2 := nA_drop hm
  obtain ⟨s, r2, r4, r3, msg, fr, sz⟩ := h
  exact ⟨s, by omega, by omega, r3, msg, fr, sz⟩
theorem Inv.skipR (h : Inv K l w0 N1 o1 W a k n2 n3 n4) (hm : l[k]? = some m) : Inv K l w0 N1 o1 W a (k + 1) n2 n3 n4 := by
  have h1 := nR_drop hm
  obtain ⟨s, r2, r4, r3, msg, fr, sz⟩ := h
  exact ⟨s, r2, r4, by omega, msg, fr, sz⟩
theorem InvC.skipA {cnt o2 j : Nat} {c : mem.Call} (h : InvC K l w0 N1 o1 W k m cnt o2 n2 n3 j n4) (hm : (callsOf m)[j]? = some c) : InvC K l w0 N1 o1 W k m cnt o2 n2 n3 (j + 1) n4 := by
  have h1 := cSum_drop hm
  obtain ⟨p1, p2, s, r2, r4, r3, p3, p4, msg, own, call, fr, sz⟩ := h
  exact ⟨p1, p2, s, r2, by omega, r3, p3, p4, msg, own, call, fr, sz⟩
/-- the calls are done -/
theorem InvC.done {cnt o2 : Nat} (h : InvC K l w0 N1 o1 W k m cnt o2 n2 n3 cnt n4) (hm : l[k]? = some m) : Inv K l w0 N1 o1 W (k + 1) k (n2 + cnt) n3 n4 := by
  have ha := h.st.apart
  obtain ⟨p1, p2, s, r2, r4, r3, p3, p4, msg, own, call, fr, sz⟩ := h
  have hmono : ∀ b o, foot K n2 n3 n4 b o → foot K (n2 + cnt) n3 n4 b o := foot.mono (by omega) (Nat.le_refl _) (Nat.le_refl _)
  refine ⟨s, r2, by omega, r3, fun i m' hi => ?_, fr, sz⟩
  by_cases hik : i = k
  · subst hik
    rw [hm] at hi
    cases hi
    obtain ⟨v4, h0, h1, h2, h3, h4, h5, h6⟩ := own
    refine ⟨_, v4, h0, h1, h2, h3, h4, ?_, h5.kept (fun _ _ _ _ k => k) hmono, h6⟩
    rw [p1]
    refine ⟨⟨K.g2, o2, none⟩, cnt, by rw [p2], by omega, p4, fun j c hc => ⟨rfl, ?_⟩⟩
    have hj : j < cnt := by rw [← p2]; exact (List.getElem?_eq_some_iff.1 hc).1
    have ho := p3 (by omega)
    refine (call j c hc).toP hmono ⟨?_, ?_, ?_⟩ <;> (unfold foot; refine Or.inr (Or.inl ⟨rfl, ?_⟩); omega)
  · exact MsgP.move (msg i m' hik hi) (fun _ _ _ _ k => k) hmono (fun _ _ _ k => k)
end

section
variable {K : Cx} {l : List Msg} {w0 W : World} {N1 o1 k n2 n3 n4 : Nat} {m : Msg} {ad : Addr} {cnt cc : Nat}
/-- the calls of message k are laid into the arena -/
theorem callC (h : Inv K l w0 N1 o1 W k k n2 n3 n4) (hm : l[k]? = some m) (h3 : W.cell? ⟨K.g1, o1 + k * 5 + 3, none⟩ = some (.slice (some ad) cnt cc)) :
    Calls Try.prog 34 #[.pointer (some ⟨K.L, 3, none⟩), .slice (some ad) cnt cc] W fun e w' => ∃ o2, e = .returned (.slice (some ⟨K.g2, o2, none⟩) cnt cnt) ∧ w'.cell? ⟨K.g1, o1 + k * 5 + 3, none⟩ = some (.slice (some ad) cnt cc) ∧ w'.frozen? ⟨K.g1, o1 + k * 5 + 3, none⟩ = false ∧
      InvC K l w0 N1 o1 (w'.setCell ⟨K.g1, o1 + k * 5 + 3, none⟩ (.slice (some ⟨K.g2, o2, none⟩) cnt cnt)) k m cnt o2 n2 n3 0 n4 := by
  have ha := h.st.apart
  obtain ⟨s, r2, r4, r3, msg, fr, sz⟩ := h
  obtain ⟨v3, v4, e0, e1, e2, e3, e4, hrc, hrr, hz⟩ := msg k m hm
  rw [h3] at e3
  cases e3
  obtain ⟨cl, hcl⟩ : ∃ cl, m.calls = some cl := by
    cases hmc : m.calls with
    | none => rw [hmc] at hrc; cases hrc
    | some cl => exact ⟨cl, rfl⟩
  have hco : callsOf m = cl := by unfold callsOf; rw [hcl]; rfl
  rw [hcl] at hrc
  obtain ⟨hlen, hle, hmax, hex, hat⟩ := cells_calls hrc
  obtain ⟨news, hnl, hn1, hn2, hn3⟩ := news_of hex
  obtain ⟨xs, own2⟩ := s.o2
  have hC := nC_drop hm
  have hA := nA_drop hm
  rw [hco] at hC hA
  refine (f34 K.B K.L 3 K.g2 n2 K.c2 cnt cc _ 64 ad xs news W s.hL rfl own2 ha.a2 (by omega) hnl hn1 hn2).mono ?_
  rintro e w' ⟨o2, rfl, ho2, hL', hown', ht⟩
  have s' := s.app2 hL' hown' ht
  have hAg : Agree (foot K n2 n3 n4) W w' := agree_two own2 hown' ht (foot_two2 ha)
  have hg1 : ∀ {o v}, W.cell? ⟨K.g1, o, none⟩ = some v → w'.cell? ⟨K.g1, o, none⟩ = some v := fun hv => cell_two ht ha.a1 ha.b12 hv
  refine ⟨o2, rfl, hg1 h3, s'.fz1 _, ?_⟩
  have hAg2 : Agree (foot K n2 n3 n4) W (w'.setCell ⟨K.g1, o1 + k * 5 + 3, none⟩ (.slice (some ⟨K.g2, o2, none⟩) cnt cnt)) := Agree.trans hAg (Agree.set (foot_g1 ha))
  have hcopy : ∀ j, j < cnt * 3 → w'.cell? ⟨K.g2, n2 * 3 + j, none⟩ = W.cell? (ad.add j) := fun j hj => by rw [new_two own2 hown' j hj, hn3 j hj]
  refine ⟨by rw [hcl, hco], by rw [hco]; exact hlen, s'.set1 _ _, by omega, by rw [hco, List.drop_zero]; omega, r3, ho2, by unfold maxLen at *; omega, fun i m' hi hm' => ?_, ?_, fun i c hc => ?_, ?_, ?_⟩
  · exact MsgP.move (msg i m' hm') hAg2 (fun _ _ p => p) (fun r v hr hv => cell_set (by omega) (hg1 hv))
  · exact ⟨v4, cell_set (by omega) (hg1 e0), cell_set (by omega) (hg1 e1), cell_set (by omega) (hg1 e2), World.cell?_setCell_same _ _ _ (hg1 h3), cell_set (by omega) (hg1 e4), hrr.kept hAg2 (fun _ _ p => p), hz⟩
  · rw [hco] at hc
    obtain ⟨v, k0, k1, k2, k3, k4⟩ := hat i c hc
    have hi : i < cnt := by rw [← hlen]; exact (List.getElem?_eq_some_iff.1 hc).1
    have ho := ho2 (by omega)
    subst ho
    have hb12 := ha.b12
    refine ⟨v, ?_, ?_, ?_, k3.kept hAg2 (fun _ _ p => p), k4⟩
    · exact cell_set (by omega) (by rw [hcopy _ (by omega)]; exact k0)
    · exact cell_set (by omega) (by rw [Nat.add_assoc, hcopy _ (by omega)]; exact k1)
    · exact cell_set (by omega) (by rw [Nat.add_assoc, hcopy _ (by omega)]; exact k2)
  · exact (fr.trans (ht.frL ha.l2 sz)).trans (FrL.set _ (a := ⟨K.g1, o1 + k * 5 + 3, none⟩) ha.l1 _)
  · have hsz := Nat.le_trans sz ht.size
    simpa using hsz

/-- the results of message k are laid into the arena -/
theorem callR (h : Inv K l w0 N1 o1 W (k + 1) k n2 n3 n4) (hm : l[k]? = some m) (h4 : W.cell? ⟨K.g1, o1 + k * 5 + 4, none⟩ = some (.slice (some ad) cnt cc)) :
    Calls Try.prog 36 #[.pointer (some ⟨K.L, 4, none⟩), .slice (some ad) cnt cc] W fun e w' => ∃ o3, e = .returned (.slice (some ⟨K.g3, o3, none⟩) cnt cnt) ∧ w'.cell? ⟨K.g1, o1 + k * 5 + 4, none⟩ = some (.slice (some ad) cnt cc) ∧ w'.frozen? ⟨K.g1, o1 + k * 5 + 4, none⟩ = false ∧
      Inv K l w0 N1 o1 (w'.setCell ⟨K.g1, o1 + k * 5 + 4, none⟩ (.slice (some ⟨K.g3, o3, none⟩) cnt cnt)) (k + 1) (k + 1) n2 (n3 + cnt) n4 := by
  have ha := h.st.apart
  obtain ⟨s, r2, r4, r3, msg, fr, sz⟩ := h
  obtain ⟨v3, v4, e0, e1, e2, e3, e4, hrc, hrr, hz⟩ := msg k m hm
  rw [h4] at e4
  cases e4
  obtain ⟨cl, hcl⟩ : ∃ cl, m.res = some cl := by
    cases hmc : m.res with
    | none => rw [hmc] at hrr; cases hrr
    | some cl => exact ⟨cl, rfl⟩
  have hco : resOf m = cl := by unfold resOf; rw [hcl]; rfl
  rw [hcl] at hrr
  obtain ⟨hlen, hle, hmax, hex, hat⟩ := cells_res hrr
  obtain ⟨news, hnl, hn1, hn2, hn3⟩ := news_of hex
  obtain ⟨xs, own3⟩ := s.o3
  have hR := nR_drop hm
  rw [hco] at hR
  refine (f36 K.B K.L 4 K.g3 n3 K.c3 cnt cc _ 64 ad xs news W s.hL rfl own3 ha.a3 (by omega) hnl hn1 hn2).mono ?_
  rintro e w' ⟨o3, rfl, ho3, hL', hown', ht⟩
  have s' := s.app3 hL' hown' ht
  have hAg : Agree (foot K n2 n3 n4) W w' := agree_two own3 hown' ht (foot_two3 ha)
  have hg1 : ∀ {o v}, W.cell? ⟨K.g1, o, none⟩ = some v → w'.cell? ⟨K.g1, o, none⟩ = some v := fun hv => cell_two ht ha.a1 ha.b13 hv
  refine ⟨o3, rfl, hg1 h4, s'.fz1 _, ?_⟩
  have hAg2 : Agree (foot K n2 n3 n4) W (w'.setCell ⟨K.g1, o1 + k * 5 + 4, none⟩ (.slice (some ⟨K.g3, o3, none⟩) cnt cnt)) := Agree.trans hAg (Agree.set (foot_g1 ha))
  have hcopy : ∀ j, j < cnt * 4 → w'.cell? ⟨K.g3, n3 * 4 + j, none⟩ = W.cell? (ad.add j) := fun j hj => by rw [new_two own3 hown' j hj, hn3 j hj]
  have hmono : ∀ b o, foot K n2 n3 n4 b o → foot K n2 (n3 + cnt) n4 b o := foot.mono (Nat.le_refl _) (by omega) (Nat.le_refl _)
  refine ⟨s'.set1 _ _, r2, r4, by omega, fun i m' hm' => ?_, ?_, ?_⟩
  · by_cases hik : i = k
    · subst hik
      rw [hm] at hm'
      cases hm'
      refine ⟨v3, _, cell_set (by omega) (hg1 e0), cell_set (by omega) (hg1 e1), cell_set (by omega) (hg1 e2), cell_set (by omega) (hg1 e3), World.cell?_setCell_same _ _ _ (hg1 h4), hrc.kept hAg2 hmono, ?_, hz⟩
      rw [hcl]
      refine ⟨⟨K.g3, o3, none⟩, cnt, by rw [hlen], by omega, by unfold maxLen at *; omega, fun j c hc => ⟨rfl, ?_⟩⟩
      have hj : j < cnt := by rw [← hlen]; exact (List.getElem?_eq_some_iff.1 hc).1
      have ho := ho3 (by omega)
      subst ho
      have hb13 := ha.b13
      obtain ⟨k0, k1, k2, k3, k4⟩ := hat j c hc
      show ResP _ _ K.g3 (n3 * 4 + j * 4) c
      refine ⟨⟨?_, ?_, ?_, ?_⟩, ?_, ?_, ?_, ?_, k4⟩
      · exact Or.inr (Or.inr (Or.inl ⟨rfl, by omega⟩))
      · exact Or.inr (Or.inr (Or.inl ⟨rfl, by omega⟩))
      · exact Or.inr (Or.inr (Or.inl ⟨rfl, by omega⟩))
      · exact Or.inr (Or.inr (Or.inl ⟨rfl, by omega⟩))
      · exact cell_set (by omega) (by rw [hcopy _ (by omega)]; exact k0)
      · exact cell_set (by omega) (by rw [Nat.add_assoc, hcopy _ (by omega)]; exact k1)
      · exact cell_set (by omega) (by rw [Nat.add_assoc, hcopy _ (by omega)]; exact k2)
      · exact cell_set (by omega) (by rw [Nat.add_assoc, hcopy _ (by omega)]; exact k3)
    · exact MsgP.move (msg i m' hm') hAg2 hmono (fun r v hr hv => cell_set (by omega) (hg1 hv))
  · exact (fr.trans (ht.frL ha.l3 sz)).trans (FrL.set _ (a := ⟨K.g1, o1 + k * 5 + 4, none⟩) ha.l1 _)
  · have hsz := Nat.le_trans sz ht.size
    simpa using hsz

/-- the arguments of call j are laid into the arena -/
theorem callA {o2 j nn : Nat} {q : mem.Call} (h : InvC K l w0 N1 o1 W k m cnt o2 n2 n3 j n4) (hq : (callsOf m)[j]? = some q) (h2 : W.cell? ⟨K.g2, o2 + j * 3 + 2, none⟩ = some (.slice (some ad) nn cc)) :
    Calls Try.prog 35 #[.pointer (some ⟨K.L, 5, none⟩), .slice (some ad) nn cc] W fun e w' => ∃ o4, e = .returned (.slice (some ⟨K.g4, o4, none⟩) nn nn) ∧ w'.cell? ⟨K.g2, o2 + j * 3 + 2, none⟩ = some (.slice (some ad) nn cc) ∧ w'.frozen? ⟨K.g2, o2 + j * 3 + 2, none⟩ = false ∧
      InvC K l w0 N1 o1 (w'.setCell ⟨K.g2, o2 + j * 3 + 2, none⟩ (.slice (some ⟨K.g4, o4, none⟩) nn nn)) k m cnt o2 n2 n3 (j + 1) (n4 + nn) := by
  have ha := h.st.apart
  obtain ⟨p1, p2, s, r2, r4, r3, p3, p4, msg, own, call, fr, sz⟩ := h
  obtain ⟨v2, e0, e1, e2, hrb, hz⟩ := call j q hq
  rw [h2] at e2
  cases e2
  obtain ⟨al, hal⟩ : ∃ al, q.args = some al := by
    cases hmc : q.args with
    | none => rw [hmc] at hrb; cases hrb
    | some al => exact ⟨al, rfl⟩
  have hbulk : q.bulk = al.length := by unfold Call.bulk; rw [hal]; rfl
  rw [hal] at hrb
  obtain ⟨hlen, hle, hmax, hex, hat⟩ := cells_bytes hrb
  obtain ⟨news, hnl, hn1, hn2, hn3⟩ := news_of hex
  obtain ⟨xs, own4⟩ := s.o4
  have hS := cSum_drop hq
  have hj : j < cnt := by rw [← p2]; exact (List.getElem?_eq_some_iff.1 hq).1
  have ho := p3 (by omega)
  refine (f35 K.B K.L 5 K.g4 n4 K.c4 nn cc _ 64 ad xs news W s.hL rfl own4 ha.a4 (by omega) hnl hn1 hn2).mono ?_
  rintro e w' ⟨o4, rfl, ho4, hL', hown', ht⟩
  have s' := s.app4 hL' hown' ht
  have hAg : Agree (foot K n2 n3 n4) W w' := agree_two own4 hown' ht (foot_two4 ha)
  have hg1 : ∀ {o v}, W.cell? ⟨K.g1, o, none⟩ = some v → w'.cell? ⟨K.g1, o, none⟩ = some v := fun hv => cell_two ht ha.a1 ha.b14 hv
  have hg2 : ∀ {o v}, W.cell? ⟨K.g2, o, none⟩ = some v → w'.cell? ⟨K.g2, o, none⟩ = some v := fun hv => cell_two ht ha.a2 ha.b24 hv
  refine ⟨o4, rfl, hg2 h2, s'.fz2 _, ?_⟩
  have hAg2 : Agree (foot K n2 n3 n4) W (w'.setCell ⟨K.g2, o2 + j * 3 + 2, none⟩ (.slice (some ⟨K.g4, o4, none⟩) nn nn)) := Agree.trans hAg (Agree.set (foot_g2 ha (by omega)))
  have hcopy : ∀ j, j < nn * 1 → w'.cell? ⟨K.g4, n4 * 1 + j, none⟩ = W.cell? (ad.add j) := fun j hj => by rw [new_two own4 hown' j hj, hn3 j hj]
  have hmono : ∀ b o, foot K n2 n3 n4 b o → foot K n2 n3 (n4 + nn) b o := foot.mono (Nat.le_refl _) (Nat.le_refl _) (by omega)
  have hb12 := ha.b12
  have hb24 := ha.b24
  refine ⟨p1, p2, s'.set2 _ _, r2, by omega, r3, p3, p4, fun i m' hi hm' => ?_, ?_, fun i c hc => ?_, ?_, ?_⟩
  · exact MsgP.move (msg i m' hi hm') hAg2 hmono (fun r v hr hv => cell_set (by omega) (hg1 hv))
  · exact own.move hAg2 hmono (fun r v hr hv => cell_set (by omega) (hg1 hv))
  · by_cases hij : i = j
    · subst hij
      rw [hq] at hc
      cases hc
      refine ⟨_, cell_set (by omega) (hg2 e0), cell_set (by omega) (hg2 e1), World.cell?_setCell_same _ _ _ (hg2 h2), ?_, hz⟩
      rw [hal]
      refine ⟨⟨K.g4, o4, none⟩, nn, by rw [hlen], by omega, by unfold maxLen at *; omega, fun j u hu => ⟨rfl, ?_⟩⟩
      have hj : j < nn := by rw [← hlen]; exact (List.getElem?_eq_some_iff.1 hu).1
      have ho' := ho4 (by omega)
      subst ho'
      show ByteP _ _ K.g4 (n4 * 1 + j * 1) u
      rw [Nat.mul_one j]
      refine ⟨Or.inr (Or.inr (Or.inr ⟨rfl, by omega⟩)), ?_⟩
      have := hat j u hu
      exact cell_set (by omega) (by rw [hcopy _ (by omega)]; exact this)
    · exact (call i c hc).move hAg2 hmono (fun r v hr hv => cell_set (by omega) (hg2 hv))
  · exact (fr.trans (ht.frL ha.l4 sz)).trans (FrL.set _ (a := ⟨K.g2, o2 + j * 3 + 2, none⟩) ha.l2 _)
  · have hsz := Nat.le_trans sz ht.size
    simpa using hsz
end
end Go.Proofs.Qxb6618675a.walks
