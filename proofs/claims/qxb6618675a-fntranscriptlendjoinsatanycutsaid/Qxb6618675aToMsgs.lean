import Derived.Test.Qxb6618675aToMsg
namespace Go.Proofs.Qxb6618675a.walks
open Go.RowKit Go.Proofs.Qxb6618675a.mem

/-- the message j lies in the row's cells; what hangs on it lies in no cell of the row -/
def MsgDone (W : World) (G : Nat) (xs : List Value) (j : Nat) (m : Msg) : Prop :=
  ∃ v3 v4, xs[j * 5]? = some (.string m.role) ∧ xs[j * 5 + 1]? = some (.string m.text) ∧ xs[j * 5 + 2]? = some (.string m.refusal) ∧ xs[j * 5 + 3]? = some v3 ∧ xs[j * 5 + 4]? = some v4 ∧
    RCp W (fun b _ => b ≠ G) v3 m.calls ∧ RRp W (fun b _ => b ≠ G) v4 m.res ∧ m.role.size ≤ maxLen ∧ m.text.size ≤ maxLen ∧ m.refusal.size ≤ maxLen
theorem MsgDone.kept {W W' : World} {G : Nat} {xs : List Value} {j : Nat} {m : Msg} (h : MsgDone W G xs j m) (hf : Agree (fun b _ => b ≠ G) W W') : MsgDone W' G xs j m := by
  obtain ⟨v3, v4, h0, h1, h2, h3, h4, h5, h6, h7⟩ := h
  exact ⟨v3, v4, h0, h1, h2, h3, h4, h5.kept hf (fun _ _ p => p), h6.kept hf (fun _ _ p => p), h7⟩
theorem MsgDone.set {W : World} {G : Nat} {xs : List Value} {j k i : Nat} {m : Msg} (h : MsgDone W G xs j m) (hj : j < k) (hi : k * 5 ≤ i) (u : Value) : MsgDone W G (xs.set i u) j m := by
  obtain ⟨v3, v4, h0, h1, h2, h3, h4, h5⟩ := h
  refine ⟨v3, v4, ?_, ?_, ?_, ?_, ?_, h5⟩
  · rw [List.getElem?_set_ne (by omega)]; exact h0
  · rw [List.getElem?_set_ne (by omega)]; exact h1
  · rw [List.getElem?_set_ne (by omega)]; exact h2
  · rw [List.getElem?_set_ne (by omega)]; exact h3
  · rw [List.getElem?_set_ne (by omega)]; exact h4
theorem set5 (xs : List Value) (i : Nat) (h : i + 4 < xs.length) (a b c d e : Value) :
    (((((xs.set i a).set (i + 1) b).set (i + 2) c).set (i + 3) d).set (i + 4) e)[i]? = some a ∧ (((((xs.set i a).set (i + 1) b).set (i + 2) c).set (i + 3) d).set (i + 4) e)[i + 1]? = some b ∧ (((((xs.set i a).set (i + 1) b).set (i + 2) c).set (i + 3) d).set (i + 4) e)[i + 2]? = some c ∧ (((((xs.set i a).set (i + 1) b).set (i + 2) c).set (i + 3) d).set (i + 4) e)[i + 3]? = some d ∧ (((((xs.set i a).set (i + 1) b).set (i + 2) c).set (i + 3) d).set (i + 4) e)[i + 4]? = some e := by
  refine ⟨?_, ?_, ?_, ?_, ?_⟩
  · rw [List.getElem?_set_ne (by omega), List.getElem?_set_ne (by omega), List.getElem?_set_ne (by omega), List.getElem?_set_ne (by omega), List.getElem?_set_self (by omega)]
  · rw [List.getElem?_set_ne (by omega), List.getElem?_set_ne (by omega), List.getElem?_set_ne (by omega), List.getElem?_set_self (by simp; omega)]
  · rw [List.getElem?_set_ne (by omega), List.getElem?_set_ne (by omega), List.getElem?_set_self (by simp; omega)]
  · rw [List.getElem?_set_ne (by omega), List.getElem?_set_self (by simp; omega)]
  · rw [List.getElem?_set_self (by simp; omega)]
theorem row_msgs {W : World} {G n : Nat} {xs : List Value} {l : List Msg} (hown : W.ownsRow G 35 5 (.slice (some ⟨G, 0, none⟩) n n) n xs) (hl : l.length = n) (hm : n ≤ maxLen)
    (hd : ∀ j c, j < n → l[j]? = some c → MsgDone W G xs j c) : RM W W.heap.size (.slice (some ⟨G, 0, none⟩) n n) (some l) := by
  have hG : G < W.heap.size := (hown.lt G rfl).2
  refine ⟨⟨G, 0, none⟩, n, by rw [hl], by omega, hm, fun i c hc => ⟨rfl, hG, ?_⟩⟩
  have hi : i < n := by rw [← hl]; exact (List.getElem?_eq_some_iff.1 hc).1
  obtain ⟨v3, v4, h0, h1, h2, h3, h4, h5, h6, h7⟩ := hd i c hi hc
  refine ⟨v3, v4, ?_, ?_, ?_, ?_, ?_, h5.toB, h6.toB, h7⟩
  · simp only [Nat.zero_add]; rw [hown.cellAt _ (by omega)]; exact h0
  · simp only [Nat.zero_add]; rw [hown.cellAt _ (by omega)]; exact h1
  · simp only [Nat.zero_add]; rw [hown.cellAt _ (by omega)]; exact h2
  · simp only [Nat.zero_add]; rw [hown.cellAt _ (by omega)]; exact h3
  · simp only [Nat.zero_add]; rw [hown.cellAt _ (by omega)]; exact h4

set_option maxHeartbeats 4000000 in
set_option maxRecDepth 10000 in
/-- zzb1ToMessages -/
theorem f9 (B : Nat) (v : Value) (x : Option (List Msg)) (w : World) (h : RM w B v x) (hB : B ≤ w.heap.size) (hb : bulk (x.getD []) ≤ 1048576) :
    Calls Try.prog 9 #[v] w fun e w' => ∃ v', e = .returned v' ∧ RM w' w'.heap.size v' x ∧ w.grownBy w' none := by
  cases x with
  | none =>
    cases h
    have he := fun (w : World) => Lib.run_eql_slice_nil (P := Try.prog) w 22 41 none 0 0 0 0 Try.underlying22
    go_enter Try.func9, Try.ntmps9
    go_wp2
    go_ret
    exact ⟨_, rfl, rfl, World.grownBy.refl _ _⟩
  | some l =>
    obtain ⟨a, c, rfl, h1, h2, h3⟩ := h
    simp only [Option.getD_some] at hb
    have hs : ∀ m ∈ l, Small m := fun m hm => small_of hb hm
    have hl : l.length ≤ 1048576 := by unfold bulk at hb; omega
    clear hb
    obtain ⟨i, hi, hz, hsize, hby⟩ := info_parts info35
    obtain ⟨n, hn⟩ : ∃ n, n = l.length := ⟨_, rfl⟩
    have hb1 : i.bytes * n ≤ 281474976710656 := by rw [hby]; omega
    have hb2 : n ≤ maxLen := by unfold maxLen; omega
    have hsrc : ∀ k, k < n → ∃ m b o, l[k]? = some m ∧ a = ⟨b, o, none⟩ ∧ b < B ∧ MsgAt w B b (o + k * 5) m ∧ Small m := by
      intro k hk
      have hk' : k < l.length := by omega
      obtain ⟨k1, k2, k3⟩ := h3 k l[k] (List.getElem?_eq_getElem hk')
      obtain ⟨b, o, sp⟩ := a
      cases k1
      exact ⟨l[k], b, o, List.getElem?_eq_getElem hk', rfl, k2, k3, hs _ (List.getElem_mem hk')⟩
    rw [← hn] at hl h1 ⊢
    have hle1 : l.length ≤ n := by omega
    have hle2 : n ≤ l.length := by omega
    clear h3 hs hn
    have he := fun (w : World) (a : Option Addr) (n c : Nat) => Lib.run_eql_slice_nil (P := Try.prog) w 22 41 a n c 0 0 Try.underlying22
    go_enter Try.func9, Try.ntmps9
    go_wp2_with (at_make; refine wpList_make_full _ rfl _ _ 25 rfl w.heap.size 35 i _ 5 Try.underlying25 hi hz hsize _ _ _ _ n rfl rfl rfl rfl hb1 hb2 (Nat.le_refl _) ?_)
    intro w1 ho1 hg1
    obtain ⟨G, hG⟩ : ∃ G, G = w.heap.size := ⟨_, rfl⟩
    rw [← hG] at ho1 ⊢
    have hG1 : w.heap.size ≤ G := by omega
    have hBG : B ≤ G := by omega
    clear hG
    go_wp2
    go_loopw [4] (fun t wr => ∃ (k : Nat) (xs : List Value), t = .int .i64 k ∧ k ≤ n ∧ wr.ownsRow G 35 5 (.slice (some ⟨G, 0, none⟩) n n) n xs ∧ w.grownBy wr none ∧ ∀ j m, j < k → l[j]? = some m → MsgDone wr G xs j m) (fun t _ => n - (intOf t).toNat)
    case atStart => exact ⟨0, _, rfl, Nat.zero_le _, ho1, hg1, fun j c hj => by omega⟩
    case round =>
      obtain ⟨k, xs, rfl, hk, hown, hg, hdone⟩ := hrel
      by_cases hlt : k < n
      · obtain ⟨m, b, o, hm, rfl, hbB, hat, hsm⟩ := hsrc k hlt
        have hf : Fr B w wr := Fr.quiet hg hB
        have hBr : B ≤ wr.heap.size := Nat.le_trans hB hg.size
        obtain ⟨v3, v4, x0, x1, x2, x3, x4, hc3, hr4, y1, y2, y3⟩ := hat.kept hf hbB (Nat.le_refl _)
        have hcl := f18 B m v3 v4 wr hc3 hr4 hBr hsm
        have hlen : xs.length = n * 5 := hown.1
        have hGlt := (hown.lt G rfl).2
        clear hsrc hat hc3 hr4
        go_wp2_with fail
        refine hcl.mono ?_
        rintro e w3 ⟨v3', v4', rfl, hrc, hrr, hg3⟩
        have own3 := hown.kept hg3 (Or.inr (by simp [Value.ownBlock]))
        have z0 : w3.cell? ⟨G, k * 5, none⟩ = some xs[k * 5] := by rw [own3.cellAt _ (by omega)]; exact List.getElem?_eq_getElem (by omega)
        have z1 : w3.cell? ⟨G, k * 5 + 1, none⟩ = some xs[k * 5 + 1] := by rw [own3.cellAt _ (by omega)]; exact List.getElem?_eq_getElem (by omega)
        have z2 : w3.cell? ⟨G, k * 5 + 2, none⟩ = some xs[k * 5 + 2] := by rw [own3.cellAt _ (by omega)]; exact List.getElem?_eq_getElem (by omega)
        have z3 : w3.cell? ⟨G, k * 5 + 3, none⟩ = some xs[k * 5 + 3] := by rw [own3.cellAt _ (by omega)]; exact List.getElem?_eq_getElem (by omega)
        have z4 : w3.cell? ⟨G, k * 5 + 4, none⟩ = some xs[k * 5 + 4] := by rw [own3.cellAt _ (by omega)]; exact List.getElem?_eq_getElem (by omega)
        have g0 := own3.frozenAt (k * 5)
        have g1 := own3.frozenAt (k * 5 + 1)
        have g2 := own3.frozenAt (k * 5 + 2)
        have g3 := own3.frozenAt (k * 5 + 3)
        have g4 := own3.frozenAt (k * 5 + 4)
        obtain ⟨c0, hc0⟩ : ∃ y, y = xs[k * 5]'(by omega) := ⟨_, rfl⟩
        obtain ⟨c1, hc1⟩ : ∃ y, y = xs[k * 5 + 1]'(by omega) := ⟨_, rfl⟩
        obtain ⟨c2, hc2⟩ : ∃ y, y = xs[k * 5 + 2]'(by omega) := ⟨_, rfl⟩
        obtain ⟨c3, hc3⟩ : ∃ y, y = xs[k * 5 + 3]'(by omega) := ⟨_, rfl⟩
        obtain ⟨c4, hc4⟩ : ∃ y, y = xs[k * 5 + 4]'(by omega) := ⟨_, rfl⟩
        rw [← hc0] at z0
        rw [← hc1] at z1
        rw [← hc2] at z2
        rw [← hc3] at z3
        rw [← hc4] at z4
        obtain ⟨o1, -⟩ := own3.stored (k * 5) (.string m.role)
        obtain ⟨o2, -⟩ := o1.stored (k * 5 + 1) (.string m.text)
        obtain ⟨o3, -⟩ := o2.stored (k * 5 + 2) (.string m.refusal)
        obtain ⟨o4, -⟩ := o3.stored (k * 5 + 3) v3'
        obtain ⟨o5, -⟩ := o4.stored (k * 5 + 4) v4'
        have hg5 := gb_set (gb_set (gb_set (gb_set (gb_set (hg.trans hg3) (a := ⟨G, k * 5, none⟩) hG1 (.string m.role)) (a := ⟨G, k * 5 + 1, none⟩) hG1 (.string m.text)) (a := ⟨G, k * 5 + 2, none⟩) hG1 (.string m.refusal)) (a := ⟨G, k * 5 + 3, none⟩) hG1 v3') (a := ⟨G, k * 5 + 4, none⟩) hG1 v4'
        have hA : ∀ {W : World} {j : Nat} {u : Value}, Agree (fun b _ => b ≠ G) W (W.setCell ⟨G, j, none⟩ u) := Agree.set (fun p => p rfl)
        have hrc5 := ((((hrc.kept (P' := fun b _ => b ≠ G) (Agree.set (g := G) (j := k * 5) (u := .string m.role) (fun (p : _ ≤ G) => by omega)) (fun b _ (p : _ ≤ b) => by omega)).kept (hA (j := k * 5 + 1) (u := .string m.text)) (fun _ _ p => p)).kept (hA (j := k * 5 + 2) (u := .string m.refusal)) (fun _ _ p => p)).kept (hA (j := k * 5 + 3) (u := v3')) (fun _ _ p => p)).kept (hA (j := k * 5 + 4) (u := v4')) (fun _ _ p => p)
        have hrr5 := ((((hrr.kept (P' := fun b _ => b ≠ G) (Agree.set (g := G) (j := k * 5) (u := .string m.role) (fun (p : _ ≤ G) => by omega)) (fun b _ (p : _ ≤ b) => by omega)).kept (hA (j := k * 5 + 1) (u := .string m.text)) (fun _ _ p => p)).kept (hA (j := k * 5 + 2) (u := .string m.refusal)) (fun _ _ p => p)).kept (hA (j := k * 5 + 3) (u := v3')) (fun _ _ p => p)).kept (hA (j := k * 5 + 4) (u := v4')) (fun _ _ p => p)
        have hdone' : ∀ j c, j < k + 1 → l[j]? = some c → MsgDone (((((w3.setCell ⟨G, k * 5, none⟩ (.string m.role)).setCell ⟨G, k * 5 + 1, none⟩ (.string m.text)).setCell ⟨G, k * 5 + 2, none⟩ (.string m.refusal)).setCell ⟨G, k * 5 + 3, none⟩ v3').setCell ⟨G, k * 5 + 4, none⟩ v4') G (((((xs.set (k * 5) (.string m.role)).set (k * 5 + 1) (.string m.text)).set (k * 5 + 2) (.string m.refusal)).set (k * 5 + 3) v3').set (k * 5 + 4) v4') j c := by
          intro j c hj hc
          by_cases e : j = k
          · subst e
            rw [hm] at hc
            cases hc
            obtain ⟨t0, t1, t2, t3, t4⟩ := set5 xs (j * 5) (by omega) (.string m.role) (.string m.text) (.string m.refusal) v3' v4'
            exact ⟨v3', v4', t0, t1, t2, t3, t4, hrc5, hrr5, y1, y2, y3⟩
          · have d := hdone j c (by omega) hc
            have d := (((((d.kept (Agree.quiet hg3)).kept (hA (j := k * 5) (u := .string m.role))).kept (hA (j := k * 5 + 1) (u := .string m.text))).kept (hA (j := k * 5 + 2) (u := .string m.refusal))).kept (hA (j := k * 5 + 3) (u := v3'))).kept (hA (j := k * 5 + 4) (u := v4'))
            exact ((((d.set (k := k) (by omega) (by omega) _).set (k := k) (by omega) (by omega) _).set (k := k) (by omega) (by omega) _).set (k := k) (by omega) (by omega) _).set (k := k) (by omega) (by omega) _
        obtain ⟨a5, n5, c5, rfl, -⟩ := RLp.form hrc
        obtain ⟨a6, n6, c6, rfl, -⟩ := RLp.form hrr
        clear hc0 hc1 hc2 hc3 hc4 hdone hrc hrr hrc5 hrr5 hA o1 o2 o3 o4 own3 hown hcl x0 x1 x2 x3 x4
        go_wp2
        go_roundw
        case rel => exact ⟨k + 1, _, by go_num, by omega, o5, hg5, hdone'⟩
        case measure => simp [intOf]; omega
      · obtain rfl : k = n := by omega
        have hfin := row_msgs hown (Nat.le_antisymm hle1 hle2) hb2 hdone
        clear hdone hsrc
        go_wp2
        go_ret
        exact ⟨_, rfl, hfin, hg⟩
end Go.Proofs.Qxb6618675a.walks
