import Derived.Test.Qxb6618675aLend
import Derived.Test.Qxb6618675aToMsgs
import Derived.Test.Qxb6618675aBytes
namespace Go.Proofs.Qxb6618675a.walks
open Go.RowKit Go.Proofs.Qxb6618675a.mem

/-- what stands between the loans -/
structure Rest (w0 : World) (B L D T p : Nat) (v9 : Value) (x : Option (List Msg)) (W : World) : Prop where
  box : W.heap[T]? = some (.cells #[v9, .pointer (some ⟨p, 0, none⟩), .pointer (some ⟨L, 0, none⟩)] 28 (0, 0))
  ar : ∃ h1 h2 h3 h4, Ar B L W h1 h2 h3 h4
  rm : RM W D v9 x
  fr : Fr w0.heap.size w0 W
  sz : B ≤ W.heap.size
section
variable {w0 W W' : World} {B L D T p : Nat} {v9 : Value} {x : Option (List Msg)}
theorem Rest.lent (h : Rest w0 B L D T p v9 x W) (ha : ∃ h1 h2 h3 h4, Ar B L W' h1 h2 h3 h4) (hf : FrL B L W W') (hT : T < B) (hTL : T ≠ L) (hDL : D ≤ L) (hDB : D ≤ B) (h0L : w0.heap.size ≤ L) (h0B : w0.heap.size ≤ B) : Rest w0 B L D T p v9 x W' :=
  ⟨(hf.block T hT hTL).trans h.box, ha, h.rm.kept (hf.toFr hDL hDB) (Nat.le_refl _), h.fr.trans (hf.toFr h0L h0B), Nat.le_trans h.sz hf.size⟩
theorem Rest.quiet (h : Rest w0 B L D T p v9 x W) (hg : W.grownBy W' none) (hDB : D ≤ B) : Rest w0 B L D T p v9 x W' := by
  obtain ⟨box, ⟨h1, h2, h3, h4, ar⟩, rm, fr, sz⟩ := h
  exact ⟨(hg.block T (Array.getElem?_eq_some_iff.1 box).1 (by simp)).trans box, ⟨h1, h2, h3, h4, ar.quiet hg⟩, rm.kept (Fr.quiet hg (Nat.le_trans hDB sz)) (Nat.le_refl _), fr.trans (Fr.quiet hg fr.size), Nat.le_trans sz hg.size⟩
theorem Rest.at (h : Rest w0 B L D T p v9 x W) (j : Nat) {u : Value} (hu : (#[v9, .pointer (some ⟨p, 0, none⟩), .pointer (some ⟨L, 0, none⟩)] : Array Value)[j]? = some u) : W.cell? ⟨T, j, none⟩ = some u := by rw [cell_of_row W T j _ 28 (0, 0) h.box]; exact hu
theorem Rest.lend (h : Rest w0 B L D T p v9 x W) (i j : Nat) (hDL : D ≤ L) (hDB : D ≤ B) (hb : bulk (x.getD []) ≤ 1048576) (hij : i ≤ j) (hj : j ≤ (x.getD []).length) (hT : T < B) (hTL : T ≠ L) (h0L : w0.heap.size ≤ L) (h0B : w0.heap.size ≤ B) :
    Calls Try.prog 14 #[.agg #[v9, .pointer (some ⟨p, 0, none⟩), .pointer (some ⟨L, 0, none⟩)], .int .i64 i, .int .i64 j] W fun e w' =>
      ∃ v', e = .returned v' ∧ Got w' w'.heap.size v' (x.getD []) i (j - i) ∧ Rest w0 B L D T p v9 x w' := by
  obtain ⟨h1, h2, h3, h4, ar⟩ := h.ar
  refine (f14 B L D p i j v9 x W h1 h2 h3 h4 ar h.rm hDL hDB h.sz hb hij hj).mono ?_
  rintro e w' ⟨v', rfl, hgot, har, hfr⟩
  exact ⟨v', rfl, hgot, h.lent har hfr hT hTL hDL hDB h0L h0B⟩
theorem Rest.same {u v' : Value} {i j : Nat} (h : Rest w0 B L D T p v9 x W) (hu : RM w0 w0.heap.size u x) (hg : Got W W.heap.size v' (x.getD []) i (j - i)) (hb : bulk (x.getD []) ≤ 1048576) (hij : i ≤ j) (hj : j ≤ (x.getD []).length) (hDB : D ≤ B) :
    Calls Try.prog 15 #[v', u, .int .i64 i, .int .i64 j] W fun e w' => e = .returned (.bool true) ∧ Rest w0 B L D T p v9 x w' := by
  refine (f15 W.heap.size v' u x i (j - i) j W hg (hu.kept h.fr h.fr.size) (Nat.le_refl _) hb hj (by omega)).mono ?_
  rintro e w' ⟨rfl, hq⟩
  exact ⟨rfl, h.quiet hq hDB⟩
end

set_option maxHeartbeats 8000000 in
set_option maxRecDepth 10000 in
/-- FnTranscriptLendJoinsAtAnyCut -/
theorem f5 (v : Value) (x : Option (List Msg)) (i j k : Int) (w : World) (hv : RM w w.heap.size v x) :
    Calls Try.prog 5 #[v, .int .i64 i, .int .i64 j, .int .i64 k] w fun e w' => e = .returned (.bool true) ∧ w.grownBy w' none := by
  have h16 := f16 w.heap.size v x i j k w hv
  have h7 := f7 w.heap.size v x w hv (Nat.le_refl _)
  obtain ⟨a, n, c, rfl, hn, hlc, hcm, -, -, -⟩ := RL.form hv
  have hn1 : (x.getD []).length ≤ n := by omega
  have hn2 : n ≤ (x.getD []).length := by omega
  clear hn
  go_enter Try.func5, Try.ntmps5
  go_wp2_with fail
  refine h16.mono ?_
  rintro e w1 ⟨⟨r, rfl, hr⟩, hw⟩
  rw [hw]
  clear hw h16
  cases r with
  | false =>
    go_wp2_with fail
    go_ret
    exact ⟨rfl, World.grownBy.refl _ _⟩
  | true =>
    have hb := hr rfl
    clear hr
    go_wp2_with fail
    refine h7.mono ?_
    rintro e w1 ⟨⟨r7, rfl⟩, hg1⟩
    clear h7
    cases r7 with
    | true =>
      go_wp2_with fail
      go_ret
      exact ⟨rfl, hg1⟩
    | false =>
      by_cases d1 : i < 0
      · go_wp2_with fail
        go_ret
        exact ⟨rfl, hg1⟩
      by_cases d2 : j < i
      · go_wp2_with fail
        go_ret
        exact ⟨rfl, hg1⟩
      by_cases d3 : k < j
      · go_wp2_with fail
        go_ret
        exact ⟨rfl, hg1⟩
      by_cases d4 : (n : Int) < k
      · go_wp2_with fail
        go_ret
        exact ⟨rfl, hg1⟩
      obtain ⟨I, rfl⟩ : ∃ I : Nat, i = I := ⟨i.toNat, by omega⟩
      obtain ⟨J, rfl⟩ : ∃ J : Nat, j = J := ⟨j.toNat, by omega⟩
      obtain ⟨M, rfl⟩ : ∃ M : Nat, k = M := ⟨k.toNat, by omega⟩
      have i1 : I ≤ J := by omega
      have i2 : J ≤ M := by omega
      have i3 : I ≤ M := by omega
      have i4 : M ≤ (x.getD []).length := by omega
      have i5 : J ≤ (x.getD []).length := by omega
      have h9 := f9 w.heap.size _ x w1 (hv.kept (Fr.quiet hg1 (Nat.le_refl _)) (Nat.le_refl _)) hg1.size hb
      go_wp2_with fail
      refine h9.mono ?_
      rintro e w2 ⟨v9, rfl, hrm, hg2⟩
      clear h9
      obtain ⟨a9, n9, c9, rfl, -⟩ := RL.form hrm
      have h8 := f8 _ a9 n9 c9 w2 rfl
      clear d1 d2 d3 d4 hlc hcm
      go_wp2_with fail
      refine h8.mono ?_
      rintro e w3 ⟨p, L, rfl, hL3, hDL, hg3⟩
      clear h8
      obtain ⟨W, hW⟩ : ∃ W, W = w3.alloc (.cells #[.slice a9 n9 c9, .pointer (some ⟨p, 0, none⟩), .pointer (some ⟨L, 0, none⟩)] 28) := ⟨_, rfl⟩
      go_wp2_with fail
      rw [← hW]
      have hg3W : w3.grownBy W none := by rw [hW]; exact ga _ _
      have hgW : w2.grownBy W none := hg3.trans hg3W
      have hL3lt : L < w3.heap.size := (Array.getElem?_eq_some_iff.1 hL3).1
      have hR : Rest w W.heap.size L w2.heap.size w3.heap.size p (.slice a9 n9 c9) x W := by
        refine ⟨by rw [hW]; exact heap_alloc_new w3 _, ⟨_, _, _, _, (hg3W.block L hL3lt (by simp)).trans hL3, .inl rfl, .inl rfl, .inl rfl, .inl rfl⟩, hrm.kept (Fr.quiet hgW (Nat.le_refl _)) (Nat.le_refl _), Fr.quiet (hg1.trans (hg2.trans hgW)) (Nat.le_refl _), Nat.le_refl _⟩
      have hDB : w2.heap.size ≤ W.heap.size := hgW.size
      have h0L : w.heap.size ≤ L := Nat.le_trans (hg1.trans hg2).size hDL
      have h0B : w.heap.size ≤ W.heap.size := (hg1.trans (hg2.trans hgW)).size
      have hTB : w3.heap.size < W.heap.size := by rw [hW]; simp
      have hTL : w3.heap.size ≠ L := by omega
      obtain ⟨B, hBe⟩ : ∃ B, B = W.heap.size := ⟨_, rfl⟩
      obtain ⟨D, hDe⟩ : ∃ D, D = w2.heap.size := ⟨_, rfl⟩
      obtain ⟨T, hTe⟩ : ∃ T, T = w3.heap.size := ⟨_, rfl⟩
      rw [← hBe, ← hDe, ← hTe] at hR
      rw [← hBe, ← hDe] at hDB
      rw [← hBe] at h0B
      rw [← hBe, ← hTe] at hTB
      rw [← hTe] at hTL ⊢
      rw [← hDe] at hDL
      clear hBe hDe hTe hW hg3W hgW hL3lt hL3 hg3 hrm hg2 hg1
      refine (hR.lend I J hDL hDB hb i1 i5 hTB hTL h0L h0B).mono ?_
      rintro e wa ⟨va, rfl, hgot, hRa⟩
      have hsa := hRa.same hv hgot hb i1 i5 hDB
      obtain ⟨aa, ca, rfl, -⟩ := hgot
      clear hR
      go_wp2_with fail
      refine hsa.mono ?_
      rintro e wb ⟨rfl, hRb⟩
      clear hsa hRa
      have q0 := hRb.at 0 (u := .slice a9 n9 c9) rfl
      have q1 := hRb.at 1 (u := .pointer (some ⟨p, 0, none⟩)) rfl
      have q2 := hRb.at 2 (u := .pointer (some ⟨L, 0, none⟩)) rfl
      go_wp2_with fail
      refine (hRb.lend J M hDL hDB hb i2 i4 hTB hTL h0L h0B).mono ?_
      rintro e wc ⟨vc, rfl, hgot, hRc⟩
      have hsc := hRc.same hv hgot hb i2 i4 hDB
      obtain ⟨ac, cc, rfl, -⟩ := hgot
      clear hRb q0 q1 q2
      go_wp2_with fail
      refine hsc.mono ?_
      rintro e wd ⟨rfl, hRd⟩
      clear hsc hRc
      have q0 := hRd.at 0 (u := .slice a9 n9 c9) rfl
      have q1 := hRd.at 1 (u := .pointer (some ⟨p, 0, none⟩)) rfl
      have q2 := hRd.at 2 (u := .pointer (some ⟨L, 0, none⟩)) rfl
      go_wp2_with fail
      refine (hRd.lend I M hDL hDB hb i3 i4 hTB hTL h0L h0B).mono ?_
      rintro e we ⟨ve, rfl, hgot, hRe⟩
      have hse := hRe.same hv hgot hb i3 i4 hDB
      obtain ⟨ae, ce, rfl, -⟩ := hgot
      clear hRd q0 q1 q2
      go_wp2_with fail
      refine hse.mono ?_
      rintro e wf ⟨rfl, hRf⟩
      clear hse hRe
      go_wp2_with fail
      go_ret
      exact ⟨rfl, Fr.grown (World.grownBy.refl _ _) (Nat.le_refl _) hRf.fr⟩
end Go.Proofs.Qxb6618675a.walks
