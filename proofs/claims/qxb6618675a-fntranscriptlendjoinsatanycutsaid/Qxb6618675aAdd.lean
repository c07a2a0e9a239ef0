import Derived.Test.Qxb6618675aAdd2
import Derived.Deep.CutRange
namespace Go.Proofs.Qxb6618675a.walks
open Go.RowKit Go.Proofs.Qxb6618675a.mem

/-- the messages themselves are laid into the arena: raw, as they stand -/
theorem callM {K : Cx} {l : List Msg} {w : World} {n1 n2 n3 n4 N cap : Nat} {ad : Addr} (s : St K w n1 n2 n3 n4) (hv : RM w K.D (.slice (some ad) N cap) (some l)) (sz : K.B ≤ w.heap.size)
    (r1 : n1 + N ≤ K.c1) (r2 : n2 + nC l ≤ K.c2) (r3 : n3 + nR l ≤ K.c3) (r4 : n4 + nA l ≤ K.c4) :
    Calls Try.prog 33 #[.pointer (some ⟨K.L, 2, none⟩), .slice (some ad) N cap] w fun e w' => ∃ o1, e = .returned (.slice (some ⟨K.g1, o1, none⟩) N N) ∧ Inv K l w (n1 + N) o1 w' 0 0 n2 n3 n4 := by
  have ha := s.apart
  obtain ⟨a, c', e, h1, h2, h3⟩ := hv
  cases e
  have hat : ∀ i m, l[i]? = some m → ∃ v3 v4, w.cell? (ad.add (i * 5)) = some (.string m.role) ∧ w.cell? (ad.add (i * 5 + 1)) = some (.string m.text) ∧ w.cell? (ad.add (i * 5 + 2)) = some (.string m.refusal) ∧ w.cell? (ad.add (i * 5 + 3)) = some v3 ∧ w.cell? (ad.add (i * 5 + 4)) = some v4 ∧
      RC w K.D v3 m.calls ∧ RR w K.D v4 m.res ∧ m.role.size ≤ maxLen ∧ m.text.size ≤ maxLen ∧ m.refusal.size ≤ maxLen := by
    intro i m hm
    obtain ⟨k1, -, v3, v4, e0, e1, e2, e3, e4, k⟩ := h3 i m hm
    obtain ⟨b, o, sp⟩ := ad
    cases k1
    exact ⟨v3, v4, by rw [add_none]; exact e0, by rw [add_none]; exact e1, by rw [add_none]; exact e2, by rw [add_none]; exact e3, by rw [add_none]; exact e4, k⟩
  have hex : ∀ j, j < l.length * 5 → ∃ u, w.cell? (ad.add j) = some u ∧ u.oneCell' = true := by
    intro j hj
    have hi : j / 5 < l.length := by omega
    obtain ⟨v3, v4, e0, e1, e2, e3, e4, hc, hr, -⟩ := hat (j / 5) _ (List.getElem?_eq_getElem hi)
    have hr5 : j % 5 = 0 ∨ j % 5 = 1 ∨ j % 5 = 2 ∨ j % 5 = 3 ∨ j % 5 = 4 := by omega
    rcases hr5 with h | h | h | h | h
    · rw [show j = j / 5 * 5 by omega]; exact ⟨_, e0, rfl⟩
    · rw [show j = j / 5 * 5 + 1 by omega]; exact ⟨_, e1, rfl⟩
    · rw [show j = j / 5 * 5 + 2 by omega]; exact ⟨_, e2, rfl⟩
    · rw [show j = j / 5 * 5 + 3 by omega]
      obtain ⟨a, n, c, rfl, -⟩ := RL.form hc
      exact ⟨_, e3, rfl⟩
    · rw [show j = j / 5 * 5 + 4 by omega]
      obtain ⟨a, n, c, rfl, -⟩ := RL.form hr
      exact ⟨_, e4, rfl⟩
  obtain ⟨news, hnl, hn1, hn2, hn3⟩ := news_of hex
  obtain ⟨xs, own1⟩ := s.o1
  refine (f33 K.B K.L 2 K.g1 n1 K.c1 l.length cap _ 64 ad xs news w s.hL rfl own1 ha.a1 r1 hnl hn1 hn2).mono ?_
  rintro e w' ⟨o1, rfl, ho1, hL', hown', ht⟩
  have s' := s.app1 hL' hown' ht
  have hAg : Agree (Beneath K.D) w w' := agree_two own1 hown' ht (fun b o (p : b < K.D) => by
    have := ha.l0
    have := ha.l1
    omega)
  have hcopy : ∀ j, j < l.length * 5 → w'.cell? ⟨K.g1, n1 * 5 + j, none⟩ = w.cell? (ad.add j) := fun j hj => by rw [new_two own1 hown' j hj, hn3 j hj]
  refine ⟨o1, rfl, s', by simpa using r2, by simpa using r4, by simpa using r3, fun i m hm => ?_, ht.frL ha.l1 sz, Nat.le_trans sz ht.size⟩
  obtain ⟨v3, v4, e0, e1, e2, e3, e4, hc, hr, hz⟩ := hat i m hm
  have hi : i < l.length := (List.getElem?_eq_some_iff.1 hm).1
  have ho := ho1 (by omega)
  subst ho
  refine ⟨v3, v4, ?_, ?_, ?_, ?_, ?_, hc.toP.kept hAg (fun b o p => Or.inl p), hr.toP.kept hAg (fun b o p => Or.inl p), hz⟩
  · rw [hcopy _ (by omega)]; exact e0
  · rw [Nat.add_assoc, hcopy _ (by omega)]; exact e1
  · rw [Nat.add_assoc, hcopy _ (by omega)]; exact e2
  · rw [Nat.add_assoc, hcopy _ (by omega)]; exact e3
  · rw [Nat.add_assoc, hcopy _ (by omega)]; exact e4

set_option maxHeartbeats 8000000 in
set_option maxRecDepth 10000 in
/-- add -/
theorem f26 (K : Cx) (l : List Msg) (n1 n2 n3 n4 N cap : Nat) (ad : Addr) (w : World) (s : St K w n1 n2 n3 n4) (hv : RM w K.D (.slice (some ad) N cap) (some l)) (sz : K.B ≤ w.heap.size) (hNle : N ≤ 1048576)
    (r1 : n1 + N ≤ K.c1) (r2 : n2 + nC l ≤ K.c2) (r3 : n3 + nR l ≤ K.c3) (r4 : n4 + nA l ≤ K.c4) :
    Calls Try.prog 26 #[.pointer (some ⟨K.L, 2, none⟩), .slice (some ad) N cap] w fun e w' => ∃ o1 n2' n3' n4', e = .returned (.slice (some ⟨K.g1, o1, none⟩) N N) ∧ (∀ i m, l[i]? = some m → MsgP w' (foot K n2' n3' n4') K.g1 (o1 + i * 5) m) ∧ St K w' (n1 + N) n2' n3' n4' ∧ FrL K.B K.L w w' := by
  have hN : l.length = N := by
    obtain ⟨a, c', e, -⟩ := hv
    cases e
    rfl
  have hN1 : l.length ≤ N := by omega
  have hN2 : N ≤ l.length := by omega
  have hcl := callM s hv sz r1 r2 r3 r4
  have he32 := fun (w : World) (a : Option Addr) (n c : Nat) => run_neq_slice_nil (P := Try.prog) w 32 69 a n c Try.underlying32
  have he33 := fun (w : World) (a : Option Addr) (n c : Nat) => run_neq_slice_nil (P := Try.prog) w 33 71 a n c Try.underlying33
  have he67 := fun (w : World) (a : Option Addr) (n c : Nat) => run_neq_slice_nil (P := Try.prog) w 67 5 a n c Try.underlying67
  clear hN r1 r2 r3 r4 sz hv s
  go_enter Try.func26, Try.ntmps26
  go_wp2_with fail
  refine hcl.mono ?_
  rintro e w1 ⟨o1, rfl, hinv⟩
  clear hcl
  go_wp2
  go_loopw [17] (fun t wr => ∃ k : Nat, t = .int .i64 k ∧ k ≤ N ∧ ∃ n2 n3 n4, Inv K l w (n1 + N) o1 wr k k n2 n3 n4) (fun t _ => N - (intOf t).toNat)
  case atStart => exact ⟨0, rfl, Nat.zero_le _, n2, n3, n4, hinv⟩
  case round =>
    clear hinv
    obtain ⟨k, rfl, hk, m2, m3, m4, hinv⟩ := hrel
    by_cases hlt : k < N
    · obtain ⟨m, hm⟩ : ∃ m, l[k]? = some m := ⟨_, List.getElem?_eq_getElem (by omega)⟩
      obtain ⟨v3, v4, e0, e1, e2, e3, e4, hrc, hrr, hz⟩ := hinv.msg k m hm
      obtain ⟨a3, x3, c3, rfl, -, l3, y3, nil3, z3, -⟩ := RLp.form hrc
      obtain ⟨a4, x4, c4, rfl, -⟩ := RLp.form hrr
      clear hrc hrr e0 e1 e2 hz e4
      go_upto_if 27 with fail
      go_cut [17] (fun t wc => t = .int .i64 k ∧ ∃ n2 n3 n4, Inv K l w (n1 + N) o1 wc (k + 1) k n2 n3 n4)
      case first =>
        cases a3 with
        | none =>
          have hsk := hinv.skipC hm
          clear hinv
          go_wp2
          go_meet
          case rel => exact ⟨rfl, m2, m3, m4, hsk⟩
        | some a =>
          have hcl := callC (hinv.same (W' := wr.drew) rfl rfl rfl rfl) hm e3
          clear hinv
          go_wp2
          go_region_law (first
            | ((try go_simp); go_at_call 34; refine hcl.mono ?_; rintro e w2 ⟨o2, rfl, hcell, hfz, hic⟩))
          obtain ⟨W3, hW3⟩ : ∃ W3, W3 = w2.setCell ⟨K.g1, o1 + k * 5 + 3, none⟩ (.slice (some ⟨K.g2, o2, none⟩) x3 x3) := ⟨_, rfl⟩
          rw [← hW3] at hic ⊢
          obtain ⟨v4', -, -, -, q3, -⟩ := hic.own
          clear hW3 hcell hfz hcl e3
          go_wp2
          go_loopw [44] (fun t wq => ∃ j : Nat, t = .int .i64 j ∧ j ≤ x3 ∧ ∃ n4, InvC K l w (n1 + N) o1 wq k m x3 o2 m2 m3 j n4) (fun t _ => x3 - (intOf t).toNat)
          case atStart => exact ⟨0, rfl, Nat.zero_le _, m4, hic⟩
          case round =>
            clear q3 hic
            obtain ⟨j, rfl, hj, p4, hic⟩ := hrel
            by_cases hjt : j < x3
            · obtain ⟨v4'', -, -, -, q3, -⟩ := hic.own
              obtain ⟨q, hq⟩ : ∃ q, (callsOf m)[j]? = some q := ⟨_, List.getElem?_eq_getElem (by rw [hic.hn]; exact hjt)⟩
              obtain ⟨v2, -, -, e2, hrb, -⟩ := hic.call j q hq
              obtain ⟨a5, x5, c5, rfl, -⟩ := RLp.form hrb
              clear hrb
              cases a5 with
              | none =>
                have hsk := hic.skipA hq
                clear hic
                go_wp2
                go_roundw
                case rel => exact ⟨j + 1, by go_num, by omega, p4, hsk⟩
                case measure => simp [intOf]; omega
              | some a' =>
                have hcl := callA (hic.same (W' := wr.drew) rfl rfl rfl rfl) hq e2
                clear hic
                go_wp2
                go_region_law (first
                  | ((try go_simp); go_at_call 35; refine hcl.mono ?_; rintro e w4 ⟨o4, rfl, hcell, hfz, hic⟩))
                go_wp2
                go_roundw
                case rel => exact ⟨j + 1, by go_num, by omega, _, hic⟩
                case measure => simp [intOf]; omega
            · obtain rfl : j = x3 := by omega
              have hdn := hic.done hm
              clear hic
              go_wp2
              go_meet
              case rel => exact ⟨rfl, _, _, _, hdn⟩
      case rest =>
        obtain ⟨rfl, m2', m3', m4', hinv'⟩ := hcut
        clear hinv e3
        obtain ⟨v3', v4', e0, e1, e2, e3, e4, hrc, hrr, hz⟩ := hinv'.msg k m hm
        obtain ⟨a6, x6, c6, rfl, -⟩ := RLp.form hrr
        clear hrc hrr e0 e1 e2 hz e3
        cases a6 with
        | none =>
          have hsk := hinv'.skipR hm
          clear hinv'
          go_wp2
          go_roundw
          case rel => exact ⟨k + 1, by go_num, by omega, _, _, _, hsk⟩
          case measure => simp [intOf]; omega
        | some a' =>
          have hcl := callR (hinv'.same (W' := wc.drew) rfl rfl rfl rfl) hm e4
          clear hinv'
          go_wp2
          go_region_law (first
            | ((try go_simp); go_at_call 36; refine hcl.mono ?_; rintro e w4 ⟨o4, rfl, hcell, hfz, hic⟩))
          go_wp2
          go_roundw
          case rel => exact ⟨k + 1, by go_num, by omega, _, _, _, hic⟩
          case measure => simp [intOf]; omega
    · obtain rfl : k = N := by omega
      have hrd := hinv.msg
      have hfr := hinv.fr
      have hst := hinv.st
      go_wp2
      go_ret
      exact ⟨o1, m2, m3, m4, rfl, hrd, hst, hfr⟩
end Go.Proofs.Qxb6618675a.walks
