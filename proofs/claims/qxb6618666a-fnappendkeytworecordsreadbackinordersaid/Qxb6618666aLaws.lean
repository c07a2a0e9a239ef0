import Derived.Test.Qxb6618666aMatch
namespace Go.Proofs.Qxb6618666a.walks
open Go.RowKit Go.Proofs.Qxb6618666a.mem

theorem quiet_grew {w0 w w1 : World} {v v1 : Value} (h : w0.grownBy w none) (hg : Grew w w1 v v1) (hb : ∀ k, v.ownBlock = some k → w0.heap.size ≤ k) : w0.grownBy w1 none :=
  h.andThen hg.grown (fun j hj => .inl (hb j hj))
theorem below_quiet {w w1 : World} (h : w.grownBy w1 none) : Below w.heap.size w w1 := (Below.refl _ _).grown h (Nat.le_refl _) (fun k e => by cases e)
theorem q_drewN {w w1 : World} (h : w.grownBy w1 none) (q : Nat) : w.grownBy (w1.drewN q) none := grownBy_drewN h q

/-- zzBytes_.. -/
theorem f16 (a a' : Option Addr) (n n' c c' : Nat) (s : ByteArray) (ver : Int) (del : Bool) (w : World) (hn : n ≤ maxLen) (hs : s.size ≤ maxLen) (hn' : n' ≤ maxLen) :
    Calls Try.prog 16 #[.slice a n c, .string s, .slice a' n' c', .int .u64 ver, .bool del] w fun e w' => ∃ r : Bool, e = .returned (.bool r) ∧ w' = w := by
  unfold maxLen at hn hs hn'
  go_enter Try.func16, Try.ntmps16
  go_wp2
  all_goals
    go_ret
    exact ⟨_, rfl, rfl⟩

set_option maxHeartbeats 2000000 in
set_option maxRecDepth 10000 in
/-- the law on one record, where the lengths are small -/
theorem f5_small (v vx : Value) (l m : List UInt8) (key : ByteArray) (ver : Nat) (del : Bool) (w : World) (h : Rd w v l) (hx : Rd w vx m) (hsum : l.length + key.size + m.length ≤ 1048576) (hv : ver < 18446744073709551616) :
    Calls Try.prog 5 #[v, .string key, vx, .int .u64 ver, .bool del] w fun e w' => e = .returned (.bool true) ∧ Below w.heap.size w w' := by
  have HB := h
  have HX := hx
  obtain ⟨a, cap, rfl, h1, h2, -, -⟩ := h
  obtain ⟨a', cap', rfl, h1', h2', -, -⟩ := hx
  have hlm : l.length ≤ maxLen := Nat.le_trans h1 h2
  have hmm : m.length ≤ maxLen := Nat.le_trans h1' h2'
  have hkm : key.size ≤ maxLen := by unfold maxLen; omega
  clear h1 h2 h1' h2'
  go_enter Try.func5, Try.ntmps5
  go_wp2_with fail
  refine (f16 _ _ _ _ _ _ _ _ _ _ hlm hkm hmm).mono ?_
  rintro e w' ⟨r, rfl, rfl⟩
  clear hlm hmm hkm
  cases r
  · go_wp2
    go_ret
    exact ⟨rfl, Below.refl _ _⟩
  · go_wp2_with fail
    refine (f13 _ l _ HB (by omega)).mono ?_
    rintro e w1 ⟨vb, rfl, ob, g1⟩
    go_wp2_with fail
    refine (f13 _ m _ (HX.quiet g1) (by omega)).mono ?_
    rintro e w2 ⟨vv, rfl, ov, g2⟩
    go_wp2_with fail
    refine (f13 _ m _ ov.rd (by omega)).mono ?_
    rintro e w3 ⟨vc, rfl, oc, g3⟩
    go_wp2_with fail
    refine (f17 w3.heap.size _ [] key _ m ver del _ (Own.nil _ _) (Nat.le_refl _) (by simp) (by omega) oc.rd (by omega) (fun k hk => ⟨(oc.lt k hk).2, by simp [Value.ownBlock]⟩) hv).mono ?_
    rintro e w4 ⟨vr, rfl, or4, g4⟩
    have G4 : w3.grownBy w4 none := g4.grown
    go_wp2_with fail
    refine (f13 _ l _ (((ob.rd.quiet g2).quiet g3).quiet G4) (by omega)).mono ?_
    rintro e w5 ⟨vb2, rfl, ob2, g5⟩
    go_wp2_with fail
    refine (f13 _ m _ (((ov.rd.quiet g3).quiet G4).quiet g5) (by omega)).mono ?_
    rintro e w6 ⟨vc2, rfl, oc2, g6⟩
    go_wp2_with fail
    refine (f17 w4.heap.size _ l key _ m ver del _ (ob2.quiet g6) (Nat.le_trans g5.size g6.size) (by omega) (by omega) oc2.rd (by omega) (fun k hk => ⟨(oc2.lt k hk).2, fun e => by have h1 := (oc2.lt k hk).1; have h2 := (ob2.lt k e).2; omega⟩) hv).mono ?_
    rintro e w7 ⟨vo, rfl, oo, g7⟩
    have G47 : w4.grownBy w7 none := quiet_grew (g5.trans g6) g7 (fun k hk => (ob2.lt k hk).1)
    have GW : w'.grownBy w7 none := (((g1.trans g2).trans g3).trans G4).trans G47
    have RB : Rd w7 vb l := (((ob.rd.quiet g2).quiet g3).quiet G4).quiet G47
    have RV : Rd w7 vv m := ((ov.rd.quiet g3).quiet G4).quiet G47
    have OR : Own w7 w3.heap.size vr ([] ++ recBytes key m ver del) := or4.quiet G47
    obtain ⟨hr0, hr1⟩ := rec_len key m ver del (by omega) (by omega) hv
    obtain ⟨R, hR⟩ : ∃ R, Hid (R = recBytes key m ver del) := ⟨_, rfl⟩
    rw [← hR.out] at OR oo hr0 hr1
    rw [List.nil_append] at OR
    obtain ⟨nr, hnr⟩ : ∃ nr, nr = R.length := ⟨_, rfl⟩
    rw [← hnr] at hr0 hr1
    clear or4 g4 G4 g1 g2 g3 g5 g6 g7 ob ov oc ob2 oc2 HB HX G47
    obtain ⟨gr, cr, rfl, hcr, hmr, -⟩ := OR.spell (n := nr) hnr.symm (by omega)
    obtain ⟨go, co, rfl, hco, hmo, -⟩ := oo.spell (n := l.length + nr) (by rw [List.length_append, hnr]) (by omega)
    have HRB := RB
    obtain ⟨a1, c1, rfl, hn1, hm1, -, -⟩ := RB
    have HRV := RV
    obtain ⟨a2, c2, rfl, hn2, hm2, -, -⟩ := RV
    have HNR : Hid (nr = R.length) := hnr
    clear hnr
    go_wp2_with fail
    refine (f18 _ R [] [] key _ m ver del _ OR.rd (by rw [hR.out]; simp) (by rw [← HNR.out]; omega) (by omega) HRV (by omega) hv 0 (nr : Int) rfl (by rw [HNR.out, hR.out]; simp)).mono ?_
    rintro e w8 ⟨rfl, q, rfl⟩
    have hq : w7.grownBy (w7.drewN q) none := grownBy_drewN (grownBy_refl _ _) q
    go_wp2_with fail
    have hT : (l ++ R).take l.length = l := by rw [List.take_left]
    have hD : (l ++ R).drop l.length = R := by rw [List.drop_left]
    have hxx := (oo.rd.quiet hq).take (m := l.length) (by rw [List.length_append]; omega)
    rw [hT] at hxx
    refine (f15 _ _ l _ hxx (HRB.quiet hq) (by omega)).mono ?_
    rintro e w9 ⟨rfl, q2, rfl⟩
    clear hxx hT
    go_wp2_with fail
    have hq2 : w7.grownBy (w7.drewN (q + q2)) none := grownBy_drewN (grownBy_refl _ _) _
    have hyy := (oo.rd.quiet hq2).drop (m := l.length) (k := nr) (c := co - l.length) (by omega) rfl (by rw [List.length_append, ← HNR.out]; omega)
    rw [hD, Nat.zero_add] at hyy
    refine (f15 _ _ R _ hyy (OR.rd.quiet hq2) (by rw [← HNR.out]; omega)).mono ?_
    rintro e w10 ⟨rfl, q3, rfl⟩
    go_wp2
    go_ret
    exact ⟨rfl, below_quiet (q_drewN GW _)⟩

set_option maxHeartbeats 1000000 in
set_option maxRecDepth 10000 in
/-- the law on one record -/
theorem f5 (v vx : Value) (l m : List UInt8) (key : ByteArray) (ver : Nat) (del : Bool) (w : World) (h : Rd w v l) (hx : Rd w vx m) (hk : key.size ≤ maxLen) (hv : ver < 18446744073709551616) :
    Calls Try.prog 5 #[v, .string key, vx, .int .u64 ver, .bool del] w fun e w' => e = .returned (.bool true) ∧ Below w.heap.size w w' := by
  by_cases hsum : l.length + key.size + m.length ≤ 1048576
  · exact f5_small v vx l m key ver del w h hx hsum hv
  · obtain ⟨a, cap, rfl, h1, h2, -, -⟩ := h
    obtain ⟨a', cap', rfl, h1', h2', -, -⟩ := hx
    have hlm : l.length ≤ maxLen := Nat.le_trans h1 h2
    have hmm : m.length ≤ maxLen := Nat.le_trans h1' h2'
    clear h1 h2 h1' h2'
    go_enter Try.func5, Try.ntmps5
    go_wp2_with fail
    refine (f16 _ _ _ _ _ _ _ _ _ _ hlm hk hmm).mono ?_
    rintro e w' ⟨r, rfl, rfl⟩
    cases r
    · go_wp2
      go_ret
      exact ⟨rfl, Below.refl _ _⟩
    · unfold maxLen at hlm hk hmm
      go_wp2_with fail
      all_goals
        go_ret
        exact ⟨rfl, Below.refl _ _⟩
end Go.Proofs.Qxb6618666a.walks
