import Derived.Test.Qxb6618666aLaws
namespace Go.Proofs.Qxb6618666a.walks
open Go.RowKit Go.Proofs.Qxb6618666a.mem

/-- zzBytes_.. -/
theorem f19 (a a' a2 : Option Addr) (n n' n2 c c' c2 : Nat) (s s2 : ByteArray) (ver ver2 : Int) (del del2 : Bool) (w : World) (hn : n ≤ maxLen) (hs : s.size ≤ maxLen) (hn' : n' ≤ maxLen) (hs2 : s2.size ≤ maxLen) (hn2 : n2 ≤ maxLen) :
    Calls Try.prog 19 #[.slice a n c, .string s, .slice a' n' c', .int .u64 ver, .bool del, .string s2, .slice a2 n2 c2, .int .u64 ver2, .bool del2] w fun e w' => ∃ r : Bool, e = .returned (.bool r) ∧ w' = w := by
  unfold maxLen at hn hs hn' hs2 hn2
  go_enter Try.func19, Try.ntmps19
  go_wp2
  all_goals
    go_ret
    exact ⟨_, rfl, rfl⟩

set_option maxHeartbeats 2000000 in
set_option maxRecDepth 10000 in
/-- the law on two records, where the lengths are small -/
theorem f6_small (v vx vy : Value) (l m m2 : List UInt8) (key key2 : ByteArray) (ver ver2 : Nat) (del del2 : Bool) (w : World) (h : Rd w v l) (hx : Rd w vx m) (hy : Rd w vy m2)
    (hsum : l.length + key.size + m.length + key2.size + m2.length ≤ 1048576) (hv : ver < 18446744073709551616) (hv2 : ver2 < 18446744073709551616) :
    Calls Try.prog 6 #[v, .string key, vx, .int .u64 ver, .bool del, .string key2, vy, .int .u64 ver2, .bool del2] w fun e w' => e = .returned (.bool true) ∧ Below w.heap.size w w' := by
  have HB := h
  have HX := hx
  have HY := hy
  obtain ⟨a, cap, rfl, h1, h2, -, -⟩ := h
  obtain ⟨a', cap', rfl, h1', h2', -, -⟩ := hx
  obtain ⟨a2, cap2, rfl, h1'', h2'', -, -⟩ := hy
  have hlm : l.length ≤ maxLen := Nat.le_trans h1 h2
  have hmm : m.length ≤ maxLen := Nat.le_trans h1' h2'
  have hmm2 : m2.length ≤ maxLen := Nat.le_trans h1'' h2''
  have hkm : key.size ≤ maxLen := by unfold maxLen; omega
  have hkm2 : key2.size ≤ maxLen := by unfold maxLen; omega
  clear h1 h2 h1' h2' h1'' h2''
  go_enter Try.func6, Try.ntmps6
  go_wp2_with fail
  refine (f19 _ _ _ _ _ _ _ _ _ _ _ _ _ _ _ _ hlm hkm hmm hkm2 hmm2).mono ?_
  rintro e w' ⟨r, rfl, rfl⟩
  clear hlm hmm hkm hmm2 hkm2
  cases r
  · go_wp2
    go_ret
    exact ⟨rfl, Below.refl _ _⟩
  · go_wp2_with fail
    refine (f13 _ l _ HB (by omega)).mono ?_
    rintro e w1 ⟨vb, rfl, ob, g1⟩
    go_wp2_with fail
    refine (f13 _ m _ (HX.quiet g1) (by omega)).mono ?_
    rintro e w2 ⟨vv, rfl, ov, g2⟩
    go_wp2_with fail
    refine (f13 _ m2 _ ((HY.quiet g1).quiet g2) (by omega)).mono ?_
    rintro e w3 ⟨vz, rfl, oz, g3⟩
    go_wp2_with fail
    refine (f13 _ l _ ((ob.rd.quiet g2).quiet g3) (by omega)).mono ?_
    rintro e w4 ⟨vb2, rfl, ob2, g4⟩
    go_wp2_with fail
    refine (f13 _ m _ ((ov.rd.quiet g3).quiet g4) (by omega)).mono ?_
    rintro e w5 ⟨vc, rfl, oc, g5⟩
    go_wp2_with fail
    refine (f17 w3.heap.size _ l key _ m ver del _ (ob2.quiet g5) (Nat.le_trans g4.size g5.size) (by omega) (by omega) oc.rd (by omega) (fun k hk => ⟨(oc.lt k hk).2, fun e => by have h1 := (oc.lt k hk).1; have h2 := (ob2.lt k e).2; omega⟩) hv).mono ?_
    rintro e w6 ⟨vf, rfl, of, g6⟩
    have G36 : w3.grownBy w6 none := quiet_grew (g4.trans g5) g6 (fun k hk => (ob2.lt k hk).1)
    obtain ⟨hr0, hr1⟩ := rec_len key m ver del (by omega) (by omega) hv
    go_wp2_with fail
    refine (f13 _ m2 _ (oz.rd.quiet G36) (by omega)).mono ?_
    rintro e w7 ⟨vd, rfl, od, g7⟩
    go_wp2_with fail
    refine (f17 w3.heap.size _ (l ++ recBytes key m ver del) key2 _ m2 ver2 del2 _ (of.quiet g7) (Nat.le_trans G36.size g7.size) (by rw [List.length_append]; omega) (by omega) od.rd (by omega) (fun k hk => ⟨(od.lt k hk).2, fun e => by have h1 := (od.lt k hk).1; have h2 := (of.lt k e).2; omega⟩) hv2).mono ?_
    rintro e w8 ⟨vo, rfl, oo, g8⟩
    have G38 : w3.grownBy w8 none := quiet_grew (G36.trans g7) g8 (fun k hk => (of.lt k hk).1)
    have GW : w'.grownBy w8 none := ((g1.trans g2).trans g3).trans G38
    have RB : Rd w8 vb l := ((ob.rd.quiet g2).quiet g3).quiet G38
    have RV : Rd w8 vv m := (ov.rd.quiet g3).quiet G38
    have RZ : Rd w8 vz m2 := oz.rd.quiet G38
    obtain ⟨hs0, hs1⟩ := rec_len key2 m2 ver2 del2 (by omega) (by omega) hv2
    obtain ⟨R, hR⟩ : ∃ R, Hid (R = recBytes key m ver del) := ⟨_, rfl⟩
    obtain ⟨S, hS⟩ : ∃ S, Hid (S = recBytes key2 m2 ver2 del2) := ⟨_, rfl⟩
    rw [← hR.out, ← hS.out] at oo
    rw [← hR.out] at hr0 hr1
    rw [← hS.out] at hs0 hs1
    obtain ⟨nr, hnr⟩ : ∃ nr, nr = R.length := ⟨_, rfl⟩
    obtain ⟨ns, hns⟩ : ∃ ns, ns = S.length := ⟨_, rfl⟩
    rw [← hnr] at hr0 hr1
    rw [← hns] at hs0 hs1
    clear g1 g2 g3 g4 g5 g6 g7 g8 ob ov oz oc od of ob2 HB HX HY G36 G38
    obtain ⟨go, co, rfl, hco, hmo, -⟩ := oo.spell (n := l.length + nr + ns) (by rw [List.length_append, List.length_append, hnr, hns]) (by omega)
    have HRB := RB
    obtain ⟨a1, c1, rfl, hn1, hm1, -, -⟩ := RB
    have HRV := RV
    obtain ⟨a2, c2, rfl, hn2, hm2, -, -⟩ := RV
    have HRZ := RZ
    obtain ⟨a3, c3, rfl, hn3, hm3, -, -⟩ := RZ
    have HNR : Hid (nr = R.length) := hnr
    have HNS : Hid (ns = S.length) := hns
    clear hnr hns
    go_wp2_with fail
    have hT : ((l ++ R) ++ S).take l.length = l := by rw [List.append_assoc, List.take_left]
    have hxx := oo.rd.take (m := l.length) (by rw [List.length_append, List.length_append]; omega)
    rw [hT] at hxx
    refine (f15 _ _ l _ hxx HRB (by omega)).mono ?_
    rintro e w9 ⟨rfl, q, rfl⟩
    have hq : w8.grownBy (w8.drewN q) none := grownBy_drewN (grownBy_refl _ _) q
    clear hxx hT
    go_wp2_with fail
    refine (f18 _ ((l ++ R) ++ S) l S key _ m ver del _ (oo.rd.quiet hq) (by rw [hR.out]) (by rw [List.length_append, List.length_append, ← HNR.out, ← HNS.out]; omega) (by omega) (HRV.quiet hq) (by omega) hv (l.length : Int) ((l.length + nr : Nat) : Int) rfl (by rw [HNR.out, hR.out, List.length_append])).mono ?_
    rintro e w10 ⟨rfl, q2, rfl⟩
    go_wp2_with fail
    have hq2 : w8.grownBy (w8.drewN (q + q2)) none := grownBy_drewN (grownBy_refl _ _) _
    refine (f18 _ ((l ++ R) ++ S) (l ++ R) [] key2 _ m2 ver2 del2 _ (oo.rd.quiet hq2) (by rw [hS.out, List.append_nil]) (by rw [List.length_append, List.length_append, ← HNR.out, ← HNS.out]; omega) (by omega) (HRZ.quiet hq2) (by omega) hv2 _ ((l.length : Int) + (nr : Int) + (ns : Int)) (by rw [List.length_append, ← HNR.out]; omega) (by rw [← hS.out, List.length_append, List.length_append, ← HNR.out, ← HNS.out]; omega)).mono ?_
    rintro e w11 ⟨rfl, q3, rfl⟩
    go_wp2
    go_ret
    exact ⟨rfl, below_quiet (q_drewN GW _)⟩

set_option maxHeartbeats 1000000 in
set_option maxRecDepth 10000 in
/-- the law on two records -/
theorem f6 (v vx vy : Value) (l m m2 : List UInt8) (key key2 : ByteArray) (ver ver2 : Nat) (del del2 : Bool) (w : World) (h : Rd w v l) (hx : Rd w vx m) (hy : Rd w vy m2)
    (hk : key.size ≤ maxLen) (hk2 : key2.size ≤ maxLen) (hv : ver < 18446744073709551616) (hv2 : ver2 < 18446744073709551616) :
    Calls Try.prog 6 #[v, .string key, vx, .int .u64 ver, .bool del, .string key2, vy, .int .u64 ver2, .bool del2] w fun e w' => e = .returned (.bool true) ∧ Below w.heap.size w w' := by
  by_cases hsum : l.length + key.size + m.length + key2.size + m2.length ≤ 1048576
  · exact f6_small v vx vy l m m2 key key2 ver ver2 del del2 w h hx hy hsum hv hv2
  · obtain ⟨a, cap, rfl, h1, h2, -, -⟩ := h
    obtain ⟨a', cap', rfl, h1', h2', -, -⟩ := hx
    obtain ⟨a2, cap2, rfl, h1'', h2'', -, -⟩ := hy
    have hlm : l.length ≤ maxLen := Nat.le_trans h1 h2
    have hmm : m.length ≤ maxLen := Nat.le_trans h1' h2'
    have hmm2 : m2.length ≤ maxLen := Nat.le_trans h1'' h2''
    clear h1 h2 h1' h2' h1'' h2''
    go_enter Try.func6, Try.ntmps6
    go_wp2_with fail
    refine (f19 _ _ _ _ _ _ _ _ _ _ _ _ _ _ _ _ hlm hk hmm hk2 hmm2).mono ?_
    rintro e w' ⟨r, rfl, rfl⟩
    cases r
    · go_wp2
      go_ret
      exact ⟨rfl, Below.refl _ _⟩
    · unfold maxLen at hlm hk hmm hk2 hmm2
      go_wp2_with fail
      all_goals
        go_ret
        exact ⟨rfl, Below.refl _ _⟩
end Go.Proofs.Qxb6618666a.walks
