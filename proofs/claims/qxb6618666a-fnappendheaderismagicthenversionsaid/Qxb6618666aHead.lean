import Derived.Test.Qxb6618666aWalks
namespace Go.Proofs.Qxb6618666a.walks
open Go.RowKit Go.Proofs.Qxb6618666a.mem

theorem dlen (s : ByteArray) : s.data.toList.length = s.size := Array.length_toList
theorem hlen (l : List UInt8) (s : ByteArray) : (l ++ s.data.toList ++ [0, 0, 0, 5]).length = l.length + s.size + 4 := by
  rw [List.length_append, List.length_append, dlen]; rfl
theorem hget (s : ByteArray) (k : Nat) (h : k < s.size) : ((([] : List UInt8) ++ s.data.toList ++ [0, 0, 0, 5]).getD k 0) = s[k] := by
  have hk : k < s.data.toList.length := by rw [dlen]; exact h
  rw [List.getD_eq_getElem?_getD, List.nil_append, List.getElem?_append_left hk, List.getElem?_eq_getElem hk]
  rfl
theorem htail (s : ByteArray) (j : Nat) : ((([] : List UInt8) ++ s.data.toList ++ [0, 0, 0, 5]).getD (s.size + j) 0) = ([0, 0, 0, 5] : List UInt8).getD j 0 := by
  rw [List.getD_eq_getElem?_getD, List.nil_append, List.getElem?_append_right (by rw [dlen]; omega), dlen, List.getD_eq_getElem?_getD]
  congr 2
  omega

set_option maxHeartbeats 1000000 in
set_option maxRecDepth 10000 in
theorem f4 (v : Value) (l : List UInt8) (s : ByteArray) (w : World) (h : Rd w v l) (hs : s.size ≤ maxLen) :
    Calls Try.prog 4 #[v, .string s] w fun e w' => e = .returned (.bool true) ∧ Below w.heap.size w w' := by
  have hrd := h
  obtain ⟨a, cap, rfl, h1, h2, h3, h4⟩ := h
  have hlm : l.length ≤ maxLen := Nat.le_trans h1 h2
  clear h1 h2 h3 h4
  by_cases hsum : l.length + s.size ≤ 1048576
  · go_enter Try.func4, Try.ntmps4
    go_wp2_with fail
    refine (f12 _ _ _ _ _ hlm hs).mono ?_
    rintro e w' ⟨r, rfl, rfl⟩
    cases r
    · go_wp2
      go_ret
      exact ⟨rfl, Below.refl _ _⟩
    · clear hs hlm
      go_wp2_with fail
      refine (f13 _ l _ hrd (by omega)).mono ?_
      rintro e w1 ⟨v1, rfl, ho1, hg1⟩
      go_wp2_with fail
      refine (f14 w1.heap.size _ [] s _ (Own.nil _ _) (Nat.le_refl _) (by simp) (by omega)).mono ?_
      rintro e w2 ⟨vh, rfl, hoh, hgh⟩
      go_wp2_with fail
      refine (f13 _ l _ (ho1.rd.quiet hgh.grown) (by omega)).mono ?_
      rintro e w3 ⟨v2, rfl, ho2, hg2⟩
      go_wp2_with fail
      refine (f14 w2.heap.size _ l s _ ho2 hg2.size (by omega) (by omega)).mono ?_
      rintro e w4 ⟨vo, rfl, hoo, hgo⟩
      have hb1 : Rd w4 v1 l := ((ho1.rd.quiet hgh.grown).quiet hg2).kept hgo.grown (fun k hk e => by
        have e1 := (ho1.lt k hk).2
        have e2 := (ho2.lt k e.symm).1
        have := hgh.grown.size
        omega)
      have hbel : Below w'.heap.size w' w4 := by
        refine Below.grown (row := v2.ownBlock) ((((Below.refl _ _).grown hg1 (Nat.le_refl _) (fun k h => by cases h)).grown hgh.grown hg1.size (fun k h => by cases h)).grown hg2 (Nat.le_trans hg1.size hgh.grown.size) (fun k h => by cases h)) hgo.grown (Nat.le_trans (Nat.le_trans hg1.size hgh.grown.size) hg2.size) (fun k hk => ?_)
        have := (ho2.lt k hk).1
        have := hgh.grown.size
        have := hg1.size
        omega
      have hoh4 : Own w4 w1.heap.size vh ([] ++ s.data.toList ++ [0, 0, 0, 5]) := (hoh.quiet hg2).kept hgo.grown (fun k hk e => by
        have e1 := (hoh.lt k hk).2
        have e2 := (ho2.lt k e.symm).1
        omega)
      clear ho1 hg1 hoh hgh ho2 hg2 hgo hrd
      obtain ⟨gh, ch, rfl, hnh, hmh, hch⟩ := hoh4.spell (n := s.size + 4) (by rw [hlen]; simp) (by omega)
      obtain ⟨go, co, rfl, hno, hmo, -⟩ := hoo.spell (n := l.length + s.size + 4) (hlen l s) (by omega)
      have HB := hb1
      obtain ⟨a1, c1, rfl, hn1, hm1, -, -⟩ := hb1
      go_wp2_with fail
      have c0 : w4.cell? ⟨gh, s.size, none⟩ = some (.int .u8 0) := by rw [hch s.size (by omega)]; have := htail s 0; rw [Nat.add_zero] at this; rw [this]; rfl
      have c1' : w4.cell? ⟨gh, s.size + 1, none⟩ = some (.int .u8 0) := by rw [hch (s.size + 1) (by omega), htail s 1]; rfl
      have c2 : w4.cell? ⟨gh, s.size + 2, none⟩ = some (.int .u8 0) := by rw [hch (s.size + 2) (by omega), htail s 2]; rfl
      have c3 : w4.cell? ⟨gh, s.size + 3, none⟩ = some (.int .u8 5) := by rw [hch (s.size + 3) (by omega), htail s 3]; rfl
      go_loopw [8] (fun i wr => ∃ k q : Nat, k ≤ s.size ∧ i = .int .i64 k ∧ wr = w4.drewN q) (fun i _ => s.size - (intOf i).toNat)
      case atStart => exact ⟨0, 0, Nat.zero_le _, rfl, rfl⟩
      case round =>
        obtain ⟨k, q, hk, rfl, rfl⟩ := hrel
        by_cases hlt : k < s.size
        · have hck := hch k (by omega)
          rw [hget s k hlt] at hck
          clear hch c0 c1' c2 c3
          go_wp2
          go_quiet (fail)
          go_wp2
          go_roundw
          case rel => exact ⟨k + 1, _, by omega, by go_num, rfl⟩
          case measure => simp [intOf]; omega
        · clear hch
          go_wp2_with fail
          have hq : w4.grownBy (w4.drewN q) none := grownBy_drewN (grownBy_refl _ _) q
          have ht : (l ++ s.data.toList ++ [0, 0, 0, 5]).take l.length = l := by rw [List.append_assoc, List.take_left]
          have hd : (l ++ s.data.toList ++ [0, 0, 0, 5]).drop l.length = [] ++ s.data.toList ++ [0, 0, 0, 5] := by rw [List.append_assoc, List.drop_left]; rfl
          have hx := (hoo.rd.quiet hq).take (m := l.length) (by rw [hlen]; omega)
          rw [ht] at hx
          refine (f15 _ _ l _ hx (HB.quiet hq) (by omega)).mono ?_
          rintro e w5 ⟨rfl, q2, rfl⟩
          clear c0 c1' c2 c3 hx ht
          go_wp2_with fail
          have hq2 : w4.grownBy (w4.drewN (q + q2)) none := grownBy_drewN (grownBy_refl _ _) _
          have hy := (hoo.rd.quiet hq2).drop (m := l.length) (k := l.length + s.size + 4 - l.length) (c := co - l.length) rfl rfl (by rw [hlen]; omega)
          rw [hd, Nat.zero_add] at hy
          refine (f15 _ _ _ _ hy (hoh4.rd.quiet hq2) (by rw [hlen]; simp; omega)).mono ?_
          rintro e w5 ⟨rfl, q3, rfl⟩
          go_wp2
          go_ret
          exact ⟨rfl, hbel.trans ⟨rfl, rfl, rfl, Nat.le_refl _, fun _ _ => rfl⟩⟩
  · go_enter Try.func4, Try.ntmps4
    go_wp2_with fail
    refine (f12 _ _ _ _ _ hlm hs).mono ?_
    rintro e w' ⟨r, rfl, rfl⟩
    cases r
    · go_wp2
      go_ret
      exact ⟨rfl, Below.refl _ _⟩
    · unfold maxLen at hs hlm
      go_wp2_with fail
      all_goals
        go_ret
        exact ⟨rfl, Below.refl _ _⟩
end Go.Proofs.Qxb6618666a.walks
