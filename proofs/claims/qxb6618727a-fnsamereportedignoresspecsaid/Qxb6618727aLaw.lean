import Derived.Test.Qxb6618727aData2
namespace Go.Proofs.Qxb6618727a.blk
open Go.RowKit Go.Proofs.Qxb6618727a.tm

theorem rng_kept {w w1 : World} {b : Nat} {cs : List Value} (h : w.rangeAt b 0 cs) (hg : w.grownBy w1 none) : w1.rangeAt b 0 cs := fun j v hv => hg.cell (h j v hv) (by simp)
theorem rng_new (w : World) (cs : Array Value) (t : TypeId) (b : Nat) (hb : b = w.heap.size) : (w.alloc (.cells cs t)).rangeAt b 0 cs.toList := by
  subst hb
  intro j v hv
  rw [Nat.zero_add, blk_new w cs t j]
  simpa using hv
theorem rng_set_same {w : World} {b n : Nat} (cs : Array Value) (h : Row w b n) : (w.setRow b cs).rangeAt b 0 cs.toList := by
  intro j v hv
  rw [Nat.zero_add, blk_setRow_same cs h j]
  simpa using hv
theorem rng_set_other {w : World} {b b' : Nat} {cs : List Value} (cs' : Array Value) (hne : b ≠ b') (h : w.rangeAt b 0 cs) : (w.setRow b' cs').rangeAt b 0 cs := by
  intro j v hv
  rw [World.cell?_of_block (w := w) (setRow_other w b' b cs' hne)]
  exact h j v hv

/-- what lies still: the three boxes; nothing old has turned -/
structure Inv3 (w W : World) (A B C : Array Value) : Prop where
  one : W.rangeAt w.heap.size 0 A.toList
  two : W.rangeAt (w.heap.size + 1) 0 B.toList
  three : W.rangeAt (w.heap.size + 1 + 1) 0 C.toList
  old : w.grownBy W none
  size : w.heap.size + 3 ≤ W.heap.size
theorem Inv3.kept {w W W' : World} {A B C : Array Value} (h : Inv3 w W A B C) (hg : W.grownBy W' none) : Inv3 w W' A B C :=
  ⟨rng_kept h.one hg, rng_kept h.two hg, rng_kept h.three hg, h.old.trans hg, Nat.le_trans h.size hg.size⟩
theorem Inv3.set {w W : World} {A B C : Array Value} (h : Inv3 w W A B C) {b : Nat} (hb : w.heap.size + 3 ≤ b) (cs : Array Value) : Inv3 w (W.setRow b cs) A B C :=
  ⟨rng_set_other cs (by omega) h.one, rng_set_other cs (by omega) h.two, rng_set_other cs (by omega) h.three, gset h.old (by omega) cs, by rw [size_setRow]; exact h.size⟩
theorem inv3_new (w : World) (A B C : Array Value) : Inv3 w (((w.alloc (.cells A 36)).alloc (.cells B 36)).alloc (.cells C 36)) A B C :=
  ⟨rng_kept (rng_kept (rng_new w A 36 _ rfl) (ga _ _)) (ga _ _), rng_kept (rng_new _ B 36 _ (by simp)) (ga _ _), rng_new _ C 36 _ (by simp), ((ga _ _).trans (ga _ _)).trans (ga _ _), by simp⟩
theorem Ok_kept {i : In} {w W : World} (h : i.Ok w) (hg : w.grownBy W none) : i.Ok W := ⟨h.z1, h.z2, h.z3, h.z4, h.z5, h.z6, h.cmds.kept hg, h.t1, h.t2, h.t3⟩
theorem size36 : (Try.prog.info? 36).map (·.size) = some 17 := by kernel_rfl

theorem srB_imp (i j : In) (h : srB i j = true) : srB j i = true := by
  simp only [srB, exB, tB, Bool.and_eq_true, beq_iff_eq] at h ⊢
  obtain ⟨⟨⟨⟨⟨h1, h2⟩, h3⟩, ⟨⟨⟨h4, h5⟩, h6⟩, h7, h8⟩⟩, h9⟩, h10, h11⟩ := h
  exact ⟨⟨⟨⟨⟨h1.symm, h2.symm⟩, h3.symm⟩, ⟨⟨⟨h4.symm, h5.symm⟩, h6.symm⟩, h7.symm, h8.symm⟩⟩, h9.symm⟩, h10.symm, h11.symm⟩
theorem srB_symm (i j : In) : srB i j = srB j i := by
  rw [Bool.eq_iff_iff]
  exact ⟨srB_imp i j, srB_imp j i⟩
theorem srB_refl (i : In) : srB i i = true := by simp [srB, exB, tB]
theorem sr_of_part (i j k : In) (h : partB i j = true) : srB i j = true ∧ srB j i = true ∧ srB i k = srB j k ∧ srB k i = srB i k := by
  simp only [partB, Bool.and_eq_true, beq_iff_eq] at h
  obtain ⟨⟨⟨⟨⟨h1, h2⟩, h3⟩, ⟨⟨⟨h4, h5⟩, h6⟩, h7⟩⟩, h8⟩, h9⟩ := h
  have e : ∀ x, srB i x = srB j x := by
    intro x
    unfold srB exB
    rw [h1, h2, h3, h4, h5, h6, h7, h8, h9]
  exact ⟨by rw [e j]; exact srB_refl j, by rw [srB_symm, e j]; exact srB_refl j, e k, srB_symm k i⟩

set_option maxHeartbeats 4000000 in
set_option maxRecDepth 10000 in
theorem f4 (i j k : In) (w : World) (hi : i.Ok w) (hj : j.Ok w) (hk : k.Ok w) :
    Calls Try.prog 4 #[.agg i.cells, .agg j.cells, .agg k.cells] w fun e w' => e = .returned (.bool true) ∧ w.grownBy w' none := by
  have C10 : Hid (∀ W, w.grownBy W none → Calls Try.prog 10 #[.agg i.cells, .agg j.cells, .agg k.cells] W _) := fun W hg => f10 i j k W (Ok_kept hi hg) (Ok_kept hj hg) (Ok_kept hk hg)
  have D1 : Hid (∀ a W, w.grownBy W none → 0 ≤ a → a ≤ 2097152 → Calls Try.prog 11 #[.int .i64 a, .agg i.cells] W _) := fun a W hg h0 h1 => f11 a i W h0 h1 (Ok_kept hi hg)
  have D2 : Hid (∀ a W, w.grownBy W none → 0 ≤ a → a ≤ 2097152 → Calls Try.prog 11 #[.int .i64 a, .agg j.cells] W _) := fun a W hg h0 h1 => f11 a j W h0 h1 (Ok_kept hj hg)
  have D3 : Hid (∀ a W, w.grownBy W none → 0 ≤ a → a ≤ 2097152 → Calls Try.prog 11 #[.int .i64 a, .agg k.cells] W _) := fun a W hg h0 h1 => f11 a k W h0 h1 (Ok_kept hk hg)
  have C12 : Hid (∀ W, Calls Try.prog 12 #[.agg i.cells, .agg j.cells] W _) := fun W => f12 i j W
  have E1 : Hid (∀ W, w.grownBy W none → Calls Try.prog 13 #[.agg i.cells] W _) := fun W hg => f13 i W (Ok_kept hi hg)
  have E2 : Hid (∀ W, w.grownBy W none → Calls Try.prog 13 #[.agg j.cells] W _) := fun W hg => f13 j W (Ok_kept hj hg)
  have E3 : Hid (∀ W, w.grownBy W none → Calls Try.prog 13 #[.agg k.cells] W _) := fun W hg => f13 k W (Ok_kept hk hg)
  clear hi hj hk
  obtain ⟨A, hA⟩ : ∃ A, A = i.cells := ⟨_, rfl⟩
  obtain ⟨B, hB⟩ : ∃ B, B = j.cells := ⟨_, rfl⟩
  obtain ⟨C, hC⟩ : ∃ C, C = k.cells := ⟨_, rfl⟩
  have zA := hide' (show (Try.prog.info? 36).map (·.size) = some A.toList.length by rw [hA]; exact size36)
  have zB := hide' (show (Try.prog.info? 36).map (·.size) = some B.toList.length by rw [hB]; exact size36)
  have zC := hide' (show (Try.prog.info? 36).map (·.size) = some C.toList.length by rw [hC]; exact size36)
  rw [← hA, ← hB, ← hC] at C10
  rw [← hA] at D1 E1
  rw [← hB] at D2 E2
  rw [← hC] at D3 E3
  rw [← hA, ← hB] at C12
  rw [← hA, ← hB, ← hC]
  clear hA hB hC
  have I := hide' (inv3_new w A B C)
  go_enter Try.func4, Try.ntmps4
  go_wp2_with (first
    | (refine wpList_load_mid rfl 36 _ rfl w.heap.size 0 rfl A.toList _ I.out.one Try.underlying36 rfl zA.out ?_)
    | (refine wpList_load_mid rfl 36 _ rfl (w.heap.size + 1) 0 rfl B.toList _ I.out.two Try.underlying36 rfl zB.out ?_)
    | (refine wpList_load_mid rfl 36 _ rfl (w.heap.size + 1 + 1) 0 rfl C.toList _ I.out.three Try.underlying36 rfl zC.out ?_))
  refine (C10.out _ I.out.old).mono ?_
  rintro e w1 ⟨⟨r, rfl⟩, g1⟩
  have I := hide' (I.out.kept g1)
  clear C10 g1
  cases r
  · go_wp2
    go_ret
    exact ⟨rfl, I.out.old⟩
  · go_wp2_with fail
    have I := hide' (I.out.kept (gd _))
    refine wp_region_held_drew (S := fun W => W.rangeAt w.heap.size 0 A.toList ∧ W.rangeAt (w.heap.size + 1) 0 B.toList ∧ W.rangeAt (w.heap.size + 1 + 1) 0 C.toList) (by kernel_rfl) ⟨I.out.one, I.out.two, I.out.three⟩ (fun hHeld => ?_)
    refine wpAnyH_take (i := 0) (oi := ⟨some 15, .load 36 (.tmp 3), 36, _, _, none⟩) (v := .agg A) rfl (by kernel_rfl) (by kernel_rfl) (by kernel_rfl) (fun _ _ _ h => h) (yieldsIf_load_mid rfl 36 _ rfl w.heap.size 0 rfl A.toList _ (fun w h => h.1) Try.underlying36 rfl zA.out) hHeld ?_
    simp only [Act.put, List.setIfInBounds_toArray, List.set_cons_zero, List.set_cons_succ]
    refine wpAnyH_take (i := 2) (oi := ⟨some 17, .load 36 (.tmp 4), 36, _, _, none⟩) (v := .agg B) rfl (by kernel_rfl) (by kernel_rfl) (by kernel_rfl) (fun _ _ _ h => h) (yieldsIf_load_mid rfl 36 _ rfl (w.heap.size + 1) 0 rfl B.toList _ (fun w h => h.2.1) Try.underlying36 rfl zB.out) hHeld ?_
    simp only [Act.put, List.setIfInBounds_toArray, List.set_cons_zero, List.set_cons_succ]
    refine wpAnyH_take (i := 4) (oi := ⟨some 19, .load 36 (.tmp 5), 36, _, _, none⟩) (v := .agg C) rfl (by kernel_rfl) (by kernel_rfl) (by kernel_rfl) (fun _ _ _ h => h) (yieldsIf_load_mid rfl 36 _ rfl (w.heap.size + 1 + 1) 0 rfl C.toList _ (fun w h => h.2.2) Try.underlying36 rfl zC.out) hHeld ?_
    simp only [Act.put, List.setIfInBounds_toArray, List.set_cons_zero, List.set_cons_succ]
    refine wpAnyH_ready (rs := [1]) (by kernel_rfl) (by simp) ?_
    refine AllReadyH.cons (o := ⟨some 16, _, 3, _, _, none⟩) rfl (fun K hK => ?_) AllReadyH.nil
    go_simp
    refine (D1.out _ _ I.out.old (by omega) (by omega)).mono ?_
    rintro e w2 ⟨r1, rfl, hr1, hr1', hg⟩
    have I := hide' (I.out.kept hg)
    go_simp
    refine hK.out _ _ ⟨I.out.one, I.out.two, I.out.three⟩ (fun hHeld => ?_)
    clear hK K hg
    refine wpAnyH_ready (rs := [3]) (by kernel_rfl) (by simp) ?_
    refine AllReadyH.cons (o := ⟨some 18, _, 3, _, _, none⟩) rfl (fun K hK => ?_) AllReadyH.nil
    go_simp
    refine (D2.out _ _ I.out.old (by omega) (by omega)).mono ?_
    rintro e w3 ⟨r2, rfl, hr2, hr2', hg⟩
    have I := hide' (I.out.kept hg)
    go_simp
    refine hK.out _ _ ⟨I.out.one, I.out.two, I.out.three⟩ (fun hHeld => ?_)
    clear hK K hg
    refine wpAnyH_ready (rs := [5]) (by kernel_rfl) (by simp) ?_
    refine AllReadyH.cons (o := ⟨some 20, _, 3, _, _, none⟩) rfl (fun K hK => ?_) AllReadyH.nil
    go_simp
    refine (D3.out _ _ I.out.old (by omega) (by omega)).mono ?_
    rintro e w4 ⟨r3, rfl, hr3, hr3', hg⟩
    have I := hide' (I.out.kept hg)
    go_simp
    refine hK.out _ _ ⟨I.out.one, I.out.two, I.out.three⟩ (fun hHeld => ?_)
    clear hK K hg
    refine wpAnyH_take (i := 6) (oi := ⟨some 21, .binOp .gtr 3 (.tmp 20) (.const (.int .i64 1048576)) 3, 4, _, _, none⟩) (v := .bool (decide (1048576 < r3))) rfl (by kernel_rfl) (by kernel_rfl) (by kernel_rfl) (fun _ _ _ h => h) (Or.inl ⟨rfl, fun w _ => by go_simp⟩) hHeld ?_
    simp only [Act.put, List.setIfInBounds_toArray, List.set_cons_zero, List.set_cons_succ]
    refine wpAnyH_done (by kernel_rfl) ?_ _
    clear D1 D2 D3 hHeld
    go_wp2_with (first
      | (refine wpList_load_mid rfl 36 _ rfl w.heap.size 0 rfl A.toList _ I.out.one Try.underlying36 rfl zA.out ?_)
      | (refine wpList_load_mid rfl 36 _ rfl (w.heap.size + 1) 0 rfl B.toList _ I.out.two Try.underlying36 rfl zB.out ?_))
    · go_ret
      exact ⟨rfl, I.out.old⟩
    · obtain ⟨pb, hpb⟩ : ∃ pb, Hid (partB i j = pb) := ⟨_, rfl⟩
      rw [hpb.out] at C12
      refine (C12.out _).mono ?_
      rintro e w5 ⟨rfl, hg⟩
      have I := hide' (I.out.kept hg)
      cases pb
      · go_wp2
        go_ret
        exact ⟨rfl, I.out.old⟩
      · go_wp2_with (first
          | (refine wpList_load_mid rfl 36 _ rfl w.heap.size 0 rfl A.toList _ I.out.one Try.underlying36 rfl zA.out ?_))
        obtain ⟨X, hX⟩ : ∃ X, Hid (X = i.inst) := ⟨_, rfl⟩
        rw [← hX.out] at E1
        have sX : X.size = 23 := by rw [hX.out]; rfl
        have oX : X.all (·.oneCell') = true := by rw [hX.out]; exact inst_one i
        have zX : (Try.prog.info? 51).map (·.size) = some X.size := by rw [sX]; exact size51
        refine (E1.out _ I.out.old).mono ?_
        rintro e w6 ⟨rfl, hg⟩
        have I := hide' (I.out.kept hg)
        clear E1 hg
        go_upto_region 8 with (refine wpList_store_row rfl 51 _ _ rfl w6.heap.size X rfl rfl 51 _ (heap_alloc_last w6 _) zX sX.symm oX ?_)
        rw [World.setRow_alloc_new]
        have LX := hide' (rng_new w6 X 51 _ rfl)
        have JX := hide' I.out.size
        have I := hide' (I.out.kept (ga _ (.cells X 51)))
        clear sX oX zX
        go_wp2_with (first
          | (refine wpList_load_mid rfl 36 _ rfl (w.heap.size + 1) 0 rfl B.toList _ I.out.two Try.underlying36 rfl zB.out ?_))
        obtain ⟨Y, hY⟩ : ∃ Y, Hid (Y = j.inst) := ⟨_, rfl⟩
        rw [← hY.out] at E2
        have sY : Y.size = 23 := by rw [hY.out]; rfl
        have oY : Y.all (·.oneCell') = true := by rw [hY.out]; exact inst_one j
        have zY : (Try.prog.info? 51).map (·.size) = some Y.size := by rw [sY]; exact size51
        refine (E2.out _ I.out.old).mono ?_
        rintro e w7 ⟨rfl, hg⟩
        have I := hide' (I.out.kept hg)
        have LX := hide' (rng_kept (rng_kept LX.out hg) (ga _ (.cells Y 51)))
        clear E2 hg
        go_upto_region 9 with (refine wpList_store_row rfl 51 _ _ rfl w7.heap.size Y rfl rfl 51 _ (heap_alloc_last w7 _) zY sY.symm oY ?_)
        rw [World.setRow_alloc_new]
        have LY := hide' (rng_new w7 Y 51 _ rfl)
        have I := hide' (I.out.kept (ga _ (.cells Y 51)))
        clear sY oY zY
        go_wp2_with (first
          | (refine wpList_load_mid rfl 36 _ rfl (w.heap.size + 1 + 1) 0 rfl C.toList _ I.out.three Try.underlying36 rfl zC.out ?_))
        obtain ⟨Z, hZ⟩ : ∃ Z, Hid (Z = k.inst) := ⟨_, rfl⟩
        rw [← hZ.out] at E3
        have sZ : Z.size = 23 := by rw [hZ.out]; rfl
        have oZ : Z.all (·.oneCell') = true := by rw [hZ.out]; exact inst_one k
        have zZ : (Try.prog.info? 51).map (·.size) = some Z.size := by rw [sZ]; exact size51
        refine (E3.out _ I.out.old).mono ?_
        rintro e w8 ⟨rfl, hg⟩
        have I := hide' (I.out.kept hg)
        have LX := hide' (rng_kept (rng_kept LX.out hg) (ga _ (.cells Z 51)))
        have LY := hide' (rng_kept (rng_kept LY.out hg) (ga _ (.cells Z 51)))
        clear E3 hg
        go_upto_region 10 with (refine wpList_store_row rfl 51 _ _ rfl w8.heap.size Z rfl rfl 51 _ (heap_alloc_last w8 _) zZ sZ.symm oZ ?_)
        rw [World.setRow_alloc_new]
        have LZ := hide' (rng_new w8 Z 51 _ rfl)
        have I := hide' (I.out.kept (ga _ (.cells Z 51)))
        clear sZ oZ zZ
        have hG := hide' I.out.old
        obtain ⟨q1, q2, q3, q4⟩ := sr_of_part i j k hpb.out
        obtain ⟨sb, hsb⟩ : ∃ sb, Hid (srB i k = sb) := ⟨_, rfl⟩
        have P1 : Hid (∀ W, Calls Try.prog 14 #[.agg X, .agg Y] W fun e w' => e = .returned (.bool true) ∧ W.grownBy w' none) := by
          rw [hX.out, hY.out, ← q1]; exact fun W => f14 i j W
        have P2 : Hid (∀ W, Calls Try.prog 14 #[.agg Y, .agg X] W fun e w' => e = .returned (.bool true) ∧ W.grownBy w' none) := by
          rw [hX.out, hY.out, ← q2]; exact fun W => f14 j i W
        have P3 : Hid (∀ W, Calls Try.prog 14 #[.agg X, .agg Z] W fun e w' => e = .returned (.bool sb) ∧ W.grownBy w' none) := by
          rw [hX.out, hZ.out, ← hsb.out]; exact fun W => f14 i k W
        have P4 : Hid (∀ W, Calls Try.prog 14 #[.agg Y, .agg Z] W fun e w' => e = .returned (.bool sb) ∧ W.grownBy w' none) := by
          rw [hY.out, hZ.out, ← hsb.out, q3]; exact fun W => f14 j k W
        have P5 : Hid (∀ W, Calls Try.prog 14 #[.agg Z, .agg X] W fun e w' => e = .returned (.bool sb) ∧ W.grownBy w' none) := by
          rw [hX.out, hZ.out, ← hsb.out, ← q4]; exact fun W => f14 k i W
        have yX := hide' (show (Try.prog.info? 51).map (·.size) = some X.toList.length by rw [hX.out]; exact size51)
        have yY := hide' (show (Try.prog.info? 51).map (·.size) = some Y.toList.length by rw [hY.out]; exact size51)
        have yZ := hide' (show (Try.prog.info? 51).map (·.size) = some Z.toList.length by rw [hZ.out]; exact size51)
        clear q1 q2 q3 q4 zA zB zC C12 I
        have hG := hide' (hG.out.trans (gd _))
        have LX := hide' (rng_kept LX.out (gd _))
        have LY := hide' (rng_kept LY.out (gd _))
        have LZ := hide' (rng_kept LZ.out (gd _))
        simp only [Act.put]
        refine wp_region_held_drew (S := fun W => W.rangeAt w6.heap.size 0 X.toList ∧ W.rangeAt w7.heap.size 0 Y.toList ∧ W.rangeAt w8.heap.size 0 Z.toList) (by kernel_rfl) ⟨LX.out, LY.out, LZ.out⟩ (fun hHeld => ?_)
        refine wpAnyH_take (i := 0) (oi := ⟨some 32, .load 51 (.tmp 7), 51, _, _, none⟩) (v := .agg X) rfl (by kernel_rfl) (by kernel_rfl) (by kernel_rfl) (fun _ _ _ h => h) (yieldsIf_load_mid rfl 51 _ rfl w6.heap.size 0 rfl X.toList _ (fun w h => h.1) Try.underlying51 rfl yX.out) hHeld ?_
        simp only [Act.put, List.setIfInBounds_toArray, List.set_cons_zero, List.set_cons_succ]
        refine wpAnyH_take (i := 1) (oi := ⟨some 33, .load 51 (.tmp 8), 51, _, _, none⟩) (v := .agg Y) rfl (by kernel_rfl) (by kernel_rfl) (by kernel_rfl) (fun _ _ _ h => h) (yieldsIf_load_mid rfl 51 _ rfl w7.heap.size 0 rfl Y.toList _ (fun w h => h.2.1) Try.underlying51 rfl yY.out) hHeld ?_
        simp only [Act.put, List.setIfInBounds_toArray, List.set_cons_zero, List.set_cons_succ]
        refine wpAnyH_ready (rs := [2]) (by kernel_rfl) (by simp) ?_
        refine AllReadyH.cons (o := ⟨some 34, _, 4, _, _, none⟩) rfl (fun K hK => ?_) AllReadyH.nil
        go_simp
        refine (P1.out _).mono ?_
        rintro e v9 ⟨rfl, hg⟩
        have hG := hide' (hG.out.trans hg)
        have LX := hide' (rng_kept LX.out hg)
        have LY := hide' (rng_kept LY.out hg)
        have LZ := hide' (rng_kept LZ.out hg)
        go_simp
        refine hK.out _ _ ⟨LX.out, LY.out, LZ.out⟩ (fun hHeld => ?_)
        clear hK K hg
        refine wpAnyH_take (i := 3) (oi := ⟨some 35, .move (.tmp 34), 4, _, _, none⟩) (v := .bool true) rfl (by kernel_rfl) (by kernel_rfl) (by kernel_rfl) (fun _ _ _ h => h) (Or.inl ⟨rfl, fun w _ => by go_simp⟩) hHeld ?_
        simp only [Act.put, List.setIfInBounds_toArray, List.set_cons_zero, List.set_cons_succ]
        refine wpAnyH_take (i := 4) (oi := ⟨some 36, .load 51 (.tmp 8), 51, _, _, some (3, true)⟩) (v := .agg Y) rfl (by kernel_rfl) (by kernel_rfl) (by kernel_rfl) (fun _ _ _ h => h) (yieldsIf_load_mid rfl 51 _ rfl w7.heap.size 0 rfl Y.toList _ (fun w h => h.2.1) Try.underlying51 rfl yY.out) hHeld ?_
        simp only [Act.put, List.setIfInBounds_toArray, List.set_cons_zero, List.set_cons_succ]
        refine wpAnyH_take (i := 5) (oi := ⟨some 37, .load 51 (.tmp 7), 51, _, _, some (3, true)⟩) (v := .agg X) rfl (by kernel_rfl) (by kernel_rfl) (by kernel_rfl) (fun _ _ _ h => h) (yieldsIf_load_mid rfl 51 _ rfl w6.heap.size 0 rfl X.toList _ (fun w h => h.1) Try.underlying51 rfl yX.out) hHeld ?_
        simp only [Act.put, List.setIfInBounds_toArray, List.set_cons_zero, List.set_cons_succ]
        refine wpAnyH_ready (rs := [6]) (by kernel_rfl) (by simp) ?_
        refine AllReadyH.cons (o := ⟨some 38, _, 4, _, _, some (3, true)⟩) rfl (fun K hK => ?_) AllReadyH.nil
        go_simp
        refine (P2.out _).mono ?_
        rintro e v10 ⟨rfl, hg⟩
        have hG := hide' (hG.out.trans hg)
        have LX := hide' (rng_kept LX.out hg)
        have LY := hide' (rng_kept LY.out hg)
        have LZ := hide' (rng_kept LZ.out hg)
        go_simp
        refine hK.out _ _ ⟨LX.out, LY.out, LZ.out⟩ (fun hHeld => ?_)
        clear hK K hg
        refine wpAnyH_take (i := 7) (oi := ⟨some 39, .pick (.tmp 35) (.tmp 38) (.const (.bool false)), 4, _, _, none⟩) (v := .bool true) rfl (by kernel_rfl) (by kernel_rfl) (by kernel_rfl) (fun _ _ _ h => h) (Or.inl ⟨rfl, fun w _ => by go_simp⟩) hHeld ?_
        simp only [Act.put, List.setIfInBounds_toArray, List.set_cons_zero, List.set_cons_succ]
        refine wpAnyH_take (i := 8) (oi := ⟨some 40, .move (.tmp 39), 4, _, _, none⟩) (v := .bool true) rfl (by kernel_rfl) (by kernel_rfl) (by kernel_rfl) (fun _ _ _ h => h) (Or.inl ⟨rfl, fun w _ => by go_simp⟩) hHeld ?_
        simp only [Act.put, List.setIfInBounds_toArray, List.set_cons_zero, List.set_cons_succ]
        refine wpAnyH_take (i := 9) (oi := ⟨some 41, .load 51 (.tmp 7), 51, _, _, some (8, true)⟩) (v := .agg X) rfl (by kernel_rfl) (by kernel_rfl) (by kernel_rfl) (fun _ _ _ h => h) (yieldsIf_load_mid rfl 51 _ rfl w6.heap.size 0 rfl X.toList _ (fun w h => h.1) Try.underlying51 rfl yX.out) hHeld ?_
        simp only [Act.put, List.setIfInBounds_toArray, List.set_cons_zero, List.set_cons_succ]
        refine wpAnyH_take (i := 10) (oi := ⟨some 42, .load 51 (.tmp 9), 51, _, _, some (8, true)⟩) (v := .agg Z) rfl (by kernel_rfl) (by kernel_rfl) (by kernel_rfl) (fun _ _ _ h => h) (yieldsIf_load_mid rfl 51 _ rfl w8.heap.size 0 rfl Z.toList _ (fun w h => h.2.2) Try.underlying51 rfl yZ.out) hHeld ?_
        simp only [Act.put, List.setIfInBounds_toArray, List.set_cons_zero, List.set_cons_succ]
        refine wpAnyH_take (i := 12) (oi := ⟨some 44, .load 51 (.tmp 8), 51, _, _, some (8, true)⟩) (v := .agg Y) rfl (by kernel_rfl) (by kernel_rfl) (by kernel_rfl) (fun _ _ _ h => h) (yieldsIf_load_mid rfl 51 _ rfl w7.heap.size 0 rfl Y.toList _ (fun w h => h.2.1) Try.underlying51 rfl yY.out) hHeld ?_
        simp only [Act.put, List.setIfInBounds_toArray, List.set_cons_zero, List.set_cons_succ]
        refine wpAnyH_take (i := 13) (oi := ⟨some 45, .load 51 (.tmp 9), 51, _, _, some (8, true)⟩) (v := .agg Z) rfl (by kernel_rfl) (by kernel_rfl) (by kernel_rfl) (fun _ _ _ h => h) (yieldsIf_load_mid rfl 51 _ rfl w8.heap.size 0 rfl Z.toList _ (fun w h => h.2.2) Try.underlying51 rfl yZ.out) hHeld ?_
        simp only [Act.put, List.setIfInBounds_toArray, List.set_cons_zero, List.set_cons_succ]
        refine wpAnyH_ready (rs := [11]) (by kernel_rfl) (by simp) ?_
        refine AllReadyH.cons (o := ⟨some 43, _, 4, _, _, some (8, true)⟩) rfl (fun K hK => ?_) AllReadyH.nil
        go_simp
        refine (P3.out _).mono ?_
        rintro e v11 ⟨rfl, hg⟩
        have hG := hide' (hG.out.trans hg)
        have LX := hide' (rng_kept LX.out hg)
        have LY := hide' (rng_kept LY.out hg)
        have LZ := hide' (rng_kept LZ.out hg)
        go_simp
        refine hK.out _ _ ⟨LX.out, LY.out, LZ.out⟩ (fun hHeld => ?_)
        clear hK K hg
        refine wpAnyH_ready (rs := [14]) (by kernel_rfl) (by simp) ?_
        refine AllReadyH.cons (o := ⟨some 46, _, 4, _, _, some (8, true)⟩) rfl (fun K hK => ?_) AllReadyH.nil
        go_simp
        refine (P4.out _).mono ?_
        rintro e v12 ⟨rfl, hg⟩
        have hG := hide' (hG.out.trans hg)
        have LX := hide' (rng_kept LX.out hg)
        have LY := hide' (rng_kept LY.out hg)
        have LZ := hide' (rng_kept LZ.out hg)
        go_simp
        refine hK.out _ _ ⟨LX.out, LY.out, LZ.out⟩ (fun hHeld => ?_)
        clear hK K hg
        refine wpAnyH_take (i := 15) (oi := ⟨some 47, .binOp .eql 4 (.tmp 43) (.tmp 46) 4, 4, _, _, some (8, true)⟩) (v := .bool true) rfl (by kernel_rfl) (by kernel_rfl) (by kernel_rfl) (fun _ _ _ h => h) (Or.inl ⟨rfl, fun w _ => by go_simp⟩) hHeld ?_
        simp only [Act.put, List.setIfInBounds_toArray, List.set_cons_zero, List.set_cons_succ]
        refine wpAnyH_take (i := 16) (oi := ⟨some 48, .pick (.tmp 40) (.tmp 47) (.const (.bool false)), 4, _, _, none⟩) (v := .bool true) rfl (by kernel_rfl) (by kernel_rfl) (by kernel_rfl) (fun _ _ _ h => h) (Or.inl ⟨rfl, fun w _ => by go_simp⟩) hHeld ?_
        simp only [Act.put, List.setIfInBounds_toArray, List.set_cons_zero, List.set_cons_succ]
        refine wpAnyH_take (i := 17) (oi := ⟨some 49, .move (.tmp 48), 4, _, _, none⟩) (v := .bool true) rfl (by kernel_rfl) (by kernel_rfl) (by kernel_rfl) (fun _ _ _ h => h) (Or.inl ⟨rfl, fun w _ => by go_simp⟩) hHeld ?_
        simp only [Act.put, List.setIfInBounds_toArray, List.set_cons_zero, List.set_cons_succ]
        refine wpAnyH_take (i := 18) (oi := ⟨some 50, .load 51 (.tmp 9), 51, _, _, some (17, true)⟩) (v := .agg Z) rfl (by kernel_rfl) (by kernel_rfl) (by kernel_rfl) (fun _ _ _ h => h) (yieldsIf_load_mid rfl 51 _ rfl w8.heap.size 0 rfl Z.toList _ (fun w h => h.2.2) Try.underlying51 rfl yZ.out) hHeld ?_
        simp only [Act.put, List.setIfInBounds_toArray, List.set_cons_zero, List.set_cons_succ]
        refine wpAnyH_take (i := 19) (oi := ⟨some 51, .load 51 (.tmp 7), 51, _, _, some (17, true)⟩) (v := .agg X) rfl (by kernel_rfl) (by kernel_rfl) (by kernel_rfl) (fun _ _ _ h => h) (yieldsIf_load_mid rfl 51 _ rfl w6.heap.size 0 rfl X.toList _ (fun w h => h.1) Try.underlying51 rfl yX.out) hHeld ?_
        simp only [Act.put, List.setIfInBounds_toArray, List.set_cons_zero, List.set_cons_succ]
        refine wpAnyH_take (i := 21) (oi := ⟨some 53, .load 51 (.tmp 7), 51, _, _, some (17, true)⟩) (v := .agg X) rfl (by kernel_rfl) (by kernel_rfl) (by kernel_rfl) (fun _ _ _ h => h) (yieldsIf_load_mid rfl 51 _ rfl w6.heap.size 0 rfl X.toList _ (fun w h => h.1) Try.underlying51 rfl yX.out) hHeld ?_
        simp only [Act.put, List.setIfInBounds_toArray, List.set_cons_zero, List.set_cons_succ]
        refine wpAnyH_take (i := 22) (oi := ⟨some 54, .load 51 (.tmp 9), 51, _, _, some (17, true)⟩) (v := .agg Z) rfl (by kernel_rfl) (by kernel_rfl) (by kernel_rfl) (fun _ _ _ h => h) (yieldsIf_load_mid rfl 51 _ rfl w8.heap.size 0 rfl Z.toList _ (fun w h => h.2.2) Try.underlying51 rfl yZ.out) hHeld ?_
        simp only [Act.put, List.setIfInBounds_toArray, List.set_cons_zero, List.set_cons_succ]
        refine wpAnyH_ready (rs := [20]) (by kernel_rfl) (by simp) ?_
        refine AllReadyH.cons (o := ⟨some 52, _, 4, _, _, some (17, true)⟩) rfl (fun K hK => ?_) AllReadyH.nil
        go_simp
        refine (P5.out _).mono ?_
        rintro e v13 ⟨rfl, hg⟩
        have hG := hide' (hG.out.trans hg)
        have LX := hide' (rng_kept LX.out hg)
        have LY := hide' (rng_kept LY.out hg)
        have LZ := hide' (rng_kept LZ.out hg)
        go_simp
        refine hK.out _ _ ⟨LX.out, LY.out, LZ.out⟩ (fun hHeld => ?_)
        clear hK K hg
        refine wpAnyH_ready (rs := [23]) (by kernel_rfl) (by simp) ?_
        refine AllReadyH.cons (o := ⟨some 55, _, 4, _, _, some (17, true)⟩) rfl (fun K hK => ?_) AllReadyH.nil
        go_simp
        refine (P3.out _).mono ?_
        rintro e v14 ⟨rfl, hg⟩
        have hG := hide' (hG.out.trans hg)
        have LX := hide' (rng_kept LX.out hg)
        have LY := hide' (rng_kept LY.out hg)
        have LZ := hide' (rng_kept LZ.out hg)
        go_simp
        refine hK.out _ _ ⟨LX.out, LY.out, LZ.out⟩ (fun hHeld => ?_)
        clear hK K hg
        refine wpAnyH_take (i := 24) (oi := ⟨some 56, .binOp .eql 4 (.tmp 52) (.tmp 55) 4, 4, _, _, some (17, true)⟩) (v := .bool true) rfl (by kernel_rfl) (by kernel_rfl) (by kernel_rfl) (fun _ _ _ h => h) (Or.inl ⟨rfl, fun w _ => by go_simp⟩) hHeld ?_
        simp only [Act.put, List.setIfInBounds_toArray, List.set_cons_zero, List.set_cons_succ]
        refine wpAnyH_take (i := 25) (oi := ⟨some 57, .pick (.tmp 49) (.tmp 56) (.const (.bool false)), 4, _, _, none⟩) (v := .bool true) rfl (by kernel_rfl) (by kernel_rfl) (by kernel_rfl) (fun _ _ _ h => h) (Or.inl ⟨rfl, fun w _ => by go_simp⟩) hHeld ?_
        simp only [Act.put, List.setIfInBounds_toArray, List.set_cons_zero, List.set_cons_succ]
        refine wpAnyH_take (i := 26) (oi := ⟨some 6, .assign (.tmp 57), 4, _, _, none⟩) (v := .bool true) rfl (by kernel_rfl) (by kernel_rfl) (by kernel_rfl) (fun _ _ _ h => h) (Or.inl ⟨rfl, fun w _ => by go_simp⟩) hHeld ?_
        simp only [Act.put, List.setIfInBounds_toArray, List.set_cons_zero, List.set_cons_succ]
        refine wpAnyH_done (by kernel_rfl) ?_ _
        go_wp2
        go_ret
        exact ⟨rfl, hG.out⟩
end Go.Proofs.Qxb6618727a.blk
