import Derived.Test.Qxb6618727aData
import Derived.Test.Qxb6618727aEq
namespace Go.Proofs.Qxb6618727a.tm
open Go.RowKit

theorem hide' {p : Prop} (h : p) : Hid p := h
/-- an instance of the fleet, as its cells -/
def In.inst (i : In) : Array Value :=
  #[.string i.name, .string i.host, .slice i.ca i.cl i.cc, .int .i64 i.cpus, .int .u64 i.mem, .string i.des, .string i.cur, .int .i64 i.pid, .int .i64 i.rst,
    .int .i64 i.code, .string i.sig, .bool i.oom, .int .u64 (tw i.at_), .int .i64 (te i.at_), .pointer none, .string i.rsn, .int .u64 i.id,
    .int .u64 (tw i.str), .int .i64 (te i.str), .pointer none, .int .u64 (tw i.fld), .int .i64 (te i.fld), .pointer none]
theorem size51 : (Try.prog.info? 51).map (·.size) = some 23 := by kernel_rfl
theorem inst_size (i : In) : i.inst.size = 23 := rfl
theorem inst_one (i : In) : i.inst.all (·.oneCell') = true := by simp [In.inst, Value.oneCell']

def srB (i j : In) : Bool := i.cur.toList == j.cur.toList && i.pid == j.pid && i.rst == j.rst && exB i.code j.code i.sig j.sig i.oom j.oom (tw i.at_) (te i.at_) (tw j.at_) (te j.at_) && i.rsn.toList == j.rsn.toList && tB (tw i.fld) (te i.fld) (tw j.fld) (te j.fld)

set_option maxHeartbeats 2000000 in
set_option maxRecDepth 10000 in
/-- sameReported -/
theorem f25 (i j : In) (w : World) : Calls Try.prog 25 #[.agg i.inst, .agg j.inst] w fun e w' => e = .returned (.bool (srB i j)) ∧ w.grownBy w' none := by
  have C27 : Hid (∀ w, Calls _ _ _ _ _) := fun w => f27 i.code j.code i.sig j.sig i.oom j.oom (tw i.at_) (te i.at_) (tw j.at_) (te j.at_) w (tw_bd _).1 (tw_bd _).2 (tw_bd _).1 (tw_bd _).2
  have C28 : Hid (∀ w, Calls _ _ _ _ _) := fun w => f28 (tw i.fld) (te i.fld) (tw j.fld) (te j.fld) w (tw_bd _).1 (tw_bd _).2 (tw_bd _).1 (tw_bd _).2
  obtain ⟨np, hnp⟩ : ∃ np : Bool, (i.pid == j.pid) = np := ⟨_, rfl⟩
  obtain ⟨nr, hnr⟩ : ∃ nr : Bool, (i.rst == j.rst) = nr := ⟨_, rfl⟩
  obtain ⟨nx, hnx⟩ : ∃ nx : Bool, exB i.code j.code i.sig j.sig i.oom j.oom (tw i.at_) (te i.at_) (tw j.at_) (te j.at_) = nx := ⟨_, rfl⟩
  obtain ⟨nt, hnt⟩ : ∃ nt : Bool, tB (tw i.fld) (te i.fld) (tw j.fld) (te j.fld) = nt := ⟨_, rfl⟩
  have ht : Hid (srB i j = (i.cur.toList == j.cur.toList && np && nr && nx && (i.rsn.toList == j.rsn.toList) && nt)) := by show _ = _; unfold srB; rw [hnp, hnr, hnx, hnt]
  rw [hnx] at C27
  rw [hnt] at C28
  clear hnx hnt
  obtain ⟨C, hC⟩ : ∃ C, C = i.inst := ⟨_, rfl⟩
  obtain ⟨D, hD⟩ : ∃ D, D = j.inst := ⟨_, rfl⟩
  have c6 : C[6]? = some (.string i.cur) := by rw [hC]; rfl
  have c7 : C[7]? = some (.int .i64 i.pid) := by rw [hC]; rfl
  have c8 : C[8]? = some (.int .i64 i.rst) := by rw [hC]; rfl
  have c9 : C[9]? = some (.int .i64 i.code) := by rw [hC]; rfl
  have c10 : C[10]? = some (.string i.sig) := by rw [hC]; rfl
  have c11 : C[11]? = some (.bool i.oom) := by rw [hC]; rfl
  have c12 : C[12]? = some (.int .u64 (tw i.at_)) := by rw [hC]; rfl
  have c13 : C[13]? = some (.int .i64 (te i.at_)) := by rw [hC]; rfl
  have c14 : C[14]? = some (.pointer none) := by rw [hC]; rfl
  have c15 : C[15]? = some (.string i.rsn) := by rw [hC]; rfl
  have c20 : C[20]? = some (.int .u64 (tw i.fld)) := by rw [hC]; rfl
  have c21 : C[21]? = some (.int .i64 (te i.fld)) := by rw [hC]; rfl
  have c22 : C[22]? = some (.pointer none) := by rw [hC]; rfl
  have d6 : D[6]? = some (.string j.cur) := by rw [hD]; rfl
  have d7 : D[7]? = some (.int .i64 j.pid) := by rw [hD]; rfl
  have d8 : D[8]? = some (.int .i64 j.rst) := by rw [hD]; rfl
  have d9 : D[9]? = some (.int .i64 j.code) := by rw [hD]; rfl
  have d10 : D[10]? = some (.string j.sig) := by rw [hD]; rfl
  have d11 : D[11]? = some (.bool j.oom) := by rw [hD]; rfl
  have d12 : D[12]? = some (.int .u64 (tw j.at_)) := by rw [hD]; rfl
  have d13 : D[13]? = some (.int .i64 (te j.at_)) := by rw [hD]; rfl
  have d14 : D[14]? = some (.pointer none) := by rw [hD]; rfl
  have d15 : D[15]? = some (.string j.rsn) := by rw [hD]; rfl
  have d20 : D[20]? = some (.int .u64 (tw j.fld)) := by rw [hD]; rfl
  have d21 : D[21]? = some (.int .i64 (te j.fld)) := by rw [hD]; rfl
  have d22 : D[22]? = some (.pointer none) := by rw [hD]; rfl
  have nC : 0 < C.size := by rw [hC]; simp [inst_size]
  have nD : 0 < D.size := by rw [hD]; simp [inst_size]
  have B1 := hide' (blk_kept (ga _ (.cells D 51)) (blk_new w C 51) nC)
  have B2 := hide' (blk_new (w.alloc (.cells C 51)) D 51)
  rw [show (w.alloc (.cells C 51)).heap.size = w.heap.size + 1 by simp] at B2
  rw [← hC, ← hD]
  clear hC hD
  have NC := hide' nC
  have ND := hide' nD
  clear nC nD
  go_enter Try.func25, Try.ntmps25
  go_wp2_with fail
  · have e1 : i.cur.toList = j.cur.toList := by assumption
    have e2 : np = true := by assumption
    have e3 : nr = true := by assumption
    refine (C27.out _).mono ?_
    rintro e w1 ⟨rfl, hg⟩
    have K1 := blk_kept hg B1.out NC.out
    have K2 := blk_kept hg B2.out ND.out
    have hW := ((ga w (.cells C 51)).trans (ga _ (.cells D 51))).trans hg
    cases nx
    · go_wp2
      go_ret
      exact ⟨rb (x := false) (by rw [ht.out]; simp), hW⟩
    · go_wp2_with fail
      · have e4 : i.rsn.toList = j.rsn.toList := by assumption
        refine (C28.out _).mono ?_
        rintro e w2 ⟨rfl, hg2⟩
        go_wp2
        go_ret
        exact ⟨rb (x := nt) (by rw [ht.out]; simp [e1, e2, e3, e4]), hW.trans hg2⟩
      · have e4 : ¬ i.rsn.toList = j.rsn.toList := by assumption
        go_ret
        exact ⟨rb (x := false) (by rw [ht.out]; simp [e4]), hW⟩
  · have e3 : ¬ nr = true := by assumption
    go_ret
    exact ⟨rb (x := false) (by rw [ht.out]; simp [e3]), (ga _ _).trans (ga _ _)⟩
  · have e3 : ¬ np = true := by assumption
    go_ret
    exact ⟨rb (x := false) (by rw [ht.out]; simp [e3]), (ga _ _).trans (ga _ _)⟩
  · have e3 : ¬ i.cur.toList = j.cur.toList := by assumption
    go_ret
    exact ⟨rb (x := false) (by rw [ht.out]; simp [e3]), (ga _ _).trans (ga _ _)⟩

set_option maxHeartbeats 1000000 in
set_option maxRecDepth 10000 in
/-- ZZsameReported -/
theorem f14 (i j : In) (w : World) : Calls Try.prog 14 #[.agg i.inst, .agg j.inst] w fun e w' => e = .returned (.bool (srB i j)) ∧ w.grownBy w' none := by
  have C25 : Hid (∀ w, Calls _ _ _ _ _) := fun w => f25 i j w
  obtain ⟨C, hC⟩ : ∃ C, C = i.inst := ⟨_, rfl⟩
  obtain ⟨D, hD⟩ : ∃ D, D = j.inst := ⟨_, rfl⟩
  have sC : C.size = 23 := by rw [hC]; rfl
  have sD : D.size = 23 := by rw [hD]; rfl
  rw [← hC, ← hD] at C25 ⊢
  clear hC hD
  have B1 := blk_kept (ga _ (.cells D 51)) (blk_new w C 51) (by omega)
  have B2 := blk_new (w.alloc (.cells C 51)) D 51
  rw [show (w.alloc (.cells C 51)).heap.size = w.heap.size + 1 by simp] at B2
  have R1 := hide' (fun j v (hv : C.toList[j]? = some v) => show ((w.alloc (.cells C 51)).alloc (.cells D 51)).cell? ⟨w.heap.size, 0 + j, none⟩ = some v by rw [Nat.zero_add, B1 j]; simpa using hv)
  have R2 := hide' (fun j v (hv : D.toList[j]? = some v) => show ((w.alloc (.cells C 51)).alloc (.cells D 51)).cell? ⟨w.heap.size + 1, 0 + j, none⟩ = some v by rw [Nat.zero_add, B2 j]; simpa using hv)
  have zC := hide' (show (Try.prog.info? 51).map (·.size) = some C.toList.length by rw [Array.length_toList, sC]; exact size51)
  have zD := hide' (show (Try.prog.info? 51).map (·.size) = some D.toList.length by rw [Array.length_toList, sD]; exact size51)
  clear B1 B2 sC sD
  go_enter Try.func14, Try.ntmps14
  go_wp2_with (first | (refine wpList_load_mid rfl 51 _ rfl w.heap.size 0 rfl C.toList _ R1.out Try.underlying51 rfl zC.out ?_) | (refine wpList_load_mid rfl 51 _ rfl (w.heap.size + 1) 0 rfl D.toList _ R2.out Try.underlying51 rfl zD.out ?_))
  refine (C25.out _).mono ?_
  rintro e w1 ⟨rfl, hg⟩
  go_wp2
  go_ret
  exact ⟨rfl, ((ga _ _).trans (ga _ _)).trans hg⟩

theorem eq34 (c c' : Int) (s s' : ByteArray) (o o' : Bool) (a a' : Int) (w : World) : (binOp .eql 34 (.agg #[.int .i64 c, .string s, .bool o, .int .i64 a]) (.agg #[.int .i64 c', .string s', .bool o', .int .i64 a'])).run Try.prog w
    = .ok (.bool (c == c' && s.toList == s'.toList && o == o' && a == a')) w := by
  by_cases e0 : c = c'
  · by_cases e3 : s.toList = s'.toList
    · by_cases e1 : o = o'
      · by_cases e2 : a = a'
        · simp [go_sem, Try.underlying34, e0, e3, e1, e2]
        · simp [go_sem, Try.underlying34, e0, e3, e1, e2]
      · simp [go_sem, Try.underlying34, e0, e3, e1]
    · simp [go_sem, Try.underlying34, e0, e3]
  · simp [go_sem, Try.underlying34, e0]

/-- what fb1ReportedPartEq asks -/
def partB (i j : In) : Bool := i.cur.toList == j.cur.toList && i.pid == j.pid && i.rst == j.rst && (i.code == j.code && i.sig.toList == j.sig.toList && i.oom == j.oom && i.at_ == j.at_) && i.rsn.toList == j.rsn.toList && i.fld == j.fld

set_option maxHeartbeats 1000000 in
set_option maxRecDepth 10000 in
/-- fb1ReportedPartEq -/
theorem f12 (i j : In) (w : World) : Calls Try.prog 12 #[.agg i.cells, .agg j.cells] w fun e w' => e = .returned (.bool (partB i j)) ∧ w.grownBy w' none := by
  have q34 := fun w => eq34 i.code j.code i.sig j.sig i.oom j.oom i.at_ j.at_ w
  obtain ⟨nx, hnx⟩ : ∃ nx : Bool, (i.code == j.code && i.sig.toList == j.sig.toList && i.oom == j.oom && i.at_ == j.at_) = nx := ⟨_, rfl⟩
  obtain ⟨np, hnp⟩ : ∃ np : Bool, (i.pid == j.pid) = np := ⟨_, rfl⟩
  obtain ⟨nr, hnr⟩ : ∃ nr : Bool, (i.rst == j.rst) = nr := ⟨_, rfl⟩
  obtain ⟨nt, hnt⟩ : ∃ nt : Bool, (i.fld == j.fld) = nt := ⟨_, rfl⟩
  have ht : Hid (partB i j = (i.cur.toList == j.cur.toList && np && nr && nx && (i.rsn.toList == j.rsn.toList) && nt)) := by show _ = _; unfold partB; rw [hnp, hnr, hnx, hnt]
  rw [hnx] at q34
  clear hnx
  obtain ⟨C, hC⟩ : ∃ C, C = i.cells := ⟨_, rfl⟩
  obtain ⟨D, hD⟩ : ∃ D, D = j.cells := ⟨_, rfl⟩
  have c6 : C[6]? = some (.string i.cur) := by rw [hC]; rfl
  have c7 : C[7]? = some (.int .i64 i.pid) := by rw [hC]; rfl
  have c8 : C[8]? = some (.int .i64 i.rst) := by rw [hC]; rfl
  have c9 : C[9]? = some (.int .i64 i.code) := by rw [hC]; rfl
  have c10 : C[10]? = some (.string i.sig) := by rw [hC]; rfl
  have c11 : C[11]? = some (.bool i.oom) := by rw [hC]; rfl
  have c12 : C[12]? = some (.int .i64 i.at_) := by rw [hC]; rfl
  have c13 : C[13]? = some (.string i.rsn) := by rw [hC]; rfl
  have c16 : C[16]? = some (.int .i64 i.fld) := by rw [hC]; rfl
  have d6 : D[6]? = some (.string j.cur) := by rw [hD]; rfl
  have d7 : D[7]? = some (.int .i64 j.pid) := by rw [hD]; rfl
  have d8 : D[8]? = some (.int .i64 j.rst) := by rw [hD]; rfl
  have d9 : D[9]? = some (.int .i64 j.code) := by rw [hD]; rfl
  have d10 : D[10]? = some (.string j.sig) := by rw [hD]; rfl
  have d11 : D[11]? = some (.bool j.oom) := by rw [hD]; rfl
  have d12 : D[12]? = some (.int .i64 j.at_) := by rw [hD]; rfl
  have d13 : D[13]? = some (.string j.rsn) := by rw [hD]; rfl
  have d16 : D[16]? = some (.int .i64 j.fld) := by rw [hD]; rfl
  rw [← hC, ← hD]
  clear hC hD
  go_enter Try.func12, Try.ntmps12
  go_wp2
  all_goals
    go_ret
    refine ⟨rb ?_, (ga _ _).trans (ga _ _)⟩
    rw [ht.out]
    simp_all
end Go.Proofs.Qxb6618727a.tm
