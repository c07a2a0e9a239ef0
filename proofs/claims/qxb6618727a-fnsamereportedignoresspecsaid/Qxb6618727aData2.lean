import Derived.Test.Qxb6618727aMk
import Derived.Test.Qxb6618727aSame
namespace Go.Proofs.Qxb6618727a.blk
open Go.RowKit Go.Proofs.Qxb6618727a.tm

def zero51 : Array Value := #[.string ⟨#[]⟩, .string ⟨#[]⟩, .slice none 0 0, .int .i64 0, .int .u64 0, .string ⟨#[]⟩, .string ⟨#[]⟩, .int .i64 0, .int .i64 0, .int .i64 0, .string ⟨#[]⟩, .bool false, .int .u64 0, .int .i64 0, .pointer none, .string ⟨#[]⟩, .int .u64 0, .int .u64 0, .int .i64 0, .pointer none, .int .u64 0, .int .i64 0, .pointer none]

set_option maxHeartbeats 4000000 in
set_option maxRecDepth 10000 in
/-- fb1Inst -/
theorem f13 (i : In) (w : World) (hi : i.Ok w) : Calls Try.prog 13 #[.agg i.cells] w fun e w' => e = .returned (.agg i.inst) ∧ w.grownBy w' none := by
  have C24 : Hid (∀ w, Calls _ _ _ _ _) := fun w => f24 i.code i.sig i.oom i.at_ w hi.t1.1 hi.t1.2
  have C1 : Hid (∀ w, Calls _ _ _ _ _) := fun w => f19 i.str w hi.t2.1 hi.t2.2
  have C2 : Hid (∀ w, Calls _ _ _ _ _) := fun w => f19 i.fld w hi.t3.1 hi.t3.2
  clear hi
  obtain ⟨A, hA⟩ : ∃ A, A = i.cells := ⟨_, rfl⟩
  have a0 : A[0]? = some (.string i.name) := by rw [hA]; rfl
  have a1 : A[1]? = some (.string i.host) := by rw [hA]; rfl
  have a2 : A[2]? = some (.slice i.ca i.cl i.cc) := by rw [hA]; rfl
  have a3 : A[3]? = some (.int .i64 i.cpus) := by rw [hA]; rfl
  have a4 : A[4]? = some (.int .u64 i.mem) := by rw [hA]; rfl
  have a5 : A[5]? = some (.string i.des) := by rw [hA]; rfl
  have a6 : A[6]? = some (.string i.cur) := by rw [hA]; rfl
  have a7 : A[7]? = some (.int .i64 i.pid) := by rw [hA]; rfl
  have a8 : A[8]? = some (.int .i64 i.rst) := by rw [hA]; rfl
  have a9 : A[9]? = some (.int .i64 i.code) := by rw [hA]; rfl
  have a10 : A[10]? = some (.string i.sig) := by rw [hA]; rfl
  have a11 : A[11]? = some (.bool i.oom) := by rw [hA]; rfl
  have a12 : A[12]? = some (.int .i64 i.at_) := by rw [hA]; rfl
  have a13 : A[13]? = some (.string i.rsn) := by rw [hA]; rfl
  have a14 : A[14]? = some (.int .u64 i.id) := by rw [hA]; rfl
  have a15 : A[15]? = some (.int .i64 i.str) := by rw [hA]; rfl
  have a16 : A[16]? = some (.int .i64 i.fld) := by rw [hA]; rfl
  have nA := hide' (show 0 < A.size by rw [hA]; simp [In.cells])
  rw [← hA]
  clear hA
  obtain ⟨C, hC⟩ : ∃ C : Array Value, C = i.inst := ⟨_, rfl⟩
  have sC : C.size = 23 := by rw [hC]; rfl
  have oC : C.all (·.oneCell') = true := by rw [hC]; exact inst_one i
  have hst := run_storeRow (P := Try.prog) C 23 sC oC
  have hC' : #[.string i.name, .string i.host, .slice i.ca i.cl i.cc, .int .i64 i.cpus, .int .u64 i.mem, .string i.des, .string i.cur, .int .i64 i.pid, .int .i64 i.rst,
    .int .i64 i.code, .string i.sig, .bool i.oom, .int .u64 (tw i.at_), .int .i64 (te i.at_), .pointer none, .string i.rsn, .int .u64 i.id,
    .int .u64 (tw i.str), .int .i64 (te i.str), .pointer none, .int .u64 (tw i.fld), .int .i64 (te i.fld), .pointer none] = C := by rw [hC]; rfl
  have hset : C.setIfInBounds 22 (.pointer none) = C := by rw [hC]; simp [In.inst]
  rw [← hC]
  have HC := hide' hC
  clear hC oC
  have B0 := hide' (blk_kept ((ga _ (.cells zero51 51)).trans (gd _)) (blk_new w A 36) nA.out)
  have R0 := hide' (show Row ((w.alloc (.cells A 36)).alloc (.cells zero51 51)).drew (w.heap.size + 1) 23 from Row.kept (Row.new (by simp) rfl) (gd _))
  unfold zero51 at B0 R0
  go_enter Try.func13, Try.ntmps13
  go_wp2
  go_region_held (fun w' => ∀ j, w'.cell? ⟨w.heap.size, j, none⟩ = A[j]?)
    (first
      | with_reducible exact B0.out
      | with_reducible exact KB.out
      | with_reducible exact blk_setRow_other _ (Nat.ne_of_lt (Nat.lt_succ_self _)) KB.out)
    (first
      | (go_at_call 24; refine (C24.out _).mono ?_; rintro e w1 ⟨rfl, hg⟩; have KB := hide' (blk_kept hg B0.out nA.out); have HR := hide' (Row.kept R0.out hg); have HG := hide' (((ga _ _).trans (ga _ _)).trans (gd _) |>.trans hg))
      | (go_at_call_of 19 (Value.int IntKind.i64 i.str); refine (C1.out _).mono ?_; rintro e w2 ⟨rfl, hg⟩; have KB := hide' (blk_kept hg KB.out nA.out); have HR := hide' (Row.kept HR.out hg); have HG := hide' (HG.out.trans hg))
      | (go_at_call_of 19 (Value.int IntKind.i64 i.fld); refine (C2.out _).mono ?_; rintro e w3 ⟨rfl, hg⟩; have KB := hide' (blk_kept hg KB.out nA.out); have hrow := Row.kept HR.out hg; have HG := hide' (HG.out.trans hg)))
  clear hst hC' sC
  go_wp2
  refine bodyPost_ret (v := .agg C) (results_cell Try.results13 rfl (blk_setRow_same C hrow) Try.underlying51 rfl (by rw [HC.out, inst_size]; exact size51)) rfl ⟨rfl, gset HG.out (Nat.le_succ _) C⟩
end Go.Proofs.Qxb6618727a.blk
