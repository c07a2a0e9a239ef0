import Derived.Test.Qxb6618727aBlk
namespace Go.Proofs.Qxb6618727a.blk
open Go.RowKit Go.Proofs.Qxb6618727a.tm

set_option maxHeartbeats 1000000 in
/-- fb1Exit -/
theorem f24 (cd : Int) (sg : ByteArray) (om : Bool) (d : Int) (w : World) (h1 : -9223372036854775808 ≤ d) (h2 : d ≤ 9223372036854775807) :
    Calls Try.prog 24 #[.agg #[.int .i64 cd, .string sg, .bool om, .int .i64 d]] w fun e w' => e = .returned (.agg #[.int .i64 cd, .string sg, .bool om, .int .u64 (tw d), .int .i64 (te d), .pointer none]) ∧ w.grownBy w' none := by
  have HH : Hid (∀ w, Calls _ _ _ _ _) := fun w => f19 d w h1 h2
  clear h1 h2
  have B0 := blk_kept ((ga _ (.cells #[.int .i64 0, .string ⟨#[]⟩, .bool false, .int .u64 0, .int .i64 0, .pointer none] 47)).trans (gd _)) (blk_new w #[.int .i64 cd, .string sg, .bool om, .int .i64 d] 34) (by simp)
  have R0 := blk_kept (gd _) (blk_new (w.alloc (.cells #[.int .i64 cd, .string sg, .bool om, .int .i64 d] 34)) #[.int .i64 0, .string ⟨#[]⟩, .bool false, .int .u64 0, .int .i64 0, .pointer none] 47) (by simp)
  have F0 := frz_kept (gd _) (blk_new (w.alloc (.cells #[.int .i64 cd, .string sg, .bool om, .int .i64 d] 34)) #[.int .i64 0, .string ⟨#[]⟩, .bool false, .int .u64 0, .int .i64 0, .pointer none] 47) (by simp) (frz_new _ _ _)
  have hs : (w.alloc (.cells #[.int .i64 cd, .string sg, .bool om, .int .i64 d] 34)).heap.size = w.heap.size + 1 := by simp
  rw [hs] at R0 F0
  clear hs
  have HR := hide' (And.intro R0 F0)
  have HB := hide' B0
  clear R0 F0 B0
  go_enter Try.func24, Try.ntmps24
  go_wp2
  go_region_held (fun w' => ∀ j, w'.cell? ⟨w.heap.size, j, none⟩ = (#[.int .i64 cd, .string sg, .bool om, .int .i64 d] : Array Value)[j]?)
    (first | with_reducible exact HB.out | with_reducible exact KB | ((repeat (with_reducible refine blk_set (by simp) ?_)); with_reducible exact KB))
    (first | (go_at_call 19; refine (HH.out _).mono ?_; rintro e w2 ⟨rfl, hg⟩; have KB := blk_kept hg HB.out (by simp); obtain ⟨r0, r1, r2, r3, r4, r5⟩ := blk6 (blk_kept hg HR.out.1 (by simp)); obtain ⟨s0, s1, s2, s3, s4, s5⟩ := frz6 (frz_kept hg HR.out.1 (by simp) HR.out.2)))
  have hW : w.grownBy w2 none := (((ga _ _).trans (ga _ _)).trans (gd _)).trans hg
  clear HR HB KB HH
  go_wp2
  refine bodyPost_ret (v := .agg #[.int .i64 cd, .string sg, .bool om, .int .u64 (tw d), .int .i64 (te d), .pointer none]) (by simp [results, Try.results24, go_sem, r0, r1, r2, r3, r4, r5]) rfl ⟨rfl, ?_⟩
  repeat (with_reducible refine gs ?_ (Nat.le_succ _) _)
  exact hW
end Go.Proofs.Qxb6618727a.blk
