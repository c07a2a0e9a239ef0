import Derived.Test.Qxb6618727aFence
import Derived.Deep.MidRow
import Derived.Deep.WholeRow
import Derived.Deep.DeepCutAuto
namespace Go.Proofs.Qxb6618727a.tm
open Go.RowKit

/-- an instance in plain data, as its cells -/
structure In where
  name : ByteArray
  host : ByteArray
  ca : Option Addr
  cl : Nat
  cc : Nat
  cpus : Int
  mem : Int
  des : ByteArray
  cur : ByteArray
  pid : Int
  rst : Int
  code : Int
  sig : ByteArray
  oom : Bool
  at_ : Int
  rsn : ByteArray
  id : Int
  str : Int
  fld : Int

def In.cells (i : In) : Array Value :=
  #[.string i.name, .string i.host, .slice i.ca i.cl i.cc, .int .i64 i.cpus, .int .u64 i.mem, .string i.des, .string i.cur, .int .i64 i.pid, .int .i64 i.rst,
    .int .i64 i.code, .string i.sig, .bool i.oom, .int .i64 i.at_, .string i.rsn, .int .u64 i.id, .int .i64 i.str, .int .i64 i.fld]

/-- the strings of its command can be read -/
def Cmds (w : World) (a : Option Addr) (n : Nat) : Prop :=
  n ≤ maxLen ∧ (0 < n → ∃ g o, a = some ⟨g, o, none⟩ ∧ ∀ k, k < n → ∃ s : ByteArray, w.cell? ⟨g, o + k, none⟩ = some (.string s) ∧ s.size ≤ maxLen)

structure In.Ok (i : In) (w : World) : Prop where
  z1 : i.name.size ≤ maxLen
  z2 : i.host.size ≤ maxLen
  z3 : i.des.size ≤ maxLen
  z4 : i.cur.size ≤ maxLen
  z5 : i.sig.size ≤ maxLen
  z6 : i.rsn.size ≤ maxLen
  cmds : Cmds w i.ca i.cl
  t1 : -9223372036854775808 ≤ i.at_ ∧ i.at_ ≤ 9223372036854775807
  t2 : -9223372036854775808 ≤ i.str ∧ i.str ≤ 9223372036854775807
  t3 : -9223372036854775808 ≤ i.fld ∧ i.fld ≤ 9223372036854775807

theorem Cmds.kept {w w1 : World} {a : Option Addr} {n : Nat} (h : Cmds w a n) (hg : w.grownBy w1 none) : Cmds w1 a n :=
  ⟨h.1, fun hn => by
    obtain ⟨g, o, e, hk⟩ := h.2 hn
    exact ⟨g, o, e, fun k hlt => by
      obtain ⟨s, h1, h2⟩ := hk k hlt
      exact ⟨s, hg.cell h1 (by simp), h2⟩⟩⟩

set_option maxHeartbeats 1000000 in
/-- fb1StrsBytes -/
theorem f22 (a : Int) (ca : Option Addr) (cl cc : Nat) (w : World) (h0 : 0 ≤ a) (h1 : a ≤ 2097152) (hc : Cmds w ca cl) :
    Calls Try.prog 22 #[.int .i64 a, .slice ca cl cc] w fun e w' => ∃ r : Int, e = .returned (.int .i64 r) ∧ 0 ≤ r ∧ r ≤ 2097152 ∧ w' = w := by
  obtain ⟨hm, hs⟩ := hc
  unfold maxLen at hm
  go_enter Try.func22, Try.ntmps22
  go_wp2_with fail
  all_goals first | (go_ret; exact ⟨_, rfl, by omega, by omega, rfl⟩) | skip
  refine (f17 _ _ _ (by omega) (by omega) (by omega)).mono ?_
  rintro e w1 ⟨r, rfl, hr, hr', rfl⟩
  go_wp2_with fail
  go_loopw [0, 5] (fun n i wr => ∃ (z : Int) (k : Nat), n = .int .i64 z ∧ 0 ≤ z ∧ z ≤ 2097152 ∧ i = .int .i64 k ∧ k ≤ cl ∧ wr = w1) (fun _ i _ => cl - (intOf i).toNat)
  case atStart => exact ⟨r, 0, rfl, hr, hr', rfl, Nat.zero_le _, rfl⟩
  case round =>
    obtain ⟨z, k, rfl, hz, hz', rfl, hk, rfl⟩ := hrel
    by_cases hlt : k < cl
    · obtain ⟨g, o, rfl, hcs⟩ := hs (by omega)
      obtain ⟨t, hcell, ht⟩ := hcs k hlt
      unfold maxLen at ht
      clear hcs hs
      by_cases hbig : 1048576 < z
      · go_wp2
        go_ret
        exact ⟨_, rfl, by omega, by omega, rfl⟩
      · go_wp2_with fail
        refine (f17 _ _ _ (by omega) (by omega) (by omega)).mono ?_
        rintro e w2 ⟨r2, rfl, hr2, hr2', rfl⟩
        go_wp2
        go_roundw
        case rel => exact ⟨r2, k + 1, rfl, hr2, hr2', by go_num, by omega, by trivial⟩
        case measure => simp [intOf]; omega
    · clear hs
      go_wp2
      go_ret
      exact ⟨_, rfl, by omega, by omega, rfl⟩

set_option maxHeartbeats 1000000 in
/-- fb1InstBytes -/
theorem f11 (a : Int) (i : In) (w : World) (h0 : 0 ≤ a) (h1 : a ≤ 2097152) (hi : i.Ok w) :
    Calls Try.prog 11 #[.int .i64 a, .agg i.cells] w fun e w' => ∃ r : Int, e = .returned (.int .i64 r) ∧ 0 ≤ r ∧ r ≤ 2097152 ∧ w.grownBy w' none := by
  obtain ⟨z1, z2, z3, z4, z5, z6, hcm, -, -, -⟩ := hi
  have hcm' := hcm.kept (ga w (.cells i.cells 36))
  clear hcm
  unfold maxLen at z1 z2 z3 z4 z5 z6
  obtain ⟨A, hA⟩ : ∃ A, A = i.cells := ⟨_, rfl⟩
  have i0 : A[0]? = some (.string i.name) := by rw [hA]; rfl
  have i1 : A[1]? = some (.string i.host) := by rw [hA]; rfl
  have i2 : A[2]? = some (.slice i.ca i.cl i.cc) := by rw [hA]; rfl
  have i5 : A[5]? = some (.string i.des) := by rw [hA]; rfl
  have i6 : A[6]? = some (.string i.cur) := by rw [hA]; rfl
  have i10 : A[10]? = some (.string i.sig) := by rw [hA]; rfl
  have i13 : A[13]? = some (.string i.rsn) := by rw [hA]; rfl
  rw [← hA] at hcm' ⊢
  clear hA
  go_enter Try.func11, Try.ntmps11
  go_wp2_with fail
  refine (f17 _ _ _ (by omega) (by omega) (by omega)).mono ?_
  rintro e w2 ⟨r2, rfl, hr2, hr2', rfl⟩
  go_wp2_with fail
  refine (f17 _ _ _ (by omega) (by omega) (by omega)).mono ?_
  rintro e w2 ⟨r3, rfl, hr3, hr3', rfl⟩
  go_wp2_with fail
  refine (f17 _ _ _ (by omega) (by omega) (by omega)).mono ?_
  rintro e w2 ⟨r4, rfl, hr4, hr4', rfl⟩
  go_wp2_with fail
  refine (f17 _ _ _ (by omega) (by omega) (by omega)).mono ?_
  rintro e w2 ⟨r5, rfl, hr5, hr5', rfl⟩
  go_wp2_with fail
  refine (f17 _ _ _ (by omega) (by omega) (by omega)).mono ?_
  rintro e w2 ⟨r6, rfl, hr6, hr6', rfl⟩
  go_wp2_with fail
  refine (f17 _ _ _ (by omega) (by omega) (by omega)).mono ?_
  rintro e w2 ⟨r7, rfl, hr7, hr7', rfl⟩
  go_wp2_with fail
  refine (f22 _ _ _ _ _ (by omega) (by omega) hcm').mono ?_
  rintro e w2 ⟨r8, rfl, hr8, hr8', rfl⟩
  go_wp2
  go_ret
  exact ⟨_, rfl, hr8, hr8', ga _ _⟩

def IsB (e : Ending) : Prop := ∃ r : Bool, e = .returned (.bool r)

set_option maxHeartbeats 8000000 in
set_option maxRecDepth 20000 in
/-- zzBytes_.. -/
theorem f10 (i j k : In) (w : World) (hi : i.Ok w) (hj : j.Ok w) (hk : k.Ok w) :
    Calls Try.prog 10 #[.agg i.cells, .agg j.cells, .agg k.cells] w fun e w' => IsB e ∧ w.grownBy w' none := by
  obtain ⟨z1, z2, z3, z4, z5, z6, hcm, -, -, -⟩ := hi
  obtain ⟨y1, y2, y3, y4, y5, y6, hcn, -, -, -⟩ := hj
  obtain ⟨x1, x2, x3, x4, x5, x6, hco, -, -, -⟩ := hk
  unfold maxLen at z1 z2 z3 z4 z5 z6 y1 y2 y3 y4 y5 y6 x1 x2 x3 x4 x5 x6
  obtain ⟨A, hA⟩ : ∃ A, A = i.cells := ⟨_, rfl⟩
  obtain ⟨B, hB⟩ : ∃ B, B = j.cells := ⟨_, rfl⟩
  obtain ⟨C, hC⟩ : ∃ C, C = k.cells := ⟨_, rfl⟩
  rw [← hA, ← hB, ← hC]
  obtain ⟨nm1, ho1, ca1, cl1, cc1, cp1, me1, de1, cu1, pi1, rs1, co1, si1, oo1, at1, rn1, id1, st1, fl1⟩ := i
  obtain ⟨nm2, ho2, ca2, cl2, cc2, cp2, me2, de2, cu2, pi2, rs2, co2, si2, oo2, at2, rn2, id2, st2, fl2⟩ := j
  obtain ⟨nm3, ho3, ca3, cl3, cc3, cp3, me3, de3, cu3, pi3, rs3, co3, si3, oo3, at3, rn3, id3, st3, fl3⟩ := k
  dsimp only at z1 z2 z3 z4 z5 z6 y1 y2 y3 y4 y5 y6 x1 x2 x3 x4 x5 x6 hcm hcn hco
  have a0 : A[0]? = some (.string nm1) := by rw [hA]; rfl
  have a1 : A[1]? = some (.string ho1) := by rw [hA]; rfl
  have a2 : A[2]? = some (.slice ca1 cl1 cc1) := by rw [hA]; rfl
  have a5 : A[5]? = some (.string de1) := by rw [hA]; rfl
  have a6 : A[6]? = some (.string cu1) := by rw [hA]; rfl
  have a10 : A[10]? = some (.string si1) := by rw [hA]; rfl
  have a13 : A[13]? = some (.string rn1) := by rw [hA]; rfl
  have nA : 0 < A.size := by rw [hA]; simp [In.cells]
  have b0 : B[0]? = some (.string nm2) := by rw [hB]; rfl
  have b1 : B[1]? = some (.string ho2) := by rw [hB]; rfl
  have b2 : B[2]? = some (.slice ca2 cl2 cc2) := by rw [hB]; rfl
  have b5 : B[5]? = some (.string de2) := by rw [hB]; rfl
  have b6 : B[6]? = some (.string cu2) := by rw [hB]; rfl
  have b10 : B[10]? = some (.string si2) := by rw [hB]; rfl
  have b13 : B[13]? = some (.string rn2) := by rw [hB]; rfl
  have nB : 0 < B.size := by rw [hB]; simp [In.cells]
  have c0 : C[0]? = some (.string nm3) := by rw [hC]; rfl
  have c1 : C[1]? = some (.string ho3) := by rw [hC]; rfl
  have c2 : C[2]? = some (.slice ca3 cl3 cc3) := by rw [hC]; rfl
  have c5 : C[5]? = some (.string de3) := by rw [hC]; rfl
  have c6 : C[6]? = some (.string cu3) := by rw [hC]; rfl
  have c10 : C[10]? = some (.string si3) := by rw [hC]; rfl
  have c13 : C[13]? = some (.string rn3) := by rw [hC]; rfl
  have nC : 0 < C.size := by rw [hC]; simp [In.cells]
  clear hA hB hC
  go_enter Try.func10, Try.ntmps10
  go_upto_region 1 with fail
  go_cut [7] (fun z wc => z = .int .i64 0 ∧ (∀ j, wc.cell? ⟨w.heap.size, j, none⟩ = A[j]?) ∧ (∀ j, wc.cell? ⟨w.heap.size + 1, j, none⟩ = B[j]?) ∧ (∀ j, wc.cell? ⟨w.heap.size + 1 + 1, j, none⟩ = C[j]?) ∧ w.grownBy wc none)
  case first =>
    go_wp2
    go_meet
    case rel =>
      refine ⟨rfl, blk_kept ((ga _ _).trans (ga _ _)) (blk_new w A 36) nA, ?_, ?_, ((ga _ _).trans (ga _ _)).trans (ga _ _)⟩
      · have := blk_kept (ga _ (.cells C 36)) (blk_new (w.alloc (.cells A 36)) B 36) nB
        rwa [show (w.alloc (.cells A 36)).heap.size = w.heap.size + 1 by simp] at this
      · have := blk_new ((w.alloc (.cells A 36)).alloc (.cells B 36)) C 36
        rwa [show ((w.alloc (.cells A 36)).alloc (.cells B 36)).heap.size = w.heap.size + 1 + 1 by simp] at this
  case rest =>
    obtain ⟨hz, K1, K2, K3, hg⟩ := hcut
    subst hz
    have HG : Hid (w.grownBy wc none) := hg
    have H1 := hcm.kept hg
    have H2 := hcn.kept hg
    have H3 := hco.kept hg
    clear hcm hcn hco hg nA nB nC
    obtain ⟨m1, s1⟩ := H1
    obtain ⟨m2, s2⟩ := H2
    obtain ⟨m3, s3⟩ := H3
    have S1 : Hid (_ → _) := s1
    have S2 : Hid (_ → _) := s2
    have S3 : Hid (_ → _) := s3
    clear s1 s2 s3
    unfold maxLen at m1 m2 m3
    go_wp2_with fail
    all_goals first | (go_ret; exact ⟨⟨_, rfl⟩, HG.out⟩) | skip
    go_loop [7, 8] (fun n c => ∃ (z : Int) (q : Nat), n = .int .i64 z ∧ 0 ≤ z ∧ z ≤ 1048576 ∧ c = .int .i64 q ∧ q ≤ cl1) (fun _ c => cl1 - (intOf c).toNat)
    case atStart => exact ⟨_, 0, rfl, by omega, by omega, rfl, Nat.zero_le _⟩
    case round =>
      obtain ⟨z, q, rfl, hz, hz', rfl, hq⟩ := hrel
      by_cases hlt : q < cl1
      · obtain ⟨g, o, rfl, hcs⟩ := S1.out (by omega)
        obtain ⟨t, hcell, ht⟩ := hcs q hlt
        unfold maxLen at ht
        clear hcs
        go_wp2_with fail
        all_goals first | (go_ret; exact ⟨⟨_, rfl⟩, HG.out⟩) | exact ⟨⟨_, q + 1, rfl, by omega, by omega, by go_num, by omega⟩, by simp [intOf]; omega⟩
      · go_wp2_with fail
        all_goals first | (go_ret; exact ⟨⟨_, rfl⟩, HG.out⟩) | skip
        go_loop [7, 9] (fun n c => ∃ (z : Int) (q : Nat), n = .int .i64 z ∧ 0 ≤ z ∧ z ≤ 1048576 ∧ c = .int .i64 q ∧ q ≤ cl2) (fun _ c => cl2 - (intOf c).toNat)
        case atStart => exact ⟨_, 0, rfl, by omega, by omega, rfl, Nat.zero_le _⟩
        case round =>
          obtain ⟨z, q, rfl, hz, hz', rfl, hq⟩ := hrel
          by_cases hlt : q < cl2
          · obtain ⟨g, o, rfl, hcs⟩ := S2.out (by omega)
            obtain ⟨t, hcell, ht⟩ := hcs q hlt
            unfold maxLen at ht
            clear hcs
            go_wp2_with fail
            all_goals first | (go_ret; exact ⟨⟨_, rfl⟩, HG.out⟩) | exact ⟨⟨_, q + 1, rfl, by omega, by omega, by go_num, by omega⟩, by simp [intOf]; omega⟩
          · go_wp2_with fail
            all_goals first | (go_ret; exact ⟨⟨_, rfl⟩, HG.out⟩) | skip
            go_loop [7, 10] (fun n c => ∃ (z : Int) (q : Nat), n = .int .i64 z ∧ 0 ≤ z ∧ z ≤ 1048576 ∧ c = .int .i64 q ∧ q ≤ cl3) (fun _ c => cl3 - (intOf c).toNat)
            case atStart => exact ⟨_, 0, rfl, by omega, by omega, rfl, Nat.zero_le _⟩
            case round =>
              obtain ⟨z, q, rfl, hz, hz', rfl, hq⟩ := hrel
              by_cases hlt : q < cl3
              · obtain ⟨g, o, rfl, hcs⟩ := S3.out (by omega)
                obtain ⟨t, hcell, ht⟩ := hcs q hlt
                unfold maxLen at ht
                clear hcs
                go_wp2_with fail
                all_goals first | (go_ret; exact ⟨⟨_, rfl⟩, HG.out⟩) | exact ⟨⟨_, q + 1, rfl, by omega, by omega, by go_num, by omega⟩, by simp [intOf]; omega⟩
              · go_wp2_with fail
                all_goals first | (go_ret; exact ⟨⟨_, rfl⟩, HG.out⟩) | skip
end Go.Proofs.Qxb6618727a.tm
