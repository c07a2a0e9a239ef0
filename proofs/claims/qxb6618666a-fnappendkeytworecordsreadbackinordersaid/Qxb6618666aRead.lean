import Derived.Test.Qxb6618666aWalks
import Derived.Lib.Varint
import Derived.Lib.VarintBits
import Derived.Test.Qxb6618666aPlain
namespace Go.Proofs.Qxb6618666a.walks
open Go.RowKit Go.Proofs.Qxb6618666a.mem

theorem tuple3 {a a' b b' : Int} (h : a = a') (h' : b = b') : Ending.returned (.tuple #[.int .u64 a, .int .i64 b, .bool true]) = .returned (.tuple #[.int .u64 a', .int .i64 b', .bool true]) := by rw [h, h']

set_option maxHeartbeats 1000000 in
set_option maxRecDepth 10000 in
/-- zzReadUvarint -/
theorem f25 (g o n cap pos x : Nat) (L pre post : List UInt8) (w : World) (hL : L = pre ++ Lib.uvarint x ++ post) (hn : L.length = n) (hp : pre.length = pos) (hx : x < 18446744073709551616) (hnm : n ≤ 1073741824)
    (hc : ∀ i, i < n → w.cell? ⟨g, o + i, none⟩ = some (.int .u8 ((L.getD i 0).toNat : Int))) :
    Calls Try.prog 25 #[.slice (some ⟨g, o, none⟩) n cap, .int .i64 pos] w fun e w' => e = .returned (.tuple #[.int .u64 x, .int .i64 ((pos + (Lib.uvarint x).length : Nat) : Int), .bool true]) ∧ w' = w := by
  have hlen := Lib.uvarint_length64 hx
  have hlen' : pos + (Lib.uvarint x).length ≤ n := by rw [← hn, hL, ← hp]; simp
  go_enter Try.func25, Try.ntmps25
  go_wp2
  go_loop [1, 7, 8, 9] (fun p a s k => ∃ (j y : Nat), j ≤ 9 ∧ k = .int .i64 j ∧ p = .int .i64 ((pos + j : Nat) : Int) ∧ s = .int .u64 ((7 * j : Nat) : Int) ∧ a = .int .u64 ((x % 128 ^ j : Nat) : Int) ∧ y = x / 128 ^ j ∧ (0 < j → 0 < y) ∧ (Lib.uvarint x).length = j + (Lib.uvarint y).length ∧ Lib.uvarint y = (Lib.uvarint x).drop j)
    (fun _ _ _ k => 10 - (intOf k).toNat)
  case atStart => exact ⟨0, x, by omega, rfl, rfl, rfl, by simp [Nat.mod_one], by simp, by omega, by simp, rfl⟩
  case round =>
    obtain ⟨j, y, hj, rfl, rfl, rfl, rfl, hy, hy0, hly, hdr⟩ := hrel
    have hyp := Lib.uvarint_pos y
    have hbyte : w.cell? ⟨g, o + (pos + j), none⟩ = some (.int .u8 (((Lib.uvarint y).getD 0 0).toNat : Int)) := by
      rw [hc (pos + j) (by omega), hdr, ← hp, plain.byte_at L pre post _ j hL (by omega)]
    have HX : Hid (y = x / 128 ^ j) := hy
    have HD : Hid (Lib.uvarint y = (Lib.uvarint x).drop j) := hdr
    have HL : Hid ((Lib.uvarint x).length = j + (Lib.uvarint y).length) := hly
    have hin : pos + j < n := by omega
    clear hc hy hdr hly hL hn hp
    obtain ⟨A, hA⟩ : ∃ A, Hid (A = x % 128 ^ j) := ⟨_, rfl⟩
    rw [← hA.out]
    by_cases h128 : 128 ≤ y
    · obtain ⟨c, hc⟩ : ∃ c, Hid (c = y % 128 + 128) := ⟨_, rfl⟩
      have hb : w.cell? ⟨g, o + (pos + j), none⟩ = some (.int .u8 (c : Int)) := by rw [hbyte, plain.head_big h128, hc.out]
      have c1 : c < 256 := by rw [hc.out]; omega
      have c2 : 128 ≤ c := by rw [hc.out]; omega
      have hj8 := plain.big_nine hx hj HX.out h128
      clear hbyte
      go_wp2_with fail
      refine ⟨⟨j + 1, y / 128, by omega, by go_num, by go_num, by go_num, ?_, plain.div_step x j y HX.out, by omega, ?_, ?_⟩, by simp [intOf]; omega⟩
      · rw [plain.mask c c1, hA.out, plain.or_acc x j hx (c % 128) (by rw [hc.out, ← HX.out]; omega)]
      · rw [HL.out, plain.len_big h128]; omega
      · rw [← plain.tail_big h128, HD.out, List.drop_drop]
    · have hb : w.cell? ⟨g, o + (pos + j), none⟩ = some (.int .u8 (y : Int)) := by rw [hbyte, plain.head_small (by omega)]
      have hres : Hid (bits BinOp.or IntKind.u64 (A : Int) (IntKind.u64.wrap ((y : Int) * 2 ^ (7 * j))) = (x : Int)) := by
        show _ = _
        rw [hA.out, plain.or_acc x j hx y (by rw [← HX.out]; omega), plain.whole x j y HX.out (by omega)]
      have hend : Hid ((Lib.uvarint x).length = j + 1) := by
        show _ = _
        rw [HL.out, plain.len_small (by omega)]
      clear hbyte hyp
      rcases (show j ≤ 0 ∨ (1 ≤ j ∧ j ≤ 8) ∨ 9 ≤ j by omega) with h0 | ⟨h0, h8⟩ | h9
      · clear hy0
        go_wp2_with fail
        go_ret3
        exact ⟨tuple3 hres.out (by rw [hend.out]; omega), rfl⟩
      · have hy1 : 0 < y := hy0 (by omega)
        go_wp2_with fail
        go_ret3
        exact ⟨tuple3 hres.out (by rw [hend.out]; omega), rfl⟩
      · have hy1 : 0 < y := hy0 (by omega)
        have hy9 : y ≤ 1 := plain.nine_small hx (by rw [HX.out]; congr 2; omega)
        go_wp2_with fail
        go_ret3
        exact ⟨tuple3 (plain.nine_res hres.out (by omega) hy9) (by rw [hend.out]; omega), rfl⟩
end Go.Proofs.Qxb6618666a.walks
