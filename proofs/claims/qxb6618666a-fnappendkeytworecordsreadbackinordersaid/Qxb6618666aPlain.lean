/- plain facts on varints and lists: no dump -/
import Derived.Lib.Varint
import Derived.Lib.VarintBits
import Derived.Lib.VarintMem
namespace Go.Proofs.Qxb6618666a.plain

theorem pow_nat (j : Nat) : 2 ^ (7 * j) = 128 ^ j := by rw [Nat.pow_mul]
theorem pow_int (j : Nat) : (2 : Int) ^ (7 * j) = ((128 ^ j : Nat) : Int) := by rw [← pow_nat, Int.natCast_pow]; rfl

theorem or_acc (x j : Nat) (hx : x < 18446744073709551616) (d : Nat) (hd : d = x / 128 ^ j % 128) :
    bits .or .u64 ((x % 128 ^ j : Nat) : Int) (IntKind.u64.wrap ((d : Int) * 2 ^ (7 * j))) = ((x % 128 ^ (j + 1) : Nat) : Int) := by
  have e0 : ((d : Int) * 2 ^ (7 * j)) = ((d * 128 ^ j : Nat) : Int) := by rw [Int.natCast_mul, pow_int]
  have hle : d * 128 ^ j ≤ x := by
    have h1 : d ≤ x / 128 ^ j := by rw [hd]; exact Nat.mod_le _ _
    exact Nat.le_trans (Nat.mul_le_mul_right _ h1) (Nat.div_mul_le_self x (128 ^ j))
  have hpos : 0 < 128 ^ j := Nat.pow_pos (by decide)
  have hm : x % 128 ^ j < 128 ^ j := Nat.mod_lt _ hpos
  have hm' : x % 128 ^ j ≤ x := Nat.mod_le _ _
  have hs : x % 128 ^ (j + 1) = x % 128 ^ j + d * 128 ^ j := by rw [Nat.mod_pow_succ, hd, Nat.mul_comm]
  have hz : (d * 128 ^ j) % 128 ^ j = 0 := Nat.mul_mod_left _ _
  rw [hs, e0]
  clear hs e0 hd
  generalize d * 128 ^ j = D at *
  generalize x % 128 ^ j = M at *
  rw [u64_wrap_id _ (by omega) (by omega)]
  rw [bits_join_low .u64 64 (by decide) wraps_u64 (7 * j) (M : Int) (D : Int) (by omega) (by rw [pow_int]; omega) (by omega) (by omega) (by rw [pow_int]; omega) (by omega)]
  omega

/-- the byte at place j of what is being read -/
theorem byte_at (L pre post : List UInt8) (u : List UInt8) (j : Nat) (hL : L = pre ++ u ++ post) (hj : j < u.length) : L.getD (pre.length + j) 0 = (u.drop j).getD 0 0 := by
  subst hL
  simp only [List.getD_eq_getElem?_getD, List.append_assoc]
  rw [List.getElem?_append_right (by omega), List.getElem?_append_left (by omega), List.getElem?_drop]
  simp

theorem head_big {y : Nat} (h : 128 ≤ y) : ((Lib.uvarint y).getD 0 0).toNat = y % 128 + 128 := by
  rw [Lib.uvarint_big h]
  exact Lib.toUInt8_toNat (by omega)
theorem head_small {y : Nat} (h : y < 128) : ((Lib.uvarint y).getD 0 0).toNat = y := by
  rw [Lib.uvarint_small h]
  exact Lib.toUInt8_toNat (by omega)
theorem tail_big {y : Nat} (h : 128 ≤ y) : (Lib.uvarint y).drop 1 = Lib.uvarint (y / 128) := by
  rw [Lib.uvarint_big h]; rfl
theorem len_big {y : Nat} (h : 128 ≤ y) : (Lib.uvarint y).length = 1 + (Lib.uvarint (y / 128)).length := by
  rw [Lib.uvarint_big h]; simp; omega
theorem len_small {y : Nat} (h : y < 128) : (Lib.uvarint y).length = 1 := by
  rw [Lib.uvarint_small h]; rfl

theorem div_step (x j y : Nat) (h : y = x / 128 ^ j) : y / 128 = x / 128 ^ (j + 1) := by
  rw [h, Nat.div_div_eq_div_mul, Nat.pow_succ]

theorem big_nine {x j y : Nat} (hx : x < 18446744073709551616) (hj : j ≤ 9) (h : y = x / 128 ^ j) (hy : 128 ≤ y) : j ≤ 8 := by
  rcases Nat.lt_or_ge j 9 with h9 | h9
  · omega
  · obtain rfl : j = 9 := by omega
    exfalso
    rw [h] at hy
    have e : (128 : Nat) ^ 9 = 9223372036854775808 := by decide
    rw [e] at hy
    omega
theorem nine_small {x y : Nat} (hx : x < 18446744073709551616) (h : y = x / 128 ^ 9) : y ≤ 1 := by
  rw [h]
  have e : (128 : Nat) ^ 9 = 9223372036854775808 := by decide
  rw [e]
  omega

theorem whole (x j y : Nat) (h : y = x / 128 ^ j) (hy : y < 128) : x % 128 ^ (j + 1) = x := by
  apply Nat.mod_eq_of_lt
  rw [Nat.pow_succ, Nat.mul_comm]
  exact (Nat.div_lt_iff_lt_mul (Nat.pow_pos (by decide))).1 (by omega)

theorem mask (c : Nat) (h : c < 256) : IntKind.u64.wrap (bits .and .u8 (c : Int) 127) = ((c % 128 : Nat) : Int) := by
  rw [u8_and127 _ (by omega) (by omega), u64_wrap_id _ (by omega) (by omega)]
  omega

theorem nine_res {A x : Int} {y j : Nat} (h : bits .or .u64 A (IntKind.u64.wrap ((y : Int) * 2 ^ (7 * j))) = x) (hj : j = 9) (hy : y ≤ 1) : bits .or .u64 A ((y : Int) * 9223372036854775808) = x := by
  subst hj
  have e : (2 : Int) ^ (7 * 9) = 9223372036854775808 := by decide
  rw [e, u64_wrap_id _ (by omega) (by omega)] at h
  exact h
end Go.Proofs.Qxb6618666a.plain
