/-
  Plain facts on the bit operations of int64 and uint8. No program here.
-/
import Derived.Laws.BitsAllLaws
import Derived.Laws.BitsLemmas
import Derived.WalkKit
namespace Go.Proofs.Ytnkkpdpjkfjmnaa.Bi

theorem ofInt_i64 (a : Nat) (ha : a < 18446744073709551616) : (BitVec.ofInt 64 (a : Int)).toNat = a := by
  rw [BitVec.ofInt_natCast, BitVec.toNat_ofNat]
  exact Nat.mod_eq_of_lt (by omega)

theorem i64_and (a b : Nat) (ha : a < 9223372036854775808) (hb : b < 9223372036854775808) : bits .and .i64 (a : Int) (b : Int) = ((a &&& b : Nat) : Int) := by
  have hx : a &&& b < 2 ^ 63 := Nat.and_lt_two_pow _ (by omega)
  show IntKind.i64.wrap ((BitVec.ofInt 64 (a : Int) &&& BitVec.ofInt 64 (b : Int)).toNat : Int) = _
  rw [BitVec.toNat_and, ofInt_i64 a (by omega), ofInt_i64 b (by omega), IntKind.wrap_i64]
  omega

theorem i64_or (a b : Nat) (ha : a < 9223372036854775808) (hb : b < 9223372036854775808) : bits .or .i64 (a : Int) (b : Int) = ((a ||| b : Nat) : Int) := by
  have hx : a ||| b < 2 ^ 63 := Nat.or_lt_two_pow (by omega) (by omega)
  show IntKind.i64.wrap ((BitVec.ofInt 64 (a : Int) ||| BitVec.ofInt 64 (b : Int)).toNat : Int) = _
  rw [BitVec.toNat_or, ofInt_i64 a (by omega), ofInt_i64 b (by omega), IntKind.wrap_i64]
  omega

theorem or128 (a : Nat) (h : a < 128) : 128 ||| a = 128 + a := nat_join 7 128 a (by omega) (by omega)
theorem or128' (a : Nat) (h : a < 128) : a ||| 128 = a + 128 := by rw [Nat.or_comm, or128 a h, Nat.add_comm]

/-- byte(n&127) | 128 -/
theorem enc_byte (m : Nat) (h : m < 9223372036854775808) : bits .or .u8 (bits .and .i64 (m : Int) 127 % 256) 128 = ((m % 128 + 128 : Nat) : Int) := by
  have e1 : bits .and .i64 (m : Int) ((127 : Nat) : Int) = ((m &&& 127 : Nat) : Int) := i64_and m 127 h (by omega)
  rw [nat_mask7] at e1
  have e2 : ((m % 128 : Nat) : Int) % 256 = ((m % 128 : Nat) : Int) := by omega
  rw [show (127 : Int) = ((127 : Nat) : Int) from rfl, e1, e2]
  have e3 := u8_or_nat (m % 128) 128 (by omega) (by omega)
  rw [or128' _ (by omega)] at e3
  exact e3

/-- byte(0x80 | x) -/
theorem enc_byte' (m : Nat) (h : m < 9223372036854775808) : bits .or .i64 128 (m : Int) % 256 = ((m % 128 + 128 : Nat) : Int) := by
  have e1 : bits .or .i64 ((128 : Nat) : Int) (m : Int) = ((128 ||| m : Nat) : Int) := i64_or 128 m (by omega) h
  rw [show (128 : Int) = ((128 : Nat) : Int) from rfl, e1]
  have e2 : (128 ||| m) % 256 = m % 128 + 128 := by
    have : (128 ||| m) % 2 ^ 8 = (128 % 2 ^ 8) ||| (m % 2 ^ 8) := Nat.or_mod_two_pow
    have h2 : m % 256 = 128 * (m / 128 % 2) + m % 128 := by omega
    rw [show (2 : Nat) ^ 8 = 256 from rfl] at this
    rw [this, h2, show 128 % 256 = 128 from rfl]
    have h3 : m / 128 % 2 = 0 ∨ m / 128 % 2 = 1 := by omega
    rcases h3 with h3 | h3
    · rw [h3]
      have := or128 (m % 128) (by omega)
      simp only [Nat.mul_zero, Nat.zero_add]
      omega
    · rw [h3, Nat.mul_one, ← or128 (m % 128) (by omega), ← Nat.or_assoc, Nat.or_self, or128 _ (by omega), Nat.add_comm]
  have e4 : ((128 ||| m : Nat) : Int) % 256 = (((128 ||| m) % 256 : Nat) : Int) := by omega
  rw [e4, e2]

/-- 0x80 | byte(n), n below 128 -/
theorem code_byte (m : Nat) (h : m < 128) : bits .or .u8 128 ((m : Int) % 256) = ((128 + m : Nat) : Int) := by
  have e2 : (m : Int) % 256 = (m : Int) := by omega
  rw [e2]
  have e3 := u8_or_nat 128 m (by omega) (by omega)
  rw [or128 _ h] at e3
  exact e3

/-- c &^ 0x80 -/
theorem low7 (c : Nat) (h : c < 256) : bits .andNot .u8 (c : Int) 128 = ((c % 128 : Nat) : Int) := by
  have e := u8_andNot_nat c 128 h (by omega)
  rw [show (255 - 128 : Nat) = 127 from rfl, nat_mask7] at e
  exact e

/-- c & 127 -/
theorem low7' (c : Nat) (h : c < 256) : bits .and .u8 (c : Int) 127 = ((c % 128 : Nat) : Int) := by
  have e := u8_and_nat c 127 h (by omega)
  rw [nat_mask7] at e
  exact e

/-- c & 0x80 == 0 -/
theorem high1 (c : Nat) (h : c < 256) : bits .and .u8 (c : Int) 128 = (if c < 128 then 0 else 128 : Int) := by
  have e := u8_and_nat c 128 h (by omega)
  rw [show (128 : Nat) = 2 ^ 7 from rfl, nat_bit] at e
  rw [show (128 : Int) = ((2 ^ 7 : Nat) : Int) from rfl, e]
  split <;> omega

/-- v | x<<s, v below 2^s -/
theorem or_join (s v x : Nat) (hv : v < 2 ^ s) (hx : v + x * 2 ^ s < 9223372036854775808) : bits .or .i64 (v : Int) ((x * 2 ^ s : Nat) : Int) = ((v + x * 2 ^ s : Nat) : Int) := by
  rw [i64_or v (x * 2 ^ s) (by omega) (by omega), Nat.or_comm, nat_join s (x * 2 ^ s) v (Nat.mul_mod_left _ _) hv, Nat.add_comm]


theorem pow7 (i : Nat) : 2 ^ (7 * i) = 128 ^ i := by rw [Nat.pow_mul]
theorem pow7i (i : Nat) : (2 : Int) ^ (7 * i) = ((128 ^ i : Nat) : Int) := by rw [← pow7]; simp

theorem pow_le {i : Nat} (hi : i ≤ 8) : 128 ^ (i + 1) ≤ 9223372036854775808 := by
  have : 128 ^ (i + 1) ≤ 128 ^ 9 := Nat.pow_le_pow_right (by omega) (by omega)
  simpa using this

theorem acc_lt {i acc : Nat} (x : Nat) (hacc : acc < 128 ^ i) : acc + x % 128 * 128 ^ i < 128 ^ (i + 1) := by
  have hm : x % 128 * 128 ^ i ≤ 127 * 128 ^ i := Nat.mul_le_mul_right _ (by omega)
  rw [Nat.pow_succ]; omega

/-- one byte of a varint read: v |= int64(y) << (7 i) -/
theorem read_step (i acc x : Nat) (hi : i ≤ 8) (hacc : acc < 128 ^ i) (y : Int) (hy : y = ((x % 128 : Nat) : Int)) :
    bits .or .i64 (acc : Int) (RowKit.wrap64 (RowKit.wrap64 y * 2 ^ (7 * i))) = ((acc + x % 128 * 128 ^ i : Nat) : Int) := by
  have h1 := acc_lt x hacc
  have h2 := pow_le hi
  have e1 : RowKit.wrap64 y = y := IntWalk.wrap64_in _ ⟨by omega, by omega⟩
  rw [e1, hy, pow7i, ← Int.natCast_mul]
  have e2 : RowKit.wrap64 ((x % 128 * 128 ^ i : Nat) : Int) = ((x % 128 * 128 ^ i : Nat) : Int) := IntWalk.wrap64_in _ ⟨by omega, by omega⟩
  rw [e2, ← pow7, or_join (7 * i) acc (x % 128) (by rw [pow7]; exact hacc) (by rw [pow7]; omega)]


/-- c >> k & 1 == 1 -/
theorem bit_of (y k : Nat) (hy : y < 256) : (bits BinOp.and IntKind.u8 ((y : Int) / 2 ^ k) 1 == 1) = (y / 2 ^ k % 2 == 1) := by
  have hlt : y / 2 ^ k < 256 := Nat.lt_of_le_of_lt (Nat.div_le_self _ _) hy
  have e := u8_and_nat (y / 2 ^ k) 1 hlt (by omega)
  rw [nat_mask1] at e
  have e2 : ((y : Int) / 2 ^ k) = ((y / 2 ^ k : Nat) : Int) := by simp
  rw [e2, show (1 : Int) = ((1 : Nat) : Int) from rfl, e]
  rw [Bool.eq_iff_iff]
  simp only [beq_iff_eq]
  omega


/-- bits |= b << k -/
theorem or_bit (a b k : Nat) (ha : a < 2 ^ k) (hb : b ≤ 1) (hk : k ≤ 7) : bits BinOp.or IntKind.u8 (a : Int) ((b : Int) * 2 ^ k % 256) = ((a + b * 2 ^ k : Nat) : Int) := by
  have hp : 2 ^ k ≤ 2 ^ 7 := Nat.pow_le_pow_right (by omega) hk
  have hm : b * 2 ^ k ≤ 1 * 2 ^ k := Nat.mul_le_mul_right _ hb
  have e : ((b : Int) * 2 ^ k) = ((b * 2 ^ k : Nat) : Int) := by simp
  have e2 : ((b * 2 ^ k : Nat) : Int) % 256 = ((b * 2 ^ k : Nat) : Int) := by omega
  rw [e, e2, u8_or_nat a (b * 2 ^ k) (by omega) (by omega), Nat.or_comm, nat_join k (b * 2 ^ k) a (Nat.mul_mod_left _ _) ha, Nat.add_comm]

end Go.Proofs.Ytnkkpdpjkfjmnaa.Bi
