/- Plain lemmas on the fields of a 32-bit word: cutting a field out by a mask, putting a value in. No Go in sight. -/
import Derived.WalkKit
import Derived.Laws.Bits128
import Derived.Laws.BitsAllLaws
namespace Go.Proofs.YticnfohoddlolaaFmt
open Go.RowKit

theorem i64_and255 (n : Int) : bits .and .i64 n 255 = n % 256 := by
  have h : (BitVec.ofInt 64 255).toNat = 2 ^ 8 - 1 := by decide
  have key : (BitVec.ofInt 64 n &&& BitVec.ofInt 64 255).toNat = (n % ((2 ^ 64 : Nat) : Int)).toNat % 2 ^ 8 := by
    rw [BitVec.toNat_and, BitVec.toNat_ofInt, h, Nat.and_two_pow_sub_one_eq_mod]
  show IntKind.i64.wrap ((BitVec.ofInt 64 n &&& BitVec.ofInt 64 255).toNat : Nat) = n % 256
  rw [key, IntKind.wrap_i64]
  omega

theorem i64_and511 (n : Int) : bits .and .i64 n 511 = n % 512 := by
  have h : (BitVec.ofInt 64 511).toNat = 2 ^ 9 - 1 := by decide
  have key : (BitVec.ofInt 64 n &&& BitVec.ofInt 64 511).toNat = (n % ((2 ^ 64 : Nat) : Int)).toNat % 2 ^ 9 := by
    rw [BitVec.toNat_and, BitVec.toNat_ofInt, h, Nat.and_two_pow_sub_one_eq_mod]
  show IntKind.i64.wrap ((BitVec.ofInt 64 n &&& BitVec.ofInt 64 511).toNat : Nat) = n % 512
  rw [key, IntKind.wrap_i64]
  omega

theorem cut_nat (i j t h m l : Nat) (hij : i ≤ j) (hl : l < 2 ^ i) (hm : m < 2 ^ (j - i)) (hh : h < 2 ^ t) :
    (2 ^ j * h + (2 ^ i * m + l)) &&& (2 ^ j * (2 ^ t - 1) + (2 ^ i - 1)) = 2 ^ j * h + l := by
  have hpow : 2 ^ j = 2 ^ i * 2 ^ (j - i) := by rw [← Nat.pow_add]; congr 1; omega
  have h1 : 2 ^ i * m + l < 2 ^ j := by
    rw [hpow]
    calc 2 ^ i * m + l < 2 ^ i * m + 2 ^ i := by omega
      _ = 2 ^ i * (m + 1) := by rw [Nat.mul_add, Nat.mul_one]
      _ ≤ 2 ^ i * 2 ^ (j - i) := Nat.mul_le_mul_left _ hm
  have h2 : 2 ^ i - 1 < 2 ^ j := by
    have : 2 ^ i ≤ 2 ^ j := Nat.pow_le_pow_right (by omega) hij
    have := Nat.two_pow_pos i
    omega
  have h3 : l < 2 ^ j := Nat.lt_of_lt_of_le hl (Nat.pow_le_pow_right (by omega) hij)
  apply Nat.eq_of_testBit_eq
  intro b
  rw [Nat.testBit_and, Nat.testBit_two_pow_mul_add _ h1, Nat.testBit_two_pow_mul_add _ h2, Nat.testBit_two_pow_mul_add _ h3, Nat.testBit_two_pow_mul_add _ hl, Nat.testBit_two_pow_sub_one, Nat.testBit_two_pow_sub_one]
  by_cases hb : b < j
  · by_cases hi : b < i
    · simp [hb, hi]
    · have : l.testBit b = false := Nat.testBit_lt_two_pow (Nat.lt_of_lt_of_le hl (Nat.pow_le_pow_right (by omega) (by omega)))
      simp [hb, hi, this]
  · by_cases ht : b - j < t
    · simp [hb, ht]
    · have : h.testBit (b - j) = false := Nat.testBit_lt_two_pow (Nat.lt_of_lt_of_le hh (Nat.pow_le_pow_right (by omega) (by omega)))
      simp [hb, ht, this]

theorem put_nat (i j h m l : Nat) (hij : i ≤ j) (hl : l < 2 ^ i) (hm : m < 2 ^ (j - i)) :
    (2 ^ j * h + l) ||| (2 ^ i * m) = 2 ^ j * h + (2 ^ i * m + l) := by
  have hpow : 2 ^ j = 2 ^ i * 2 ^ (j - i) := by rw [← Nat.pow_add]; congr 1; omega
  have h1 : 2 ^ i * m + l < 2 ^ j := by
    rw [hpow]
    calc 2 ^ i * m + l < 2 ^ i * m + 2 ^ i := by omega
      _ = 2 ^ i * (m + 1) := by rw [Nat.mul_add, Nat.mul_one]
      _ ≤ 2 ^ i * 2 ^ (j - i) := Nat.mul_le_mul_left _ hm
  have h3 : l < 2 ^ j := Nat.lt_of_lt_of_le hl (Nat.pow_le_pow_right (by omega) hij)
  have h4 : 2 ^ i * m < 2 ^ j := by omega
  apply Nat.eq_of_testBit_eq
  intro b
  have e2 : (2 ^ i * m).testBit b = if b < j then (2 ^ i * m + 0).testBit b else Nat.testBit 0 (b - j) := by
    have e := Nat.testBit_two_pow_mul_add 0 (show 2 ^ i * m + 0 < 2 ^ j by omega) b
    rwa [show 2 ^ j * 0 + (2 ^ i * m + 0) = 2 ^ i * m by omega] at e
  rw [Nat.testBit_or, Nat.testBit_two_pow_mul_add _ h3, e2, Nat.testBit_two_pow_mul_add _ h1, Nat.testBit_two_pow_mul_add _ (Nat.two_pow_pos i), Nat.testBit_two_pow_mul_add _ hl]
  by_cases hb : b < j
  · by_cases hi : b < i
    · simp [hb, hi]
    · have : l.testBit b = false := Nat.testBit_lt_two_pow (Nat.lt_of_lt_of_le hl (Nat.pow_le_pow_right (by omega) (by omega)))
      simp [hb, hi, this]
  · simp [hb]

/-- The field [i, j) of x set to m. -/
theorem put_u32 (x m : Int) (i j t : Nat) (mask : Nat) (hij : i ≤ j) (hjt : j + t = 32) (hmask : mask = 2 ^ j * (2 ^ t - 1) + (2 ^ i - 1)) (hx0 : 0 ≤ x) (hx : x < 4294967296) (hm0 : 0 ≤ m) (hm : m < (2 ^ (j - i) : Nat)) :
    bits .or .u32 (bits .and .u32 x (mask : Int)) (m * (2 ^ i : Nat)) = x / (2 ^ j : Nat) * (2 ^ j : Nat) + m * (2 ^ i : Nat) + x % (2 ^ i : Nat) := by
  obtain ⟨n, rfl⟩ := Int.eq_ofNat_of_zero_le hx0
  obtain ⟨k, rfl⟩ := Int.eq_ofNat_of_zero_le hm0
  have hn : n < 4294967296 := by omega
  have hk : k < 2 ^ (j - i) := by exact_mod_cast hm
  have pj : 2 ^ j * 2 ^ t = 4294967296 := by rw [← Nat.pow_add, hjt]
  have hpow : 2 ^ j = 2 ^ i * 2 ^ (j - i) := by rw [← Nat.pow_add]; congr 1; omega
  have hti := Nat.two_pow_pos i
  have htj := Nat.two_pow_pos j
  have htt := Nat.two_pow_pos t
  have hle : 2 ^ i ≤ 2 ^ j := Nat.pow_le_pow_right (by omega) hij
  have hmlt : mask < 4294967296 := by
    have : 2 ^ j * (2 ^ t - 1) + 2 ^ j = 2 ^ j * 2 ^ t := by
      rw [← Nat.mul_succ]; congr 1; omega
    omega
  have hh : n / 2 ^ j < 2 ^ t := by
    rw [Nat.div_lt_iff_lt_mul htj, Nat.mul_comm]; omega
  have e1 : n = 2 ^ j * (n / 2 ^ j) + (2 ^ i * (n % 2 ^ j / 2 ^ i) + n % 2 ^ i) := by
    have a := Nat.div_add_mod n (2 ^ j)
    have b := Nat.div_add_mod (n % 2 ^ j) (2 ^ i)
    have c : n % 2 ^ j % 2 ^ i = n % 2 ^ i := Nat.mod_mod_of_dvd _ ⟨_, hpow⟩
    omega
  have hl : n % 2 ^ i < 2 ^ i := Nat.mod_lt _ hti
  have hmid : n % 2 ^ j / 2 ^ i < 2 ^ (j - i) := by
    rw [Nat.div_lt_iff_lt_mul hti, Nat.mul_comm, ← hpow]; exact Nat.mod_lt _ htj
  have e2 : n &&& mask = 2 ^ j * (n / 2 ^ j) + n % 2 ^ i := by
    have := cut_nat i j t (n / 2 ^ j) (n % 2 ^ j / 2 ^ i) (n % 2 ^ i) hij hl hmid hh
    rw [← hmask, ← e1] at this
    exact this
  have e3 := put_nat i j (n / 2 ^ j) k (n % 2 ^ i) hij hl hk
  have hlt : 2 ^ i * k < 4294967296 := by
    have : 2 ^ i * k < 2 ^ i * 2 ^ (j - i) := Nat.mul_lt_mul_of_pos_left hk hti
    have h2 : 2 ^ j * 1 ≤ 2 ^ j * 2 ^ t := Nat.mul_le_mul_left _ htt
    omega
  rw [u32_and_nat n mask hn hmlt, e2]
  rw [show ((k : Nat) : Int) * ((2 ^ i : Nat) : Int) = ((2 ^ i * k : Nat) : Int) from by rw [Nat.mul_comm]; exact (Int.natCast_mul _ _).symm]
  rw [u32_or_nat _ _ (by rw [← e2]; exact Nat.lt_of_le_of_lt Nat.and_le_left hn) hlt, e3]
  rw [← Int.natCast_ediv, ← Int.natCast_emod, ← Int.natCast_mul, ← Int.natCast_add, ← Int.natCast_add]
  congr 1
  rw [Nat.mul_comm (n / 2 ^ j)]
  omega

theorem putA (x m : Int) (hx0 : 0 ≤ x) (hx : x < 4294967296) (hm0 : 0 ≤ m) (hm : m < 256) : bits .or .u32 (bits .and .u32 x 4228120575) (m * 262144) = x / 67108864 * 67108864 + m * 262144 + x % 262144 :=
  put_u32 x m 18 26 6 4228120575 (by decide) (by decide) (by decide) hx0 hx hm0 hm
theorem putB (x m : Int) (hx0 : 0 ≤ x) (hx : x < 4294967296) (hm0 : 0 ≤ m) (hm : m < 512) : bits .or .u32 (bits .and .u32 x 4294966784) m = x / 512 * 512 + m := by
  have := put_u32 x m 0 9 23 4294966784 (by decide) (by decide) (by decide) hx0 hx hm0 hm
  simpa using this
theorem putC (x m : Int) (hx0 : 0 ≤ x) (hx : x < 4294967296) (hm0 : 0 ≤ m) (hm : m < 512) : bits .or .u32 (bits .and .u32 x 4294705663) (m * 512) = x / 262144 * 262144 + m * 512 + x % 512 :=
  put_u32 x m 9 18 14 4294705663 (by decide) (by decide) (by decide) hx0 hx hm0 hm
theorem putOp (x m : Int) (hx0 : 0 ≤ x) (hx : x < 4294967296) (hm0 : 0 ≤ m) (hm : m < 64) : bits .or .u32 (bits .and .u32 x 67108863) (m * 67108864) = m * 67108864 + x % 67108864 := by
  have e := put_u32 x m 26 32 0 67108863 (by decide) (by decide) (by decide) hx0 hx hm0 hm
  have a1 : ((2 ^ 32 : Nat) : Int) = 4294967296 := by decide
  have a2 : ((2 ^ 26 : Nat) : Int) = 67108864 := by decide
  have a3 : ((67108863 : Nat) : Int) = 67108863 := by decide
  rw [a1, a2, a3, Int.ediv_eq_zero_of_lt hx0 hx, Int.zero_mul, Int.zero_add] at e
  exact e
end Go.Proofs.YticnfohoddlolaaFmt
