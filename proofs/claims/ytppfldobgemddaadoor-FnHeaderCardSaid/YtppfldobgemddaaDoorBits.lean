/-
  Plain facts on masks, shifts and joins of whole numbers of a kind, with no program in sight.
-/
import Derived.WalkKit
namespace Go.Proofs.YtppfldobgemddaaDoor
open Go.RowKit
set_option linter.unusedVariables false

theorem and_mask_u32 (i : Nat) (hi : i ≤ 32) (n : Int) : bits .and .u32 n (2 ^ i - 1) = n % 2 ^ i := by
  have hpos : 0 < 2 ^ i := Nat.two_pow_pos i
  have hc : ((2 : Int) ^ i - 1) = ((2 ^ i - 1 : Nat) : Int) := by rw [Int.natCast_sub hpos]; simp
  have hle : (2 : Nat) ^ i ≤ 2 ^ 32 := Nat.pow_le_pow_right (by decide) hi
  have hm : (BitVec.ofInt 32 (2 ^ i - 1)).toNat = 2 ^ i - 1 := by
    rw [hc, BitVec.ofInt_natCast, BitVec.toNat_ofNat]; exact Nat.mod_eq_of_lt (by omega)
  have key : (BitVec.ofInt 32 n &&& BitVec.ofInt 32 (2 ^ i - 1)).toNat = (n % ((2 ^ 32 : Nat) : Int)).toNat % 2 ^ i := by
    rw [BitVec.toNat_and, BitVec.toNat_ofInt, hm, Nat.and_two_pow_sub_one_eq_mod]
  show IntKind.u32.wrap ((BitVec.ofInt 32 n &&& BitVec.ofInt 32 (2 ^ i - 1)).toNat : Nat) = n % 2 ^ i
  rw [key]
  have hnn : 0 ≤ n % ((2 ^ 32 : Nat) : Int) := Int.emod_nonneg _ (by decide)
  have hd : ((2 ^ i : Nat) : Int) ∣ ((2 ^ 32 : Nat) : Int) := by exact_mod_cast Nat.pow_dvd_pow 2 hi
  have hlt : (((n % ((2 ^ 32 : Nat) : Int)).toNat % 2 ^ i : Nat) : Int) = n % 2 ^ i := by
    rw [Int.natCast_emod, Int.toNat_of_nonneg hnn, Int.emod_emod_of_dvd _ hd]; simp
  rw [hlt]
  have h1 : 0 ≤ n % 2 ^ i := Int.emod_nonneg _ (by exact_mod_cast (Nat.pos_iff_ne_zero.mp hpos))
  have h2 : n % 2 ^ i < 2 ^ i := Int.emod_lt_of_pos _ (by exact_mod_cast hpos)
  have h3 : (2 : Int) ^ i ≤ 2 ^ 32 := by exact_mod_cast hle
  have h4 : (2 : Int) ^ 32 = 4294967296 := by decide
  exact IntWalk.u32_in _ ⟨h1, by omega⟩

theorem and_mask_i64 (i : Nat) (hi : i ≤ 63) (n : Int) : bits .and .i64 n (2 ^ i - 1) = n % 2 ^ i := by
  have hpos : 0 < 2 ^ i := Nat.two_pow_pos i
  have hc : ((2 : Int) ^ i - 1) = ((2 ^ i - 1 : Nat) : Int) := by rw [Int.natCast_sub hpos]; simp
  have hle : (2 : Nat) ^ i ≤ 2 ^ 63 := Nat.pow_le_pow_right (by decide) hi
  have hm : (BitVec.ofInt 64 (2 ^ i - 1)).toNat = 2 ^ i - 1 := by
    rw [hc, BitVec.ofInt_natCast, BitVec.toNat_ofNat]; exact Nat.mod_eq_of_lt (by omega)
  have key : (BitVec.ofInt 64 n &&& BitVec.ofInt 64 (2 ^ i - 1)).toNat = (n % ((2 ^ 64 : Nat) : Int)).toNat % 2 ^ i := by
    rw [BitVec.toNat_and, BitVec.toNat_ofInt, hm, Nat.and_two_pow_sub_one_eq_mod]
  show IntKind.i64.wrap ((BitVec.ofInt 64 n &&& BitVec.ofInt 64 (2 ^ i - 1)).toNat : Nat) = n % 2 ^ i
  rw [key]
  have hnn : 0 ≤ n % ((2 ^ 64 : Nat) : Int) := Int.emod_nonneg _ (by decide)
  have hd : ((2 ^ i : Nat) : Int) ∣ ((2 ^ 64 : Nat) : Int) := by exact_mod_cast Nat.pow_dvd_pow 2 (by omega : i ≤ 64)
  have hlt : (((n % ((2 ^ 64 : Nat) : Int)).toNat % 2 ^ i : Nat) : Int) = n % 2 ^ i := by
    rw [Int.natCast_emod, Int.toNat_of_nonneg hnn, Int.emod_emod_of_dvd _ hd]; simp
  rw [hlt]
  have h1 : 0 ≤ n % 2 ^ i := Int.emod_nonneg _ (by exact_mod_cast (Nat.pos_iff_ne_zero.mp hpos))
  have h2 : n % 2 ^ i < 2 ^ i := Int.emod_lt_of_pos _ (by exact_mod_cast hpos)
  have h3 : (2 : Int) ^ i ≤ 2 ^ 63 := by exact_mod_cast hle
  have h4 : (2 : Int) ^ 63 = 9223372036854775808 := by decide
  exact IntWalk.i64_in _ ⟨by omega, by omega⟩

theorem u32_and1 (n : Int) : bits .and .u32 n 1 = n % 2 := and_mask_u32 1 (by decide) n
theorem u32_and3 (n : Int) : bits .and .u32 n 3 = n % 4 := and_mask_u32 2 (by decide) n
theorem i64_and1 (n : Int) : bits .and .i64 n 1 = n % 2 := and_mask_i64 1 (by decide) n
theorem i64_and3 (n : Int) : bits .and .i64 n 3 = n % 4 := and_mask_i64 2 (by decide) n
theorem i64_and7 (n : Int) : bits .and .i64 n 7 = n % 8 := and_mask_i64 3 (by decide) n

/-- A field of a word of 32 bits, in its place. -/
theorem u32_field (s k : Nat) (hk : s + k ≤ 32) (n : Int) (h0 : 0 ≤ n) (h1 : n ≤ 4294967295) :
    bits .and .u32 n ((2 ^ k - 1) * 2 ^ s) = n / 2 ^ s % 2 ^ k * 2 ^ s := by
  obtain ⟨a, rfl⟩ := Int.eq_ofNat_of_zero_le h0
  have ha : a < 4294967296 := by omega
  have hpk : 0 < 2 ^ k := Nat.two_pow_pos k
  have hps : 0 < 2 ^ s := Nat.two_pow_pos s
  have hm : ((2 ^ k - 1) * 2 ^ s : Int) = (((2 ^ k - 1) * 2 ^ s : Nat) : Int) := by
    rw [Int.natCast_mul, Int.natCast_sub hpk]; simp
  have hle : (2 : Nat) ^ (s + k) ≤ 2 ^ 32 := Nat.pow_le_pow_right (by decide) hk
  have hb : (2 ^ k - 1) * 2 ^ s < 4294967296 := by
    have h : (2 ^ k - 1) * 2 ^ s < 2 ^ k * 2 ^ s := Nat.mul_lt_mul_of_pos_right (Nat.sub_lt hpk (by decide)) hps
    have e : 2 ^ (s + k) = 2 ^ k * 2 ^ s := by rw [Nat.pow_add, Nat.mul_comm]
    omega
  rw [hm, u32_and_nat a _ ha hb]
  have e : a &&& ((2 ^ k - 1) * 2 ^ s) = a / 2 ^ s % 2 ^ k * 2 ^ s := by
    have h1 : (2 ^ k - 1) * 2 ^ s = (2 ^ k - 1) <<< s := by rw [Nat.shiftLeft_eq]
    have h2 : a / 2 ^ s % 2 ^ k * 2 ^ s = ((a >>> s) &&& (2 ^ k - 1)) <<< s := by
      rw [Nat.shiftLeft_eq, Nat.shiftRight_eq_div_pow, Nat.and_two_pow_sub_one_eq_mod]
    rw [h1, h2]
    apply Nat.eq_of_testBit_eq
    intro i
    simp only [Nat.testBit_and, Nat.testBit_shiftLeft, Nat.testBit_shiftRight]
    by_cases h : s ≤ i
    · simp [h]
    · simp [h]
  rw [e]
  simp

theorem i64_join (i : Nat) (x y : Int) (hx₀ : 0 ≤ x) (hx : x % 2 ^ i = 0) (hx₁ : x < 9223372036854775808) (hy₀ : 0 ≤ y) (hy : y < 2 ^ i) (hy₁ : y < 9223372036854775808) :
    bits .or .i64 x y = x + y := by
  have h4 : (2 : Int) ^ 63 = 9223372036854775808 := by decide
  exact bits_join .i64 63 (by decide) (fun n h0 h1 => IntWalk.i64_in n ⟨by omega, by omega⟩) i x y hx₀ hx (by omega) hy₀ hy (by omega)

/-- The same, the lower part first. -/
theorem i64_joinL (i : Nat) (x y : Int) (hy₀ : 0 ≤ x) (hy : x < 2 ^ i) (hy₁ : x < 9223372036854775808) (hx₀ : 0 ≤ y) (hx : y % 2 ^ i = 0) (hx₁ : y < 9223372036854775808) :
    bits .or .i64 x y = x + y := by
  have hc : bits .or .i64 x y = bits .or .i64 y x := by simp only [bits, BitVec.or_comm]
  rw [hc, i64_join i y x hx₀ hx hx₁ hy₀ hy hy₁, Int.add_comm]

theorem u32_join (i : Nat) (x y : Int) (hx₀ : 0 ≤ x) (hx : x % 2 ^ i = 0) (hx₁ : x ≤ 4294967295) (hy₀ : 0 ≤ y) (hy : y < 2 ^ i) (hy₁ : y ≤ 4294967295) :
    bits .or .u32 x y = x + y := by
  have h4 : (2 : Int) ^ 32 = 4294967296 := by decide
  exact bits_join .u32 32 (by decide) (fun n h0 h1 => IntWalk.u32_in n ⟨by omega, by omega⟩) i x y hx₀ hx (by omega) hy₀ hy (by omega)
end Go.Proofs.YtppfldobgemddaaDoor
