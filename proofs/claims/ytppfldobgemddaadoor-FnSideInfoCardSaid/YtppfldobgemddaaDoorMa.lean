/-
  Plain facts on masks, shifts and joins of whole numbers of a kind, with no program in sight; Plain facts on bits of bytes, the highest first, and on the words that they make; no program in sight; Plain law of the writer of bits: what one bit more leaves of the bytes, with no program in sight.
-/
import Derived.WalkKit
namespace Go.Proofs.YtppfldobgemddaaDoor
open Go.RowKit
set_option linter.unusedVariables false

theorem and_mask_u32 (i : Nat) (hi : i ≤ 32) (n : Int) : bits .and .u32 n (2 ^ i - 1) = n % 2 ^ i := by
  have hpos : 0 < 2 ^ i := Nat.two_pow_pos i
  have hc : ((2 : Int) ^ i - 1) = ((2 ^ i - 1 : Nat) : Int) := by rw [Int.natCast_sub hpos]; simp
  have hle : (2 : Nat) ^ i ≤ 2 ^ 32 := Nat.pow_le_pow_right (by decide) hi
  have hm : (BitVec.ofInt 32 (2 ^ i - 1)).toNat = 2 ^ i - 1 := by
    rw [hc, BitVec.ofInt_natCast, BitVec.toNat_ofNat]; exact Nat.mod_eq_of_lt (by omega)
  have key : (BitVec.ofInt 32 n &&& BitVec.ofInt 32 (2 ^ i - 1)).toNat = (n % ((2 ^ 32 : Nat) : Int)).toNat % 2 ^ i := by
    rw [BitVec.toNat_and, BitVec.toNat_ofInt, hm, Nat.and_two_pow_sub_one_eq_mod]
  show IntKind.u32.wrap ((BitVec.ofInt 32 n &&& BitVec.ofInt 32 (2 ^ i - 1)).toNat : Nat) = n % 2 ^ i
  rw [key]
  have hnn : 0 ≤ n % ((2 ^ 32 : Nat) : Int) := Int.emod_nonneg _ (by decide)
  have hd : ((2 ^ i : Nat) : Int) ∣ ((2 ^ 32 : Nat) : Int) := by exact_mod_cast Nat.pow_dvd_pow 2 hi
  have hlt : (((n % ((2 ^ 32 : Nat) : Int)).toNat % 2 ^ i : Nat) : Int) = n % 2 ^ i := by
    rw [Int.natCast_emod, Int.toNat_of_nonneg hnn, Int.emod_emod_of_dvd _ hd]; simp
  rw [hlt]
  have h1 : 0 ≤ n % 2 ^ i := Int.emod_nonneg _ (by exact_mod_cast (Nat.pos_iff_ne_zero.mp hpos))
  have h2 : n % 2 ^ i < 2 ^ i := Int.emod_lt_of_pos _ (by exact_mod_cast hpos)
  have h3 : (2 : Int) ^ i ≤ 2 ^ 32 := by exact_mod_cast hle
  have h4 : (2 : Int) ^ 32 = 4294967296 := by decide
  exact IntWalk.u32_in _ ⟨h1, by omega⟩

theorem and_mask_i64 (i : Nat) (hi : i ≤ 63) (n : Int) : bits .and .i64 n (2 ^ i - 1) = n % 2 ^ i := by
  have hpos : 0 < 2 ^ i := Nat.two_pow_pos i
  have hc : ((2 : Int) ^ i - 1) = ((2 ^ i - 1 : Nat) : Int) := by rw [Int.natCast_sub hpos]; simp
  have hle : (2 : Nat) ^ i ≤ 2 ^ 63 := Nat.pow_le_pow_right (by decide) hi
  have hm : (BitVec.ofInt 64 (2 ^ i - 1)).toNat = 2 ^ i - 1 := by
    rw [hc, BitVec.ofInt_natCast, BitVec.toNat_ofNat]; exact Nat.mod_eq_of_lt (by omega)
  have key : (BitVec.ofInt 64 n &&& BitVec.ofInt 64 (2 ^ i - 1)).toNat = (n % ((2 ^ 64 : Nat) : Int)).toNat % 2 ^ i := by
    rw [BitVec.toNat_and, BitVec.toNat_ofInt, hm, Nat.and_two_pow_sub_one_eq_mod]
  show IntKind.i64.wrap ((BitVec.ofInt 64 n &&& BitVec.ofInt 64 (2 ^ i - 1)).toNat : Nat) = n % 2 ^ i
  rw [key]
  have hnn : 0 ≤ n % ((2 ^ 64 : Nat) : Int) := Int.emod_nonneg _ (by decide)
  have hd : ((2 ^ i : Nat) : Int) ∣ ((2 ^ 64 : Nat) : Int) := by exact_mod_cast Nat.pow_dvd_pow 2 (by omega : i ≤ 64)
  have hlt : (((n % ((2 ^ 64 : Nat) : Int)).toNat % 2 ^ i : Nat) : Int) = n % 2 ^ i := by
    rw [Int.natCast_emod, Int.toNat_of_nonneg hnn, Int.emod_emod_of_dvd _ hd]; simp
  rw [hlt]
  have h1 : 0 ≤ n % 2 ^ i := Int.emod_nonneg _ (by exact_mod_cast (Nat.pos_iff_ne_zero.mp hpos))
  have h2 : n % 2 ^ i < 2 ^ i := Int.emod_lt_of_pos _ (by exact_mod_cast hpos)
  have h3 : (2 : Int) ^ i ≤ 2 ^ 63 := by exact_mod_cast hle
  have h4 : (2 : Int) ^ 63 = 9223372036854775808 := by decide
  exact IntWalk.i64_in _ ⟨by omega, by omega⟩

theorem u32_and1 (n : Int) : bits .and .u32 n 1 = n % 2 := and_mask_u32 1 (by decide) n
theorem u32_and3 (n : Int) : bits .and .u32 n 3 = n % 4 := and_mask_u32 2 (by decide) n
theorem i64_and1 (n : Int) : bits .and .i64 n 1 = n % 2 := and_mask_i64 1 (by decide) n
theorem i64_and3 (n : Int) : bits .and .i64 n 3 = n % 4 := and_mask_i64 2 (by decide) n
theorem i64_and7 (n : Int) : bits .and .i64 n 7 = n % 8 := and_mask_i64 3 (by decide) n

/-- A field of a word of 32 bits, in its place. -/
theorem u32_field (s k : Nat) (hk : s + k ≤ 32) (n : Int) (h0 : 0 ≤ n) (h1 : n ≤ 4294967295) :
    bits .and .u32 n ((2 ^ k - 1) * 2 ^ s) = n / 2 ^ s % 2 ^ k * 2 ^ s := by
  obtain ⟨a, rfl⟩ := Int.eq_ofNat_of_zero_le h0
  have ha : a < 4294967296 := by omega
  have hpk : 0 < 2 ^ k := Nat.two_pow_pos k
  have hps : 0 < 2 ^ s := Nat.two_pow_pos s
  have hm : ((2 ^ k - 1) * 2 ^ s : Int) = (((2 ^ k - 1) * 2 ^ s : Nat) : Int) := by
    rw [Int.natCast_mul, Int.natCast_sub hpk]; simp
  have hle : (2 : Nat) ^ (s + k) ≤ 2 ^ 32 := Nat.pow_le_pow_right (by decide) hk
  have hb : (2 ^ k - 1) * 2 ^ s < 4294967296 := by
    have h : (2 ^ k - 1) * 2 ^ s < 2 ^ k * 2 ^ s := Nat.mul_lt_mul_of_pos_right (Nat.sub_lt hpk (by decide)) hps
    have e : 2 ^ (s + k) = 2 ^ k * 2 ^ s := by rw [Nat.pow_add, Nat.mul_comm]
    omega
  rw [hm, u32_and_nat a _ ha hb]
  have e : a &&& ((2 ^ k - 1) * 2 ^ s) = a / 2 ^ s % 2 ^ k * 2 ^ s := by
    have h1 : (2 ^ k - 1) * 2 ^ s = (2 ^ k - 1) <<< s := by rw [Nat.shiftLeft_eq]
    have h2 : a / 2 ^ s % 2 ^ k * 2 ^ s = ((a >>> s) &&& (2 ^ k - 1)) <<< s := by
      rw [Nat.shiftLeft_eq, Nat.shiftRight_eq_div_pow, Nat.and_two_pow_sub_one_eq_mod]
    rw [h1, h2]
    apply Nat.eq_of_testBit_eq
    intro i
    simp only [Nat.testBit_and, Nat.testBit_shiftLeft, Nat.testBit_shiftRight]
    by_cases h : s ≤ i
    · simp [h]
    · simp [h]
  rw [e]
  simp

theorem i64_join (i : Nat) (x y : Int) (hx₀ : 0 ≤ x) (hx : x % 2 ^ i = 0) (hx₁ : x < 9223372036854775808) (hy₀ : 0 ≤ y) (hy : y < 2 ^ i) (hy₁ : y < 9223372036854775808) :
    bits .or .i64 x y = x + y := by
  have h4 : (2 : Int) ^ 63 = 9223372036854775808 := by decide
  exact bits_join .i64 63 (by decide) (fun n h0 h1 => IntWalk.i64_in n ⟨by omega, by omega⟩) i x y hx₀ hx (by omega) hy₀ hy (by omega)

/-- The same, the lower part first. -/
theorem i64_joinL (i : Nat) (x y : Int) (hy₀ : 0 ≤ x) (hy : x < 2 ^ i) (hy₁ : x < 9223372036854775808) (hx₀ : 0 ≤ y) (hx : y % 2 ^ i = 0) (hx₁ : y < 9223372036854775808) :
    bits .or .i64 x y = x + y := by
  have hc : bits .or .i64 x y = bits .or .i64 y x := by simp only [bits, BitVec.or_comm]
  rw [hc, i64_join i y x hx₀ hx hx₁ hy₀ hy hy₁, Int.add_comm]

theorem u32_join (i : Nat) (x y : Int) (hx₀ : 0 ≤ x) (hx : x % 2 ^ i = 0) (hx₁ : x ≤ 4294967295) (hy₀ : 0 ≤ y) (hy : y < 2 ^ i) (hy₁ : y ≤ 4294967295) :
    bits .or .u32 x y = x + y := by
  have h4 : (2 : Int) ^ 32 = 4294967296 := by decide
  exact bits_join .u32 32 (by decide) (fun n h0 h1 => IntWalk.u32_in n ⟨by omega, by omega⟩) i x y hx₀ hx (by omega) hy₀ hy (by omega)
end Go.Proofs.YtppfldobgemddaaDoor
namespace Go.Proofs.YtppfldobgemddaaDoor
open Go.RowKit
set_option linter.unusedVariables false

/-- The bit at a place of bytes (nought behind them). -/
def bitAt (D : List Int) (i : Nat) : Int := D.getD (i / 8) 0 / 2 ^ (7 - i % 8) % 2
/-- The word of n bits from a place on. -/
def V (D : List Int) (s : Nat) : Nat → Int
  | 0 => 0
  | n + 1 => 2 * V D s n + bitAt D (s + n)

theorem bitAt_bd (D : List Int) (i : Nat) : 0 ≤ bitAt D i ∧ bitAt D i ≤ 1 := by unfold bitAt; omega
theorem V_bd (D : List Int) (s n : Nat) : 0 ≤ V D s n ∧ V D s n < 2 ^ n := by
  induction n with
  | zero => exact ⟨Int.le_refl _, by simp [V]⟩
  | succ n ih =>
    have := bitAt_bd D (s + n)
    unfold V
    rw [Int.pow_succ]
    omega
theorem V_add (D : List Int) (s a : Nat) : ∀ b, V D s (a + b) = V D s a * 2 ^ b + V D (s + a) b
  | 0 => by simp [V]
  | b + 1 => by
    have ih := V_add D s a b
    show 2 * V D s (a + b) + bitAt D (s + (a + b)) = _
    rw [ih, Int.pow_succ]
    show _ = _ + (2 * V D (s + a) b + bitAt D (s + a + b))
    rw [← Nat.add_assoc, Int.mul_add, Int.mul_left_comm, Int.mul_comm (2 ^ b) 2]
    omega
theorem byte_bits : ∀ b : Fin 256, ((((((((0 * 2 + (b.val : Int) / 2 ^ 7 % 2) * 2 + (b.val : Int) / 2 ^ 6 % 2) * 2 + (b.val : Int) / 2 ^ 5 % 2) * 2 + (b.val : Int) / 2 ^ 4 % 2) * 2 + (b.val : Int) / 2 ^ 3 % 2) * 2 + (b.val : Int) / 2 ^ 2 % 2) * 2 + (b.val : Int) / 2 ^ 1 % 2) * 2 + (b.val : Int) / 2 ^ 0 % 2) = b.val := by decide +kernel
theorem V_byte (D : List Int) (k : Nat) (h0 : 0 ≤ D.getD k 0) (h1 : D.getD k 0 ≤ 255) : V D (8 * k) 8 = D.getD k 0 := by
  obtain ⟨b, hb⟩ := Int.eq_ofNat_of_zero_le h0
  have hlt : b < 256 := by omega
  have h := byte_bits ⟨b, hlt⟩
  have e : ∀ j, j < 8 → bitAt D (8 * k + j) = (b : Int) / 2 ^ (7 - j) % 2 := by
    intro j hj
    unfold bitAt
    rw [show (8 * k + j) / 8 = k from by omega, show (8 * k + j) % 8 = j from by omega, hb]
  simp only [V]
  rw [e 0 (by decide), e 1 (by decide), e 2 (by decide), e 3 (by decide), e 4 (by decide), e 5 (by decide), e 6 (by decide), e 7 (by decide), hb]
  simp only [Nat.sub_zero, Nat.reduceSub] at *
  omega
/-- Four bytes as one word of 32 bits. -/
theorem V_32 (D : List Int) (k : Nat) (h : ∀ j, 0 ≤ D.getD j 0 ∧ D.getD j 0 ≤ 255) :
    V D (8 * k) 32 = D.getD k 0 * 16777216 + D.getD (k + 1) 0 * 65536 + D.getD (k + 2) 0 * 256 + D.getD (k + 3) 0 := by
  have a := V_add D (8 * k) 8 24
  have b := V_add D (8 * k + 8) 8 16
  have c := V_add D (8 * k + 8 + 8) 8 8
  have e0 := V_byte D k (h _).1 (h _).2
  have e1 := V_byte D (k + 1) (h _).1 (h _).2
  have e2 := V_byte D (k + 2) (h _).1 (h _).2
  have e3 := V_byte D (k + 3) (h _).1 (h _).2
  rw [show 8 * (k + 1) = 8 * k + 8 from by omega] at e1
  rw [show 8 * (k + 2) = 8 * k + 8 + 8 from by omega] at e2
  rw [show 8 * (k + 3) = 8 * k + 8 + 8 + 8 from by omega] at e3
  simp only [Nat.reduceAdd, Int.reducePow] at a b c
  omega
/-- The word of 32 bits, its first p bits struck, its first m of what is left. -/
theorem V_cut (D : List Int) (s p m : Nat) (hm : p + m ≤ 32) : V D s 32 * 2 ^ p % 4294967296 / 2 ^ (32 - m) = V D (s + p) m := by
  obtain ⟨r, hr⟩ : ∃ r, 32 = p + (m + r) := ⟨32 - p - m, by omega⟩
  have a := V_add D s p (m + r)
  have b := V_add D (s + p) m r
  have b0 := V_bd D (s + p) (m + r)
  have b1 := V_bd D (s + p + m) r
  have e32 : (4294967296 : Int) = 2 ^ p * 2 ^ (m + r) := by rw [← Int.pow_add, ← hr]; decide
  rw [← hr] at a
  have hp : (0 : Int) < 2 ^ p := Int.pow_pos (by decide)
  have hrm : 32 - m = p + r := by omega
  rw [a, Int.add_mul, e32, Int.mul_assoc, Int.mul_comm (2 ^ (m + r)) (2 ^ p), Int.add_comm, Int.add_mul_emod_self_right]
  have lt : V D (s + p) (m + r) * 2 ^ p < 2 ^ p * 2 ^ (m + r) := by
    rw [Int.mul_comm]; exact Int.mul_lt_mul_of_pos_left b0.2 hp
  have nn : 0 ≤ V D (s + p) (m + r) * 2 ^ p := Int.mul_nonneg b0.1 (Int.le_of_lt hp)
  have hr0 : (0 : Int) < 2 ^ r := Int.pow_pos (by decide)
  rw [Int.emod_eq_of_lt nn lt, hrm, Int.pow_add, ← Int.ediv_ediv_of_nonneg (Int.le_of_lt hp), Int.mul_ediv_cancel _ (Int.ne_of_gt hp), b, Int.add_comm, Int.add_mul_ediv_right _ _ (Int.ne_of_gt hr0), Int.ediv_eq_zero_of_lt b1.1 b1.2]
  omega
end Go.Proofs.YtppfldobgemddaaDoor
namespace Go.Proofs.YtppfldobgemddaaDoor
open Go.RowKit
set_option linter.unusedVariables false

theorem upto7 (j : Nat) (h : j < 8) : j = 0 ∨ j = 1 ∨ j = 2 ∨ j = 3 ∨ j = 4 ∨ j = 5 ∨ j = 6 ∨ j = 7 := by omega

/-- What one bit more leaves of the higher bits of a byte. -/
theorem bit_keep (y b : Int) (p q : Nat) (hq : q < p) (hp : p < 8) (hy : y % 2 ^ (8 - p) = 0) (hb : b = 0 ∨ b = 1) : (y + b * 2 ^ (7 - p)) / 2 ^ (7 - q) % 2 = y / 2 ^ (7 - q) % 2 := by
  rcases upto7 p hp with rfl | rfl | rfl | rfl | rfl | rfl | rfl | rfl <;>
  rcases upto7 q (by omega) with rfl | rfl | rfl | rfl | rfl | rfl | rfl | rfl <;>
  first
    | omega
    | (simp only [Nat.reduceSub, Int.reducePow] at hy ⊢; omega)
theorem bit_new (y b : Int) (p : Nat) (hp : p < 8) (hy : y % 2 ^ (8 - p) = 0) (hb : b = 0 ∨ b = 1) : (y + b * 2 ^ (7 - p)) / 2 ^ (7 - p) % 2 = b ∧ (y + b * 2 ^ (7 - p)) % 2 ^ (7 - p) = 0 := by
  rcases upto7 p hp with rfl | rfl | rfl | rfl | rfl | rfl | rfl | rfl <;> (simp only [Nat.reduceSub, Int.reducePow] at hy ⊢; omega)
theorem bit_fits (y b : Int) (p : Nat) (hp : p < 8) (h0 : 0 ≤ y) (h1 : y ≤ 255) (hy : y % 2 ^ (8 - p) = 0) (hb : b = 0 ∨ b = 1) : 0 ≤ y + b * 2 ^ (7 - p) ∧ y + b * 2 ^ (7 - p) ≤ 255 := by
  rcases upto7 p hp with rfl | rfl | rfl | rfl | rfl | rfl | rfl | rfl <;> (simp only [Nat.reduceSub, Int.reducePow] at hy ⊢; omega)

/-- Bytes that hold so many bits, the rest noughts. -/
structure Packed (L : List Int) (at' : Nat) : Prop where
  len : L.length = (at' + 7) / 8
  bd : ∀ j, 0 ≤ L.getD j 0 ∧ L.getD j 0 ≤ 255
  tail : at' % 8 ≠ 0 → L.getD (at' / 8) 0 % 2 ^ (8 - at' % 8) = 0

/-- The bytes with room for one bit more. -/
def roomy (L : List Int) (at' : Nat) : List Int := if at' % 8 = 0 then L ++ [0] else L
/-- The bytes with one bit more. -/
def setBit (L : List Int) (at' : Nat) (b : Int) : List Int := (roomy L at').set (at' / 8) ((roomy L at').getD (at' / 8) 0 + b * 2 ^ (7 - at' % 8))

theorem getD_set' (L : List Int) (i j : Nat) (x : Int) (hi : i < L.length) : (L.set i x).getD j 0 = if j = i then x else L.getD j 0 := by
  rw [List.getD_eq_getElem?_getD, List.getElem?_set, List.getD_eq_getElem?_getD]
  by_cases h : i = j
  · subst h; simp [hi]
  · rw [if_neg h, if_neg (by omega)]

theorem roomy_facts {L : List Int} {at' : Nat} (h : Packed L at') : at' / 8 < (roomy L at').length ∧ (roomy L at').length = (at' + 8) / 8 ∧ (∀ j, 0 ≤ (roomy L at').getD j 0 ∧ (roomy L at').getD j 0 ≤ 255) ∧ (roomy L at').getD (at' / 8) 0 % 2 ^ (8 - at' % 8) = 0 ∧ ∀ k, k < at' → bitAt (roomy L at') k = bitAt L k := by
  have hl := h.len
  unfold roomy
  by_cases h8 : at' % 8 = 0
  · rw [if_pos h8]
    have hll : L.length = at' / 8 := by omega
    have hg : ∀ j, (L ++ [0]).getD j 0 = L.getD j 0 := by
      intro j
      rw [List.getD_eq_getElem?_getD, List.getD_eq_getElem?_getD]
      by_cases hj : j < L.length
      · rw [List.getElem?_append_left hj]
      · rw [List.getElem?_append_right (by omega), List.getElem?_eq_none (by omega : L.length ≤ j)]
        cases hjj : j - L.length with
        | zero => rfl
        | succ m => simp
    have h0 : L.getD (at' / 8) 0 = 0 := by rw [List.getD_eq_getElem?_getD, List.getElem?_eq_none (by omega)]; rfl
    refine ⟨by simp; omega, by simp; omega, fun j => by rw [hg]; exact h.bd j, by rw [hg, h0]; simp, fun k _ => by unfold bitAt; rw [hg]⟩
  · rw [if_neg h8]
    exact ⟨by omega, by omega, h.bd, h.tail h8, fun _ _ => rfl⟩

theorem packed_step {L : List Int} {at' : Nat} {b : Int} (h : Packed L at') (hb : b = 0 ∨ b = 1) :
    Packed (setBit L at' b) (at' + 1) ∧ (∀ k, k < at' → bitAt (setBit L at' b) k = bitAt L k) ∧ bitAt (setBit L at' b) at' = b := by
  obtain ⟨r1, r2, r3, r4, r5⟩ := roomy_facts h
  have hp : at' % 8 < 8 := Nat.mod_lt _ (by decide)
  have hn := bit_new _ b (at' % 8) hp r4 hb
  have hf := bit_fits _ b (at' % 8) hp (r3 (at' / 8)).1 (r3 (at' / 8)).2 r4 hb
  have hg : ∀ j, (setBit L at' b).getD j 0 = if j = at' / 8 then (roomy L at').getD (at' / 8) 0 + b * 2 ^ (7 - at' % 8) else (roomy L at').getD j 0 := fun j => getD_set' _ _ _ _ r1
  refine ⟨⟨?_, fun j => ?_, fun h8 => ?_⟩, fun k hk => ?_, ?_⟩
  · unfold setBit; rw [List.length_set, r2]
  · rw [hg]; split
    · exact hf
    · exact r3 j
  · have e1 : (at' + 1) / 8 = at' / 8 := by omega
    have e2 : 8 - (at' + 1) % 8 = 7 - at' % 8 := by omega
    rw [e1, e2, hg, if_pos rfl]; exact hn.2
  · rw [← r5 k hk]
    unfold bitAt
    rw [hg]
    by_cases he : k / 8 = at' / 8
    · rw [if_pos he, he]
      exact bit_keep _ b (at' % 8) (k % 8) (by omega) hp r4 hb
    · rw [if_neg he]
  · unfold bitAt
    rw [hg, if_pos rfl]; exact hn.1

/-- The bytes with the highest i bits of a word of n bits more. -/
def wordTo (L : List Int) (at' : Nat) (v : Int) (n : Nat) : Nat → List Int
  | 0 => L
  | i + 1 => setBit (wordTo L at' v n i) (at' + i) (v / 2 ^ (n - 1 - i) % 2)

theorem wordTo_facts {L : List Int} {at' : Nat} (h : Packed L at') (v : Int) (n : Nat) : ∀ i, Packed (wordTo L at' v n i) (at' + i) ∧ (∀ k, k < at' → bitAt (wordTo L at' v n i) k = bitAt L k) ∧ ∀ j, j < i → bitAt (wordTo L at' v n i) (at' + j) = v / 2 ^ (n - 1 - j) % 2
  | 0 => ⟨h, fun _ _ => rfl, fun j hj => by omega⟩
  | i + 1 => by
    obtain ⟨h1, h2, h3⟩ := wordTo_facts h v n i
    obtain ⟨p1, p2, p3⟩ := packed_step (b := v / 2 ^ (n - 1 - i) % 2) h1 (by omega)
    refine ⟨p1, fun k hk => (p2 k (by omega)).trans (h2 k hk), fun j hj => ?_⟩
    by_cases he : j = i
    · subst he; exact p3
    · exact (p2 (at' + j) (by omega)).trans (h3 j (by omega))

/-- The bits of a word that is read are those that stand there. -/
theorem V_of_bits (D : List Int) (s : Nat) (v : Int) (n : Nat) : ∀ i, i ≤ n → (∀ j, j < i → bitAt D (s + j) = v / 2 ^ (n - 1 - j) % 2) → V D s i = v / 2 ^ (n - i) % 2 ^ i
  | 0, _, _ => by simp [V]
  | i + 1, hi, hb => by
    have ih := V_of_bits D s v n i (by omega) (fun j hj => hb j (by omega))
    show 2 * V D s i + bitAt D (s + i) = _
    rw [ih, hb i (by omega)]
    have e1 : n - i = (n - (i + 1)) + 1 := by omega
    have e2 : n - 1 - i = n - (i + 1) := by omega
    rw [e1, e2]
    obtain ⟨y, hy⟩ : ∃ y, y = v / 2 ^ (n - (i + 1)) := ⟨_, rfl⟩
    have e3 : v / 2 ^ (n - (i + 1) + 1) = y / 2 := by rw [hy, Int.pow_succ, ← Int.ediv_ediv_of_nonneg (Int.pow_nonneg (by decide))]
    rw [e3, ← hy, Int.pow_succ]
    obtain ⟨P, hP⟩ : ∃ P : Int, P = 2 ^ i := ⟨_, rfl⟩
    have hP0 : 0 < P := by rw [hP]; exact Int.pow_pos (by decide)
    rw [← hP]
    have h1 : y % (P * 2) = 2 * (y / 2 % P) + y % 2 := by
      have a1 := Int.mul_ediv_add_emod y 2
      have a2 := Int.mul_ediv_add_emod (y / 2) P
      have b1 := Int.emod_nonneg (y / 2) (by omega : P ≠ 0)
      have b2 := Int.emod_lt_of_pos (y / 2) hP0
      have e : y = (2 * (y / 2 % P) + y % 2) + (P * 2) * (y / 2 / P) := by
        have : (P * 2) * (y / 2 / P) = 2 * (P * (y / 2 / P)) := by rw [Int.mul_assoc, Int.mul_left_comm]
        omega
      have h2 : y % (P * 2) = (2 * (y / 2 % P) + y % 2) % (P * 2) := by
        conv => lhs; rw [e]
        rw [Int.add_mul_emod_self_left]
      rw [h2, Int.emod_eq_of_lt (by omega) (by omega)]
    omega
theorem wordTo_read {L : List Int} {at' : Nat} (h : Packed L at') (v : Int) (n : Nat) (h0 : 0 ≤ v) (h1 : v < 2 ^ n) : V (wordTo L at' v n n) at' n = v := by
  rw [V_of_bits _ _ v n n (Nat.le_refl _) (wordTo_facts h v n n).2.2, Nat.sub_self, Int.pow_zero, Int.ediv_one]
  exact Int.emod_eq_of_lt h0 h1
/-- A word reads the same from bytes that agree on its bits. -/
theorem V_same {D E : List Int} (s : Nat) : ∀ n, (∀ k, k < s + n → bitAt D k = bitAt E k) → V D s n = V E s n
  | 0, _ => rfl
  | n + 1, h => by
    show 2 * V D s n + bitAt D (s + n) = 2 * V E s n + bitAt E (s + n)
    rw [V_same s n (fun k hk => h k (by omega)), h (s + n) (by omega)]
end Go.Proofs.YtppfldobgemddaaDoor
