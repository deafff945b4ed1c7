/-
  Plain facts on bits of bytes, the highest first, and on the words that they make; no program in sight.
-/
import Derived.Test.YtppfldobgemddaaBits
namespace Go.Proofs.Ytppfldobgemddaa
open Go.RowKit
set_option linter.unusedVariables false

/-- The bit at a place of bytes (nought behind them). -/
def bitAt (D : List Int) (i : Nat) : Int := D.getD (i / 8) 0 / 2 ^ (7 - i % 8) % 2
/-- The word of n bits from a place on. -/
def V (D : List Int) (s : Nat) : Nat → Int
  | 0 => 0
  | n + 1 => 2 * V D s n + bitAt D (s + n)

theorem bitAt_bd (D : List Int) (i : Nat) : 0 ≤ bitAt D i ∧ bitAt D i ≤ 1 := by unfold bitAt; omega
theorem V_bd (D : List Int) (s n : Nat) : 0 ≤ V D s n ∧ V D s n < 2 ^ n := by
  induction n with
  | zero => exact ⟨Int.le_refl _, by simp [V]⟩
  | succ n ih =>
    have := bitAt_bd D (s + n)
    unfold V
    rw [Int.pow_succ]
    omega
theorem V_add (D : List Int) (s a : Nat) : ∀ b, V D s (a + b) = V D s a * 2 ^ b + V D (s + a) b
  | 0 => by simp [V]
  | b + 1 => by
    have ih := V_add D s a b
    show 2 * V D s (a + b) + bitAt D (s + (a + b)) = _
    rw [ih, Int.pow_succ]
    show _ = _ + (2 * V D (s + a) b + bitAt D (s + a + b))
    rw [← Nat.add_assoc, Int.mul_add, Int.mul_left_comm, Int.mul_comm (2 ^ b) 2]
    omega
theorem byte_bits : ∀ b : Fin 256, ((((((((0 * 2 + (b.val : Int) / 2 ^ 7 % 2) * 2 + (b.val : Int) / 2 ^ 6 % 2) * 2 + (b.val : Int) / 2 ^ 5 % 2) * 2 + (b.val : Int) / 2 ^ 4 % 2) * 2 + (b.val : Int) / 2 ^ 3 % 2) * 2 + (b.val : Int) / 2 ^ 2 % 2) * 2 + (b.val : Int) / 2 ^ 1 % 2) * 2 + (b.val : Int) / 2 ^ 0 % 2) = b.val := by decide +kernel
theorem V_byte (D : List Int) (k : Nat) (h0 : 0 ≤ D.getD k 0) (h1 : D.getD k 0 ≤ 255) : V D (8 * k) 8 = D.getD k 0 := by
  obtain ⟨b, hb⟩ := Int.eq_ofNat_of_zero_le h0
  have hlt : b < 256 := by omega
  have h := byte_bits ⟨b, hlt⟩
  have e : ∀ j, j < 8 → bitAt D (8 * k + j) = (b : Int) / 2 ^ (7 - j) % 2 := by
    intro j hj
    unfold bitAt
    rw [show (8 * k + j) / 8 = k from by omega, show (8 * k + j) % 8 = j from by omega, hb]
  simp only [V]
  rw [e 0 (by decide), e 1 (by decide), e 2 (by decide), e 3 (by decide), e 4 (by decide), e 5 (by decide), e 6 (by decide), e 7 (by decide), hb]
  simp only [Nat.sub_zero, Nat.reduceSub] at *
  omega
/-- Four bytes as one word of 32 bits. -/
theorem V_32 (D : List Int) (k : Nat) (h : ∀ j, 0 ≤ D.getD j 0 ∧ D.getD j 0 ≤ 255) :
    V D (8 * k) 32 = D.getD k 0 * 16777216 + D.getD (k + 1) 0 * 65536 + D.getD (k + 2) 0 * 256 + D.getD (k + 3) 0 := by
  have a := V_add D (8 * k) 8 24
  have b := V_add D (8 * k + 8) 8 16
  have c := V_add D (8 * k + 8 + 8) 8 8
  have e0 := V_byte D k (h _).1 (h _).2
  have e1 := V_byte D (k + 1) (h _).1 (h _).2
  have e2 := V_byte D (k + 2) (h _).1 (h _).2
  have e3 := V_byte D (k + 3) (h _).1 (h _).2
  rw [show 8 * (k + 1) = 8 * k + 8 from by omega] at e1
  rw [show 8 * (k + 2) = 8 * k + 8 + 8 from by omega] at e2
  rw [show 8 * (k + 3) = 8 * k + 8 + 8 + 8 from by omega] at e3
  simp only [Nat.reduceAdd, Int.reducePow] at a b c
  omega
/-- The word of 32 bits, its first p bits struck, its first m of what is left. -/
theorem V_cut (D : List Int) (s p m : Nat) (hm : p + m ≤ 32) : V D s 32 * 2 ^ p % 4294967296 / 2 ^ (32 - m) = V D (s + p) m := by
  obtain ⟨r, hr⟩ : ∃ r, 32 = p + (m + r) := ⟨32 - p - m, by omega⟩
  have a := V_add D s p (m + r)
  have b := V_add D (s + p) m r
  have b0 := V_bd D (s + p) (m + r)
  have b1 := V_bd D (s + p + m) r
  have e32 : (4294967296 : Int) = 2 ^ p * 2 ^ (m + r) := by rw [← Int.pow_add, ← hr]; decide
  rw [← hr] at a
  have hp : (0 : Int) < 2 ^ p := Int.pow_pos (by decide)
  have hrm : 32 - m = p + r := by omega
  rw [a, Int.add_mul, e32, Int.mul_assoc, Int.mul_comm (2 ^ (m + r)) (2 ^ p), Int.add_comm, Int.add_mul_emod_self_right]
  have lt : V D (s + p) (m + r) * 2 ^ p < 2 ^ p * 2 ^ (m + r) := by
    rw [Int.mul_comm]; exact Int.mul_lt_mul_of_pos_left b0.2 hp
  have nn : 0 ≤ V D (s + p) (m + r) * 2 ^ p := Int.mul_nonneg b0.1 (Int.le_of_lt hp)
  have hr0 : (0 : Int) < 2 ^ r := Int.pow_pos (by decide)
  rw [Int.emod_eq_of_lt nn lt, hrm, Int.pow_add, ← Int.ediv_ediv_of_nonneg (Int.le_of_lt hp), Int.mul_ediv_cancel _ (Int.ne_of_gt hp), b, Int.add_comm, Int.add_mul_ediv_right _ _ (Int.ne_of_gt hr0), Int.ediv_eq_zero_of_lt b1.1 b1.2]
  omega
end Go.Proofs.Ytppfldobgemddaa
