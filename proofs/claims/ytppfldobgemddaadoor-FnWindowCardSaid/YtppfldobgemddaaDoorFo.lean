/-
  More on words that stand for numbers: order, differences, signs, conversions; and a sum of products.
-/
import Derived.Test.YtppfldobgemddaaDoorFl
import Derived.Test.YtppfldobgemddaaDoorWu
import Derived.Test.YtppfldobgemddaaDoorWi
import Derived.Test.YtppfldobgemddaaDoorWn
namespace Go.Proofs.YtppfldobgemddaaDoor
open Ieee
set_option linter.unusedVariables false

def valZ (f : Format) (x : Nat) : Int :=
  match f.read x with
  | .number s m e => signed s m (e + 2200).toNat
  | _ => 0
def finB (f : Format) (x : Nat) : Bool :=
  match f.read x with
  | .number _ _ e => decide (f.leastPlace ≤ e)
  | _ => false
theorem fv_of {f : Format} {x : Nat} (h : finB f x = true) : FV f x (valZ f x) := by
  unfold finB at h
  unfold valZ
  cases hr : f.read x with
  | number s m e =>
    rw [hr] at h
    exact ⟨s, m, e, hr, of_decide_eq_true h, rfl⟩
  | infinity s => rw [hr] at h; cases h
  | nan s m => rw [hr] at h; cases h

theorem cmp_scale (a b : Int) (k : Nat) : compare (a * 2 ^ k) (b * 2 ^ k) = compare a b := by
  have hp : (0 : Int) < 2 ^ k := Int.pow_pos (by decide)
  rcases Int.lt_trichotomy a b with h | h | h
  · rw [Int.compare_eq_lt.2 h, Int.compare_eq_lt.2 (Int.mul_lt_mul_of_pos_right h hp)]
  · rw [h, Int.compare_eq_eq.2 rfl, Int.compare_eq_eq.2 rfl]
  · rw [Int.compare_eq_gt.2 h, Int.compare_eq_gt.2 (Int.mul_lt_mul_of_pos_right h hp)]
theorem order_fv {f : Format} (g : Good f) {x y : Nat} {X Y : Int} (hx : FV f x X) (hy : FV f y Y) : f.order x y = some (compare X Y) := by
  obtain ⟨s, m, i, hrx, hix, rfl⟩ := hx
  obtain ⟨t, n, j, hry, hjy, rfl⟩ := hy
  have lo := g.lo
  unfold Format.order
  rw [hrx, hry]
  simp only [Datum.order]
  have e1 : (i + 2200).toNat = (i - min i j).toNat + (min i j + 2200).toNat := by omega
  have e2 : (j + 2200).toNat = (j - min i j).toNat + (min i j + 2200).toNat := by omega
  rw [e1, e2, signed_shift, signed_shift, cmp_scale]
theorem order_lt {f : Format} (g : Good f) {x y : Nat} {X Y : Int} (hx : FV f x X) (hy : FV f y Y) (h : X < Y) : f.order x y = some .lt := by
  rw [order_fv g hx hy, Int.compare_eq_lt.2 h]
theorem order_self {f : Format} (g : Good f) {x : Nat} {X : Int} (hx : FV f x X) : f.order x x = some .eq := by
  rw [order_fv g hx hx, Int.compare_eq_eq.2 rfl]

theorem signed_not (s : Bool) (m k : Nat) : signed (!s) m k = -signed s m k := by
  rw [signed_pos, signed_pos]; cases s <;> simp
/-- A difference is a sum with the other sign. -/
theorem sub_near {f : Format} (g : Good f) {x y : Nat} {X Y : Int} (hx : FV f x X) (hy : FV f y Y) (hbig : (X - Y).natAbs < much) :
    ∃ r R, f.sub x y = some r ∧ FV f r R ∧ ((2 * f.binade : Nat) * (R - (X - Y))).natAbs ≤ (X - Y).natAbs + tin := by
  obtain ⟨s, m, i, hrx, hix, rfl⟩ := hx
  obtain ⟨t, n, j, hry, hjy, rfl⟩ := hy
  have lo := g.lo
  unfold Format.sub
  rw [hrx, hry]
  simp only [Datum.sum, Datum.opposite, Option.map_some, Format.write]
  obtain ⟨tot, htot⟩ : ∃ tot, tot = signed s m (i - min i j).toNat + signed (!t) n (j - min i j).toNat := ⟨_, rfl⟩
  have hsum : signed s m (i + 2200).toNat - signed t n (j + 2200).toNat = tot * 2 ^ (min i j + 2200).toNat := by
    rw [htot, Int.add_mul, ← signed_shift, ← signed_shift, signed_not, Int.sub_eq_add_neg]
    congr 2
    · congr 1; omega
    · congr 2; omega
  rw [← htot]
  obtain ⟨sg, hsg⟩ : ∃ sg : Bool, sg = (if tot = 0 then s && (!t) else decide (tot < 0)) := ⟨_, rfl⟩
  have hE : signed s m (i + 2200).toNat - signed t n (j + 2200).toNat = signed sg tot.natAbs (min i j + 2200).toNat := by
    rw [hsum]
    by_cases h0 : tot = 0
    · rw [h0, signed_pos]; cases sg <;> simp
    · rw [hsg, if_neg h0, signed_natAbs]
  obtain ⟨R, hR, hn⟩ := near_of g sg tot.natAbs (min i j) _ (by omega) hE hbig
  rw [← hsg]
  exact ⟨_, R, rfl, hR, hn⟩
/-- The exact product of two words is a whole number of units. -/
theorem mul_whole {f : Format} (g : Good f) {x y : Nat} {X Y : Int} (hx : FV f x X) (hy : FV f y Y) : ∃ E, X * Y = E * un := by
  obtain ⟨s, m, i, hrx, hix, rfl⟩ := hx
  obtain ⟨t, n, j, hry, hjy, rfl⟩ := hy
  have lo := g.lo
  refine ⟨signed (s ^^ t) (m * n) (i + j + 2200).toNat, ?_⟩
  rw [signed_mul, show (i + 2200).toNat + (j + 2200).toNat = (i + j + 2200).toNat + 2200 by omega, signed_shift]
  rfl
theorem read_neg (x : Nat) : double.read (fneg x) = (double.read x).opposite := by
  have hs : double.signWeight = 2 ^ 63 := rfl
  have e1 : fneg x / 2 ^ 63 % 2 = (x / 2 ^ 63 % 2) ^^^ 1 := by
    unfold fneg
    rw [Nat.xor_div_two_pow, show (2 ^ 63 : Nat) / 2 ^ 63 = 1 by decide, show (2 : Nat) = 2 ^ 1 from rfl, Nat.xor_mod_two_pow]
  have e2 : fneg x % 2 ^ 63 = x % 2 ^ 63 := by
    unfold fneg
    rw [Nat.xor_mod_two_pow, show (2 ^ 63 : Nat) % 2 ^ 63 = 0 by decide, Nat.xor_zero]
  have e3 : (fneg x / 2 ^ 63 % 2 == 1) = !(x / 2 ^ 63 % 2 == 1) := by
    rw [e1]
    have : x / 2 ^ 63 % 2 = 0 ∨ x / 2 ^ 63 % 2 = 1 := by omega
    rcases this with h | h <;> rw [h] <;> decide
  unfold Format.read
  rw [hs, e2, e3]
  simp only
  split
  · rfl
  · split
    · rfl
    · split <;> rfl
theorem fneg_fv {x : Nat} {X : Int} (hx : FV double x X) : FV double (fneg x) (-X) := by
  obtain ⟨s, m, i, hrx, hix, rfl⟩ := hx
  exact ⟨!s, m, i, by rw [read_neg, hrx]; rfl, hix, (signed_not s m _).symm⟩
/-- A word of 32 bits made one of 64. -/
theorem to64_near {x : Nat} {X : Int} (hx : FV single x X) (hbig : X.natAbs < much) : ∃ r R, to64 x = some r ∧ FV double r R ∧ ((2 * double.binade : Nat) * (R - X)).natAbs ≤ X.natAbs + tin := by
  obtain ⟨s, m, i, hrx, hix, rfl⟩ := hx
  have lo : (-149 : Int) = single.leastPlace := by decide
  obtain ⟨R, hR, hn⟩ := near_of good64 s m i _ (by omega) rfl hbig
  refine ⟨_, R, ?_, hR, hn⟩
  unfold to64 floatToFloatBits
  rw [if_neg (by decide)]
  have e1 : FloatKind.f32.decode x = .number s m i := hrx
  rw [e1]
  obtain ⟨s', m', i', hr', _, _⟩ := hR
  have e2 : FloatKind.f64.decode (FloatKind.f64.encode (.number s m i)) = .number s' m' i' := hr'
  simp only [e2]
  rfl
end Go.Proofs.YtppfldobgemddaaDoor
