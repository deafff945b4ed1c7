/-
  Sums of products of words, of 32 and of 64 bits: how far they lie from the exact sums, and from each other.
-/
import Derived.Test.YtppfldobgemddaaDoorFo
namespace Go.Proofs.YtppfldobgemddaaDoor
open Ieee
set_option linter.unusedVariables false

/-- How near a rounded number R lies to an exact one E, in both formats: within E / 2 ^ 24 and something tiny. -/
def Nigh (R E : Int) : Prop := (16777216 * (R - E)).natAbs ≤ E.natAbs + tin
theorem nigh_of {f : Format} (hB : 16777216 ≤ 2 * f.binade) {R E : Int} (h : ((2 * f.binade : Nat) * (R - E)).natAbs ≤ E.natAbs + tin) : Nigh R E := by
  unfold Nigh
  rw [Int.natAbs_mul] at h ⊢
  rw [Int.natAbs_natCast] at h
  exact Nat.le_trans (Nat.mul_le_mul_right _ hB) h
theorem b32 : 16777216 ≤ 2 * single.binade := by decide
theorem b64 : 16777216 ≤ 2 * double.binade := by decide
theorem un_pos : 0 < un := by decide +kernel
theorem un_ne : un ≠ 0 := Int.ne_of_gt un_pos
theorem much_big : 100000 * (2 ^ 2205 + tin) < much := by decide +kernel

/-- The bound of a product of something up to K by something up to one. -/
theorem prod_le {X Y E : Int} {K : Nat} (hE : X * Y = E * un) (hx : X.natAbs ≤ K) (hy : Y.natAbs ≤ un.natAbs) : E.natAbs ≤ K := by
  have h1 : E.natAbs * un.natAbs ≤ K * un.natAbs := by
    rw [← Int.natAbs_mul, ← hE, Int.natAbs_mul]
    exact Nat.mul_le_mul hx hy
  exact Nat.le_of_mul_le_mul_right h1 (by have := un_pos; omega)

/-- Exact products and their sum. -/
def sumE (E : Nat → Int) : Nat → Int
  | 0 => 0
  | n + 1 => sumE E n + E n
theorem sumE_le {E : Nat → Int} {K : Nat} (n : Nat) (h : ∀ j, j < n → (E j).natAbs ≤ K) : (sumE E n).natAbs ≤ n * K := by
  induction n with
  | zero => simp [sumE]
  | succ n ih =>
    have h1 := ih fun j hj => h j (by omega)
    have h2 := h n (by omega)
    rw [sumE, Nat.add_mul, Nat.one_mul]
    omega
/-- The error that a step leaves. -/
def step (K : Nat) : Nat := 20 * K + 4 * tin

theorem abs_mul24 (x : Int) : (16777216 * x).natAbs = 16777216 * x.natAbs := by rw [Int.natAbs_mul]; rfl
theorem abs_sum4 (R S P E : Int) : (R + P).natAbs ≤ S.natAbs + (R - S).natAbs + E.natAbs + (P - E).natAbs := by
  have e : R + P = (S + (R - S)) + (E + (P - E)) := by omega
  rw [e]
  have h1 := Int.natAbs_add_le (S + (R - S)) (E + (P - E))
  have h2 := Int.natAbs_add_le S (R - S)
  have h3 := Int.natAbs_add_le E (P - E)
  generalize (S + (R - S) + (E + (P - E))).natAbs = t at *
  generalize (S + (R - S)).natAbs = u at *
  generalize (E + (P - E)).natAbs = v at *
  generalize S.natAbs = a at *
  generalize (R - S).natAbs = b at *
  generalize E.natAbs = c at *
  generalize (P - E).natAbs = d at *
  omega
theorem abs_sum3 (R S P E R' : Int) : (R' - (S + E)).natAbs ≤ (R' - (R + P)).natAbs + (R - S).natAbs + (P - E).natAbs := by
  have e : R' - (S + E) = (R' - (R + P)) + (R - S) + (P - E) := by omega
  rw [e]
  have h1 := Int.natAbs_add_le (R' - (R + P) + (R - S)) (P - E)
  have h2 := Int.natAbs_add_le (R' - (R + P)) (R - S)
  generalize (R' - (R + P) + (R - S) + (P - E)).natAbs = t at *
  generalize (R' - (R + P) + (R - S)).natAbs = u at *
  generalize (R' - (R + P)).natAbs = a at *
  generalize (R - S).natAbs = b at *
  generalize (P - E).natAbs = c at *
  omega
/-- One step of a sum: R near S by n steps, P near a product E; R' near R + P. -/
theorem step_le {n : Nat} (hn : n ≤ 17) {K : Nat} {R S P E R' : Int} (hS : S.natAbs ≤ n * K) (hR : (16777216 * (R - S)).natAbs ≤ n * step K) (hE : E.natAbs ≤ K) (hP : Nigh P E) (hR' : Nigh R' (R + P)) :
    (16777216 * (R' - (S + E))).natAbs ≤ (n + 1) * step K := by
  unfold Nigh at hP hR'
  have h1 : n * K ≤ 17 * K := Nat.mul_le_mul_right _ hn
  have h2 : n * step K ≤ 17 * step K := Nat.mul_le_mul_right _ hn
  have h3 : step K = 20 * K + 4 * tin := rfl
  have h4 := abs_sum4 R S P E
  have h5 := abs_sum3 R S P E R'
  rw [abs_mul24] at hP hR' hR ⊢
  rw [Nat.add_mul, Nat.one_mul]
  generalize n * K = nK at *
  generalize n * step K = nQ at *
  generalize step K = Q at *
  generalize (R' - (S + E)).natAbs = a1 at *
  generalize (R' - (R + P)).natAbs = a2 at *
  generalize (R + P).natAbs = a3 at *
  generalize (R - S).natAbs = a4 at *
  generalize (P - E).natAbs = a5 at *
  generalize E.natAbs = a6 at *
  generalize S.natAbs = a7 at *
  omega
theorem sum_big {n : Nat} (hn : n ≤ 17) {K : Nat} {R S P E : Int} (hK : K ≤ 2 ^ 2205) (hS : S.natAbs ≤ n * K) (hR : (16777216 * (R - S)).natAbs ≤ n * step K) (hE : E.natAbs ≤ K) (hP : Nigh P E) : (R + P).natAbs < much := by
  unfold Nigh at hP
  have h1 : n * K ≤ 17 * K := Nat.mul_le_mul_right _ hn
  have h2 : n * step K ≤ 17 * step K := Nat.mul_le_mul_right _ hn
  have h3 : step K = 20 * K + 4 * tin := rfl
  have h4 := much_big
  have h5 := abs_sum4 R S P E
  rw [abs_mul24] at hP hR
  generalize n * K = nK at *
  generalize n * step K = nQ at *
  generalize step K = Q at *
  generalize 2 ^ 2205 = A at *
  generalize (R + P).natAbs = a3 at *
  generalize (R - S).natAbs = a4 at *
  generalize (P - E).natAbs = a5 at *
  generalize E.natAbs = a6 at *
  generalize S.natAbs = a7 at *
  omega
theorem small_big {K : Nat} {E : Int} (hK : K ≤ 2 ^ 2205) (hE : E.natAbs ≤ 40 * K + tin) : E.natAbs < much := by
  have h4 := much_big
  generalize 2 ^ 2205 = A at *
  omega

theorem zero32 : FV single 0 0 := ⟨false, 0, single.leastPlace, by decide +kernel, Int.le_refl _, by decide +kernel⟩
theorem zero64 : FV double 0 0 := ⟨false, 0, double.leastPlace, by decide +kernel, Int.le_refl _, by decide +kernel⟩

theorem dot_near {x c : Nat → Nat} {X C E : Nat → Int} {K : Nat} (hK : K ≤ 2 ^ 2205) (N : Nat) (hN : N ≤ 18) (hx : ∀ j, j < N → FV single (x j) (X j) ∧ (X j).natAbs ≤ K) (hc : ∀ j, j < N → FV single (c j) (C j) ∧ (C j).natAbs ≤ un.natAbs)
    (hE : ∀ j, j < N → X j * C j = E j * un) (n : Nat) (hn : n ≤ N) : ∃ s R, dot x c n = some s ∧ FV single s R ∧ (16777216 * (R - sumE E n)).natAbs ≤ n * step K := by
  induction n with
  | zero => exact ⟨0, 0, rfl, zero32, by simp [sumE]⟩
  | succ n ih =>
    obtain ⟨s, R, hs, hR, hd⟩ := ih (by omega)
    have hEn : (E n).natAbs ≤ K := prod_le (hE n (by omega)) (hx n (by omega)).2 (hc n (by omega)).2
    have hSn : (sumE E n).natAbs ≤ n * K := sumE_le n fun j hj => prod_le (hE j (by omega)) (hx j (by omega)).2 (hc j (by omega)).2
    obtain ⟨p, P, hp, hP, hPe⟩ := mul_near good32 (hx n (by omega)).1 (hc n (by omega)).1 (hE n (by omega)) (small_big hK (by omega))
    have hPn := nigh_of b32 hPe
    obtain ⟨r, R', hr, hR', hRe⟩ := add_near good32 hR hP (sum_big (by omega) hK hSn hd hEn hPn)
    refine ⟨r, R', ?_, hR', step_le (by omega) hSn hd hEn hPn (nigh_of b32 hRe)⟩
    rw [dot, hs]
    show (gmul (x n) (c n)).bind _ = _
    unfold gmul
    rw [hp]
    exact hr
theorem dotD_near {x c : Nat → Nat} {X C E : Nat → Int} {K : Nat} (hK : K ≤ 2 ^ 2205) (N : Nat) (hN : N ≤ 18) (hx : ∀ j, j < N → FV double (x j) (X j) ∧ (X j).natAbs ≤ K) (hc : ∀ j, j < N → FV double (c j) (C j) ∧ (C j).natAbs ≤ un.natAbs)
    (hE : ∀ j, j < N → X j * C j = E j * un) (n : Nat) (hn : n ≤ N) : ∃ s R, dotD x c n = some s ∧ FV double s R ∧ (16777216 * (R - sumE E n)).natAbs ≤ n * step K := by
  induction n with
  | zero => exact ⟨0, 0, rfl, zero64, by simp [sumE]⟩
  | succ n ih =>
    obtain ⟨s, R, hs, hR, hd⟩ := ih (by omega)
    have hEn : (E n).natAbs ≤ K := prod_le (hE n (by omega)) (hx n (by omega)).2 (hc n (by omega)).2
    have hSn : (sumE E n).natAbs ≤ n * K := sumE_le n fun j hj => prod_le (hE j (by omega)) (hx j (by omega)).2 (hc j (by omega)).2
    obtain ⟨p, P, hp, hP, hPe⟩ := mul_near good64 (hx n (by omega)).1 (hc n (by omega)).1 (hE n (by omega)) (small_big hK (by omega))
    have hPn := nigh_of b64 hPe
    obtain ⟨r, R', hr, hR', hRe⟩ := add_near good64 hR hP (sum_big (by omega) hK hSn hd hEn hPn)
    refine ⟨r, R', ?_, hR', step_le (by omega) hSn hd hEn hPn (nigh_of b64 hRe)⟩
    rw [dotD, hs]
    show (fmul (x n) (c n)).bind _ = _
    unfold fmul
    rw [hp]
    exact hr

/-- Two numbers of tables, of 32 and of 64 bits, that are near each other and no greater than one. -/
structure Pair (a b : Nat) (A B : Int) : Prop where
  fa : FV single a A
  fb : FV double b B
  la : A.natAbs ≤ un.natAbs
  lb : B.natAbs ≤ un.natAbs
  near : (1048576 * (A - B)).natAbs ≤ un.natAbs
def pairB (a b : Nat) : Bool :=
  finB single a && finB double b && decide ((valZ single a).natAbs ≤ un.natAbs) && decide ((valZ double b).natAbs ≤ un.natAbs) && decide ((1048576 * (valZ single a - valZ double b)).natAbs ≤ un.natAbs)
theorem pair_of {a b : Nat} (h : pairB a b = true) : ∃ A B, Pair a b A B := by
  unfold pairB at h
  simp only [Bool.and_eq_true, decide_eq_true_eq] at h
  exact ⟨_, _, fv_of h.1.1.1.1, fv_of h.1.1.1.2, h.1.1.2, h.1.2, h.2⟩

/-- Exact products by near numbers are near. -/
theorem prods_near {X A B E F : Int} {K : Nat} (hE : X * A = E * un) (hF : X * B = F * un) (hx : X.natAbs ≤ K) (h : (1048576 * (A - B)).natAbs ≤ un.natAbs) : (1048576 * (E - F)).natAbs ≤ K := by
  have e : X * (1048576 * (A - B)) = 1048576 * (E - F) * un := by
    rw [Int.mul_left_comm, Int.mul_sub, hE, hF, ← Int.sub_mul, Int.mul_assoc]
  exact prod_le e hx h
theorem sums_near {E F : Nat → Int} {K : Nat} (n : Nat) (h : ∀ j, j < n → (1048576 * (E j - F j)).natAbs ≤ K) : (1048576 * (sumE E n - sumE F n)).natAbs ≤ n * K := by
  induction n with
  | zero => simp [sumE]
  | succ n ih =>
    have h1 := ih fun j hj => h j (by omega)
    have h2 := h n (by omega)
    rw [sumE, sumE, Nat.add_mul, Nat.one_mul]
    omega
end Go.Proofs.YtppfldobgemddaaDoor
