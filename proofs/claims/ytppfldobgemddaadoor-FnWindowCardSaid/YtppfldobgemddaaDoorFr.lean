/-
  The numbers of eighths as words: what they stand for, their order, the greatest of them; the tolerance.
-/
import Derived.Test.YtppfldobgemddaaDoorFp
import Derived.Test.YtppfldobgemddaaDoorFnWindowW
namespace Go.Proofs.YtppfldobgemddaaDoor
open Ieee
set_option linter.unusedVariables false

/-- An eighth, in units. -/
def eig : Int := 2 ^ 2197
theorem eig_pos : 0 < eig := by decide +kernel
def eightB (z : Int) : Bool := finB double (e8 z) && finB single (s8 z) && decide (valZ double (e8 z) = z * eig) && decide (valZ single (s8 z) = z * eig)
theorem eight_all : ∀ z : Fin 256, eightB ((z.val : Int) - 128) = true := by decide +kernel
theorem eight_is (z : Int) (h0 : -128 ≤ z) (h1 : z ≤ 127) : FV double (e8 z) (z * eig) ∧ FV single (s8 z) (z * eig) := by
  have h := eight_all ⟨(z + 128).toNat, by omega⟩
  have e : (((z + 128).toNat : Nat) : Int) - 128 = z := by omega
  simp only [e] at h
  unfold eightB at h
  simp only [Bool.and_eq_true, decide_eq_true_eq] at h
  refine ⟨?_, ?_⟩
  · have := fv_of h.1.1.1; rwa [h.1.2] at this
  · have := fv_of h.1.1.2; rwa [h.2] at this
/-- The magnitudes: 0 to 128. -/
def magB (t : Nat) : Bool := finB double (e8 t) && decide (valZ double (e8 t) = (t : Int) * eig) && !(double.read (e8 t)).neg
theorem mag_all : ∀ t : Fin 129, magB t.val = true := by decide +kernel
theorem mag_is (t : Nat) (ht : t ≤ 128) : FV double (e8 t) ((t : Int) * eig) ∧ (double.read (e8 t)).neg = false := by
  have h := mag_all ⟨t, by omega⟩
  unfold magB at h
  simp only [Bool.and_eq_true, decide_eq_true_eq, Bool.not_eq_true'] at h
  have := fv_of h.1.1
  rw [h.1.2] at this
  exact ⟨this, h.2⟩
theorem neg_all : ∀ t : Fin 129, t.val ≠ 0 → fneg (e8 (-(t.val : Int))) = e8 t.val := by decide +kernel
theorem e8_zero : e8 0 = 0 := by decide +kernel
/-- The greatest magnitude so far. -/
def topV (V : Nat → Int) : Nat → Nat
  | 0 => 0
  | n + 1 => max (topV V n) (V n).natAbs
theorem topV_le {V : Nat → Int} {n : Nat} (h : ∀ k, k < n → -128 ≤ V k ∧ V k ≤ 127) : topV V n ≤ 128 := by
  induction n with
  | zero => exact Nat.zero_le _
  | succ n ih =>
    have h1 := ih fun k hk => h k (by omega)
    have h2 := h n (by omega)
    rw [topV]; omega
theorem le_topV {V : Nat → Int} {n k : Nat} (hk : k < n) : (V k).natAbs ≤ topV V n := by
  induction n with
  | zero => omega
  | succ n ih =>
    rw [topV]
    by_cases e : k = n
    · subst e; omega
    · have := ih (by omega); omega
theorem cmp_eig (a b : Int) : compare (a * eig) (b * eig) = compare a b := cmp_scale a b 2197
theorem maxO_cases {x y : Nat} {a b : Int} (hx : FV double x (a * eig)) (hy : FV double y (b * eig)) :
    (a < b → maxO x y = some y) ∧ (b < a → maxO x y = some x) ∧ (a = b → (double.read x).neg = false → maxO x y = some x) := by
  have ho := order_fv good64 hx hy
  rw [cmp_eig] at ho
  unfold maxO
  rw [ho]
  refine ⟨fun h => ?_, fun h => ?_, fun h hn => ?_⟩
  · rw [Int.compare_eq_lt.2 h]
  · rw [Int.compare_eq_gt.2 h]
  · rw [Int.compare_eq_eq.2 h]
    simp [hn]
theorem top_step (t : Nat) (ht : t ≤ 128) (z : Int) (h0 : -128 ≤ z) (h1 : z ≤ 127) : (maxO (e8 t) (e8 z)).bind (fun a => maxO a (fneg (e8 z))) = some (e8 ((max t z.natAbs : Nat) : Int)) := by
  obtain ⟨ft, nt⟩ := mag_is t ht
  have fz := (eight_is z h0 h1).1
  have fn : FV double (fneg (e8 z)) ((-z) * eig) := by rw [Int.neg_mul]; exact fneg_fv fz
  obtain ⟨m1, m2, m3⟩ := maxO_cases ft fz
  by_cases hz : (t : Int) < z
  · have e := m1 hz
    rw [e]
    show maxO (e8 z) (fneg (e8 z)) = _
    obtain ⟨_, k2, _⟩ := maxO_cases fz fn
    rw [k2 (by omega)]
    congr 1; congr 1; omega
  · have e : maxO (e8 t) (e8 z) = some (e8 t) := by
      by_cases h : z = t
      · exact m3 h.symm nt
      · exact m2 (by omega)
    rw [e]
    show maxO (e8 t) (fneg (e8 z)) = _
    obtain ⟨k1, k2, k3⟩ := maxO_cases ft fn
    by_cases hn : (t : Int) < -z
    · rw [k1 hn]
      have := neg_all ⟨(-z).toNat, by omega⟩ (by show (-z).toNat ≠ 0; omega)
      simp only at this
      have e2 : -(((-z).toNat : Nat) : Int) = z := by omega
      rw [e2] at this
      rw [this]
      congr 2; omega
    · have e3 : maxO (e8 t) (fneg (e8 z)) = some (e8 t) := by
        by_cases h : (t : Int) = -z
        · exact k3 h nt
        · exact k2 (by omega)
      rw [e3]
      congr 2; omega
theorem top_is (V : Nat → Int) (n : Nat) (h : ∀ k, k < n → -128 ≤ V k ∧ V k ≤ 127) : topO (fun k => e8 (V k)) n = some (e8 (topV V n)) := by
  induction n with
  | zero => show some 0 = some (e8 0); rw [e8_zero]
  | succ n ih =>
    rw [topO, ih fun k hk => h k (by omega)]
    exact top_step _ (topV_le fun k hk => h k (by omega)) _ (h n (by omega)).1 (h n (by omega)).2

/-- The tolerance, and that it is no less than some. -/
def tolO (t : Nat) : Option Nat := (fmul 4625759767262920704 t).bind fun m => (double.div m 4671226772094713856).bind fun q => fadd q 4472406533629990549
def tolB (t : Nat) : Bool :=
  match tolO (e8 t) with
  | some r => finB double r && decide ((t : Int) * eig + 2048 * ((2 ^ 2170 : Nat) : Int) ≤ 2048 * valZ double r)
  | none => false
theorem tol_all : ∀ t : Fin 129, tolB t.val = true := by decide +kernel
theorem tol_is (t : Nat) (ht : t ≤ 128) : ∃ m q r R, fmul 4625759767262920704 (e8 t) = some m ∧ double.div m 4671226772094713856 = some q ∧ fadd q 4472406533629990549 = some r ∧ FV double r R ∧ (t : Int) * eig + 2048 * ((2 ^ 2170 : Nat) : Int) ≤ 2048 * R := by
  have h := tol_all ⟨t, by omega⟩
  unfold tolB at h
  cases ho : tolO (e8 t) with
  | none => simp only [ho] at h; cases h
  | some r =>
    simp only [ho, Bool.and_eq_true, decide_eq_true_eq] at h
    obtain ⟨m, h1, h2⟩ := bind_some ho
    obtain ⟨q, h2, h3⟩ := bind_some h2
    exact ⟨m, q, r, _, h1, h2, h3, fv_of h.1, h.2⟩
end Go.Proofs.YtppfldobgemddaaDoor
