/-
  The package's tables lie near the reference's cosines and windows.
-/
import Derived.Test.YtppfldobgemddaaDoorFp
namespace Go.Proofs.YtppfldobgemddaaDoor
open Ieee
set_option linter.unusedVariables false

theorem pair36_0 : ∀ p : Fin 6, ∀ m : Fin 18, pairB (c36W m (p.val + 0)) (k36W (p.val + 0) m) = true := by decide +kernel
theorem pair36_1 : ∀ p : Fin 6, ∀ m : Fin 18, pairB (c36W m (p.val + 6)) (k36W (p.val + 6) m) = true := by decide +kernel
theorem pair36_2 : ∀ p : Fin 6, ∀ m : Fin 18, pairB (c36W m (p.val + 12)) (k36W (p.val + 12) m) = true := by decide +kernel
theorem pair36_3 : ∀ p : Fin 6, ∀ m : Fin 18, pairB (c36W m (p.val + 18)) (k36W (p.val + 18) m) = true := by decide +kernel
theorem pair36_4 : ∀ p : Fin 6, ∀ m : Fin 18, pairB (c36W m (p.val + 24)) (k36W (p.val + 24) m) = true := by decide +kernel
theorem pair36_5 : ∀ p : Fin 6, ∀ m : Fin 18, pairB (c36W m (p.val + 30)) (k36W (p.val + 30) m) = true := by decide +kernel
theorem pair36 (p m : Nat) (hp : p < 36) (hm : m < 18) : ∃ A B, Pair (c36W m p) (k36W p m) A B := by
  have h : pairB (c36W m p) (k36W p m) = true := by
    have hw : p < 6 ∨ (6 ≤ p ∧ p < 12) ∨ (12 ≤ p ∧ p < 18) ∨ (18 ≤ p ∧ p < 24) ∨ (24 ≤ p ∧ p < 30) ∨ (30 ≤ p ∧ p < 36) := by omega
    rcases hw with hw | hw | hw | hw | hw | hw
    · have := pair36_0 ⟨p - 0, by omega⟩ ⟨m, hm⟩
      simp only [show p - 0 + 0 = p by omega] at this
      exact this
    · have := pair36_1 ⟨p - 6, by omega⟩ ⟨m, hm⟩
      simp only [show p - 6 + 6 = p by omega] at this
      exact this
    · have := pair36_2 ⟨p - 12, by omega⟩ ⟨m, hm⟩
      simp only [show p - 12 + 12 = p by omega] at this
      exact this
    · have := pair36_3 ⟨p - 18, by omega⟩ ⟨m, hm⟩
      simp only [show p - 18 + 18 = p by omega] at this
      exact this
    · have := pair36_4 ⟨p - 24, by omega⟩ ⟨m, hm⟩
      simp only [show p - 24 + 24 = p by omega] at this
      exact this
    · have := pair36_5 ⟨p - 30, by omega⟩ ⟨m, hm⟩
      simp only [show p - 30 + 30 = p by omega] at this
      exact this
  exact pair_of h
theorem pair12_all : ∀ p : Fin 12, ∀ m : Fin 6, pairB (c12W m p) (k12W p m) = true := by decide +kernel
theorem pair12 (p m : Nat) (hp : p < 12) (hm : m < 6) : ∃ A B, Pair (c12W m p) (k12W p m) A B := pair_of (pair12_all ⟨p, hp⟩ ⟨m, hm⟩)
def pairO (a : Nat) (o : Option Nat) : Bool :=
  match o with
  | some r => pairB a r
  | none => false
theorem pairO_of {a : Nat} {o : Option Nat} (h : pairO a o = true) : ∃ r A B, o = some r ∧ Pair a r A B := by
  cases o with
  | none => cases h
  | some r => obtain ⟨A, B, hp⟩ := pair_of h; exact ⟨r, A, B, rfl, hp⟩
theorem pairS0_all : ∀ p : Fin 36, pairO (winW 0 p) (shapeO p 0) = true := by decide +kernel
theorem pairS1_all : ∀ p : Fin 36, pairO (winW 1 p) (shapeO p 1) = true := by decide +kernel
theorem pairS3_all : ∀ p : Fin 36, pairO (winW 3 p) (shapeO p 3) = true := by decide +kernel
theorem pairS (b p : Nat) (hb : b < 4) (hb2 : b ≠ 2) (hp : p < 36) : ∃ r A B, shapeO p b = some r ∧ Pair (winW b p) r A B := by
  have : b = 0 ∨ b = 1 ∨ b = 3 := by omega
  rcases this with rfl | rfl | rfl
  · exact pairO_of (pairS0_all ⟨p, hp⟩)
  · exact pairO_of (pairS1_all ⟨p, hp⟩)
  · exact pairO_of (pairS3_all ⟨p, hp⟩)
theorem pairS2_all : ∀ p : Fin 12, pairO (winW 2 p) (sineO p 12) = true := by decide +kernel
theorem pairS2 (p : Nat) (hp : p < 12) : ∃ r A B, sineO p 12 = some r ∧ Pair (winW 2 p) r A B := pairO_of (pairS2_all ⟨p, hp⟩)
end Go.Proofs.YtppfldobgemddaaDoor
