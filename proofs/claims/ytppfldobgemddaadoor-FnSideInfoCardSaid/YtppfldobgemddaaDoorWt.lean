/-
  The words of the package's tables and of the reference's window: which operations of floats make them, and that each is one.
-/
import Derived.Test.YtppfldobgemddaaDoorMb
namespace Go.Proofs.YtppfldobgemddaaDoor
open Go.RowKit
set_option linter.unusedVariables false

/-- A word of 64 bits made one of 32. -/
def to32 (x : Nat) : Option Nat := floatToFloatBits .f64 x .f32
def fint (k : Nat) : Nat := floatOfInt .f64 k
/-- The words that math.Sin is handed: p * (i + 0.5), and p * (i + 0.5 - l). -/
def argA (p i : Nat) : Option Nat := (fadd (fint i) 4602678819172646912).bind fun a => fmul p a
def argB (p i l : Nat) : Option Nat := (fadd (fint i) 4602678819172646912).bind fun a => (fsub a l).bind fun b => fmul p b
def winA (p i : Nat) : Option Nat := (argA p i).bind fun c => (sinO c).bind to32
def winB (p i l : Nat) : Option Nat := (argB p i l).bind fun c => (sinO c).bind to32
/-- The package's windows. -/
def winO (b i : Nat) : Option Nat :=
  if b = 0 then winA 4590952631998301319 i
  else if b = 1 then (if i < 18 then winA 4590952631998301319 i else if i < 24 then some 1065353216 else if i < 30 then winB 4598387778419258214 i 4625759767262920704 else some 0)
  else if b = 2 then (if i < 12 then winA 4598387778419258214 i else some 0)
  else (if i < 6 then some 0 else if i < 12 then winB 4598387778419258214 i 4618441417868443648 else if i < 18 then some 1065353216 else winA 4590952631998301319 i)
def winW (b i : Nat) : Nat := (winO b i).getD 0
theorem win_some : ∀ b : Fin 4, ∀ i : Fin 36, (winO b i).isSome = true := by decide +kernel
theorem win_is (b i : Nat) (hb : b < 4) (hi : i < 36) : winO b i = some (winW b i) := by
  have := win_some ⟨b, hb⟩ ⟨i, hi⟩
  obtain ⟨r, hr⟩ := Option.isSome_iff_exists.1 this
  unfold winW
  have hr' : winO b i = some r := hr
  rw [hr']; rfl
/-- The word that math.Cos is handed for the package's table: (p * ((2 * j + 1) + h)) * (2 * i + 1). -/
def argC (p h i j : Nat) : Option Nat :=
  (fmul 4611686018427387904 (fint j)).bind fun a => (fadd a 4607182418800017408).bind fun b => (fadd b h).bind fun c => (fmul p c).bind fun d =>
  (fmul 4611686018427387904 (fint i)).bind fun e => (fadd e 4607182418800017408).bind fun g => fmul d g
def cosT (p h i j : Nat) : Option Nat := (argC p h i j).bind fun c => (cosO c).bind to32
def c36O (i j : Nat) : Option Nat := cosT 4586449032370930823 4625759767262920704 i j
def c36W (i j : Nat) : Nat := (c36O i j).getD 0
theorem c36_some : ∀ i : Fin 18, ∀ j : Fin 36, (c36O i j).isSome = true := by decide +kernel
theorem c36_is (i j : Nat) (hi : i < 18) (hj : j < 36) : c36O i j = some (c36W i j) := by
  have := c36_some ⟨i, hi⟩ ⟨j, hj⟩
  obtain ⟨r, hr⟩ := Option.isSome_iff_exists.1 this
  unfold c36W
  have hr' : c36O i j = some r := hr
  rw [hr']; rfl
def c12O (i j : Nat) : Option Nat := cosT 4593884178791887718 4618441417868443648 i j
def c12W (i j : Nat) : Nat := (c12O i j).getD 0
theorem c12_some : ∀ i : Fin 6, ∀ j : Fin 12, (c12O i j).isSome = true := by decide +kernel
theorem c12_is (i j : Nat) (hi : i < 6) (hj : j < 12) : c12O i j = some (c12W i j) := by
  have := c12_some ⟨i, hi⟩ ⟨j, hj⟩
  obtain ⟨r, hr⟩ := Option.isSome_iff_exists.1 this
  unfold c12W
  have hr' : c12O i j = some r := hr
  rw [hr']; rfl
end Go.Proofs.YtppfldobgemddaaDoor
