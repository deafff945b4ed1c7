/-
  The contracts of math.Cos and math.Sin, joined.
-/
import Derived.Test.YtppfldobgemddaaDoorCw
namespace Go.Proofs.YtppfldobgemddaaDoor
open Go.RowKit
set_option linter.unusedVariables false

theorem cos53_any (x r : Nat) (h : cosO x = some r) (w : World) (hT : Tabs w) :
    Calls Tryd.prog 53 #[.float .f64 x] w fun e w' => e = .returned (.float .f64 r) ∧ w = w' := by
  obtain ⟨ht, j, z, hred, hj, hway⟩ := cos_at h
  obtain ⟨t, k, r1, r2, hpar⟩ := hred.ex
  rcases hpar with ⟨hk, rfl, y, r3, hrest⟩ | ⟨hk, rfl, hrest⟩
  · rcases hway with ⟨h8, hw⟩ | ⟨h8, s, hw, rfl⟩ | ⟨h8, s, hw, rfl⟩ | ⟨h8, hw⟩
    · exact cos_1_0 x t k z _ y w hT ht r1 r2 (by omega) r3 hk h8 hrest hw
    · exact cos_1_2 x t k z _ y w hT ht r1 r2 (by omega) r3 hk h8 hrest hw
    · exact cos_1_4 x t k z _ y w hT ht r1 r2 (by omega) r3 hk h8 hrest hw
    · exact cos_1_6 x t k z _ y w hT ht r1 r2 (by omega) r3 hk h8 hrest hw
  · rcases hway with ⟨h8, hw⟩ | ⟨h8, s, hw, rfl⟩ | ⟨h8, s, hw, rfl⟩ | ⟨h8, hw⟩
    · exact cos_0_0 x t j z _ w hT ht r1 r2 (by omega) hk h8 hrest hw
    · exact cos_0_2 x t j z _ w hT ht r1 r2 (by omega) hk h8 hrest hw
    · exact cos_0_4 x t j z _ w hT ht r1 r2 (by omega) hk h8 hrest hw
    · exact cos_0_6 x t j z _ w hT ht r1 r2 (by omega) hk h8 hrest hw
theorem sin75_any (x r : Nat) (h : sinO x = some r) (w : World) (hT : Tabs w) :
    Calls Tryd.prog 75 #[.float .f64 x] w fun e w' => e = .returned (.float .f64 r) ∧ w = w' := by
  obtain ⟨ht, j, z, hred, hj, hway⟩ := sin_at h
  obtain ⟨t, k, r1, r2, hpar⟩ := hred.ex
  rcases hpar with ⟨hk, rfl, y, r3, hrest⟩ | ⟨hk, rfl, hrest⟩
  · rcases hway with ⟨h8, hw⟩ | ⟨h8, hw⟩ | ⟨h8, s, hw, rfl⟩ | ⟨h8, s, hw, rfl⟩
    · exact sin_1_0 x t k z _ y w hT ht r1 r2 (by omega) r3 hk h8 hrest hw
    · exact sin_1_2 x t k z _ y w hT ht r1 r2 (by omega) r3 hk h8 hrest hw
    · exact sin_1_4 x t k z _ y w hT ht r1 r2 (by omega) r3 hk h8 hrest hw
    · exact sin_1_6 x t k z _ y w hT ht r1 r2 (by omega) r3 hk h8 hrest hw
  · rcases hway with ⟨h8, hw⟩ | ⟨h8, hw⟩ | ⟨h8, s, hw, rfl⟩ | ⟨h8, s, hw, rfl⟩
    · exact sin_0_0 x t j z _ w hT ht r1 r2 (by omega) hk h8 hrest hw
    · exact sin_0_2 x t j z _ w hT ht r1 r2 (by omega) hk h8 hrest hw
    · exact sin_0_4 x t j z _ w hT ht r1 r2 (by omega) hk h8 hrest hw
    · exact sin_0_6 x t j z _ w hT ht r1 r2 (by omega) hk h8 hrest hw
set_option maxHeartbeats 400000 in
theorem cos_any (x r : Nat) (h : cosO x = some r) (w : World) (hT : Tabs w) :
    Calls Tryd.prog 36 #[.float .f64 x] w fun e w' => e = .returned (.float .f64 r) ∧ w = w' := by
  have H := Lib.hid h
  clear h
  go_enter Tryd.func36, Tryd.ntmps36
  go_wp2_with (go_at_call 53; refine (cos53_any _ _ H.out _ hT).mono ?_; rintro e w' ⟨rfl, rfl⟩)
  go_ret
  exact ⟨rfl, rfl⟩
set_option maxHeartbeats 400000 in
theorem sin_any (x r : Nat) (h : sinO x = some r) (w : World) (hT : Tabs w) :
    Calls Tryd.prog 54 #[.float .f64 x] w fun e w' => e = .returned (.float .f64 r) ∧ w = w' := by
  have H := Lib.hid h
  clear h
  go_enter Tryd.func54, Tryd.ntmps54
  go_wp2_with (go_at_call 75; refine (sin75_any _ _ H.out _ hT).mono ?_; rintro e w' ⟨rfl, rfl⟩)
  go_ret
  exact ⟨rfl, rfl⟩

/-- The word that math.Sin is handed by sine: of k among n. -/
def sineAt (k n : Nat) : Option Nat :=
  (Ieee.double.div 4614256656552045848 (floatOfInt .f64 n)).bind fun a => (fadd (floatOfInt .f64 k) 4602678819172646912).bind fun b => fmul a b
def sineO (k n : Nat) : Option Nat := (sineAt k n).bind sinO
theorem opquo {x y r : Nat} (h : Ieee.double.div x y = some r) (t : TypeId) (w : World) : (binOp .quo t (.float .f64 x) (.float .f64 y)).run Tryd.prog w = .ok (.float .f64 r) w := run_float_arith w .quo t .f64 x y r h
set_option maxRecDepth 100000 in
set_option maxHeartbeats 400000 in
theorem sine_any (k n r : Nat) (h : sineO k n = some r) (w : World) (hT : Tabs w) :
    Calls Tryd.prog 38 #[.int .i64 k, .int .i64 n] w fun e w' => e = .returned (.float .f64 r) ∧ w = w' := by
  obtain ⟨c, h1, h4⟩ := bind_some h
  obtain ⟨a, h1, h2⟩ := bind_some h1
  obtain ⟨b, h2, h3⟩ := bind_some h2
  have e1 := opquo h1
  have e2 := opadd h2
  have e3 := opmul h3
  have H := Lib.hid h4
  clear h h1 h2 h3 h4
  go_enter Tryd.func38, Tryd.ntmps38
  go_wp2_with (go_at_call 54; refine (sin_any _ _ H.out _ hT).mono ?_; rintro e w' ⟨rfl, rfl⟩)
  go_ret
  exact ⟨rfl, rfl⟩
end Go.Proofs.YtppfldobgemddaaDoor
