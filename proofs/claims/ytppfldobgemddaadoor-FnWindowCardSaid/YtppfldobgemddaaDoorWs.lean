/-
  The words of the reference's windows and cosines, and the contract of spec.shape.
-/
import Derived.Test.YtppfldobgemddaaDoorCx
import Derived.Test.YtppfldobgemddaaDoorWt
namespace Go.Proofs.YtppfldobgemddaaDoor
open Go.RowKit
set_option linter.unusedVariables false

/-- The reference's windows. -/
def shapeO (k b : Nat) : Option Nat :=
  if b = 1 then (if 30 ≤ k then some 0 else if 24 ≤ k then sineO (k - 18) 12 else if 18 ≤ k then some 4607182418800017408 else sineO k 36)
  else if b = 3 then (if k < 6 then some 0 else if k < 12 then sineO (k - 6) 12 else if k < 18 then some 4607182418800017408 else sineO k 36)
  else sineO k 36

theorem sine_at (K : Int) (k n r : Nat) (h : sineO k n = some r) (hK : K = k) (w : World) (hT : Tabs w) :
    Calls Tryd.prog 38 #[.int .i64 K, .int .i64 n] w fun e w' => e = .returned (.float .f64 r) ∧ w = w' := by
  subst hK
  exact sine_any k n r h w hT
set_option maxRecDepth 100000 in
set_option maxHeartbeats 400000 in
theorem shape_one (k r : Nat) (hk : k < 36) (h : shapeO k 1 = some r) (w : World) (hT : Tabs w) :
    Calls Tryd.prog 37 #[.int .i64 k, .int .i64 1] w fun e w' => e = .returned (.float .f64 r) ∧ w = w' := by
  unfold shapeO at h
  rw [if_pos rfl] at h
  by_cases h30 : 30 ≤ k
  · rw [if_pos h30] at h
    injection h with h
    subst h
    have i1 : (30 : Int) ≤ k := by omega
    go_enter Tryd.func37, Tryd.ntmps37
    go_wp2_with fail
    go_ret
    exact ⟨rfl, rfl⟩
  · rw [if_neg h30] at h
    have i1 : (k : Int) < 30 := by omega
    by_cases h24 : 24 ≤ k
    · rw [if_pos h24] at h
      obtain ⟨m, hm⟩ : ∃ m, k - 18 = m := ⟨_, rfl⟩
      rw [hm] at h
      have hm' : (k : Int) - 18 ≤ m ∧ (m : Int) ≤ (k : Int) - 18 := by omega
      clear hm
      have H := Lib.hid h
      clear h
      have i2 : (24 : Int) ≤ (k : Int) := by omega
      go_enter Tryd.func37, Tryd.ntmps37
      go_wp2_with (go_at_call 38; refine (sine_at _ m 12 r H.out (by omega) _ hT).mono ?_; rintro e w' ⟨rfl, rfl⟩)
      go_ret
      exact ⟨rfl, rfl⟩
    · rw [if_neg h24] at h
      have i2 : (k : Int) < 24 := by omega
      by_cases h18 : 18 ≤ k
      · rw [if_pos h18] at h
        injection h with h
        subst h
        have i3 : (18 : Int) ≤ k := by omega
        go_enter Tryd.func37, Tryd.ntmps37
        go_wp2_with fail
        go_ret
        exact ⟨rfl, rfl⟩
      · rw [if_neg h18] at h
        have H := Lib.hid h
        clear h
        have i3 : (k : Int) < 18 := by omega
        go_enter Tryd.func37, Tryd.ntmps37
        go_wp2_with (go_at_call 38; refine (sine_any _ _ _ H.out _ hT).mono ?_; rintro e w' ⟨rfl, rfl⟩)
        go_ret
        exact ⟨rfl, rfl⟩
set_option maxRecDepth 100000 in
set_option maxHeartbeats 400000 in
theorem shape_three (k r : Nat) (hk : k < 36) (h : shapeO k 3 = some r) (w : World) (hT : Tabs w) :
    Calls Tryd.prog 37 #[.int .i64 k, .int .i64 3] w fun e w' => e = .returned (.float .f64 r) ∧ w = w' := by
  unfold shapeO at h
  rw [if_neg (by decide), if_pos rfl] at h
  by_cases h6 : k < 6
  · rw [if_pos h6] at h
    injection h with h
    subst h
    have i1 : (k : Int) < 6 := by omega
    go_enter Tryd.func37, Tryd.ntmps37
    go_wp2_with fail
    go_ret
    exact ⟨rfl, rfl⟩
  · rw [if_neg h6] at h
    have i1 : (6 : Int) ≤ k := by omega
    by_cases h12 : k < 12
    · rw [if_pos h12] at h
      obtain ⟨m, hm⟩ : ∃ m, k - 6 = m := ⟨_, rfl⟩
      rw [hm] at h
      have hm' : (k : Int) - 6 ≤ m ∧ (m : Int) ≤ (k : Int) - 6 := by omega
      clear hm
      have H := Lib.hid h
      clear h
      have i2 : (k : Int) < 12 := by omega
      go_enter Tryd.func37, Tryd.ntmps37
      go_wp2_with (go_at_call 38; refine (sine_at _ m 12 r H.out (by omega) _ hT).mono ?_; rintro e w' ⟨rfl, rfl⟩)
      go_ret
      exact ⟨rfl, rfl⟩
    · rw [if_neg h12] at h
      have i2 : (12 : Int) ≤ k := by omega
      by_cases h18 : k < 18
      · rw [if_pos h18] at h
        injection h with h
        subst h
        have i3 : (k : Int) < 18 := by omega
        go_enter Tryd.func37, Tryd.ntmps37
        go_wp2_with fail
        go_ret
        exact ⟨rfl, rfl⟩
      · rw [if_neg h18] at h
        have H := Lib.hid h
        clear h
        have i3 : (18 : Int) ≤ k := by omega
        go_enter Tryd.func37, Tryd.ntmps37
        go_wp2_with (go_at_call 38; refine (sine_any _ _ _ H.out _ hT).mono ?_; rintro e w' ⟨rfl, rfl⟩)
        go_ret
        exact ⟨rfl, rfl⟩
set_option maxRecDepth 100000 in
set_option maxHeartbeats 400000 in
theorem shape_nought (k r : Nat) (hk : k < 36) (h : shapeO k 0 = some r) (w : World) (hT : Tabs w) :
    Calls Tryd.prog 37 #[.int .i64 k, .int .i64 0] w fun e w' => e = .returned (.float .f64 r) ∧ w = w' := by
  unfold shapeO at h
  rw [if_neg (by decide), if_neg (by decide)] at h
  have H := Lib.hid h
  clear h
  go_enter Tryd.func37, Tryd.ntmps37
  go_wp2_with (go_at_call 38; refine (sine_any _ _ _ H.out _ hT).mono ?_; rintro e w' ⟨rfl, rfl⟩)
  go_ret
  exact ⟨rfl, rfl⟩
theorem shape_any (k r b : Nat) (hk : k < 36) (hb : b = 0 ∨ b = 1 ∨ b = 3) (h : shapeO k b = some r) (w : World) (hT : Tabs w) :
    Calls Tryd.prog 37 #[.int .i64 k, .int .i64 b] w fun e w' => e = .returned (.float .f64 r) ∧ w = w' := by
  rcases hb with rfl | rfl | rfl
  · exact shape_nought k r hk h w hT
  · exact shape_one k r hk h w hT
  · exact shape_three k r hk h w hT
end Go.Proofs.YtppfldobgemddaaDoor
