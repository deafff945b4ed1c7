/-
  The walk of laws.FnRate.
-/
import Derived.Test.YtppfldobgemddaaFi
import Derived.Test.YtppfldobgemddaaAid
namespace Go.Proofs.Ytppfldobgemddaa
open Go.RowKit
set_option linter.unusedVariables false

/-- The word of the header of a number. -/
def hW (n : Int) : Int := wordOf (hB n) (hR n) (hP n) (hM n) (hJ n) (hV n) (hK n)

theorem m4_bd (m : Int) : 0 ≤ m4 m ∧ m4 m ≤ 3 := by
  unfold m4; split <;> (try split) <;> omega
theorem hB_bd (n : Int) : 9 ≤ hB n ∧ hB n ≤ 14 := by unfold hB; omega
theorem hR_bd (n : Int) : 0 ≤ hR n ∧ hR n ≤ 2 := by unfold hR; omega
theorem hP_bd (n : Int) : 0 ≤ hP n ∧ hP n ≤ 1 := by unfold hP; omega
theorem hM_bd (n : Int) : 0 ≤ hM n ∧ hM n ≤ 3 := m4_bd _
theorem hJ_bd (n : Int) : 0 ≤ hJ n ∧ hJ n ≤ 2 := by unfold hJ; split <;> omega
theorem hV_bd (n : Int) : 0 ≤ hV n ∧ hV n ≤ 1 := by unfold hV; omega
theorem hK_bd (n : Int) : 0 ≤ hK n ∧ hK n ≤ 15 := by have := e3_bd (n / 512 % 3); unfold hK; omega

theorem hW_bd (n : Int) : 0 ≤ hW n ∧ hW n ≤ 4294967295 := by
  have := hB_bd n; have := hR_bd n; have := hP_bd n; have := hM_bd n; have := hJ_bd n; have := hV_bd n; have := hK_bd n
  unfold hW wordOf; omega
theorem fID_hW (n : Int) : fID (hW n) = 3 := by
  have := hB_bd n; have := hR_bd n; have := hP_bd n; have := hM_bd n; have := hJ_bd n; have := hV_bd n; have := hK_bd n
  unfold fID hW wordOf; omega
theorem fSF_hW (n : Int) : fSF (hW n) = hR n := by
  have := hB_bd n; have := hR_bd n; have := hP_bd n; have := hM_bd n; have := hJ_bd n; have := hV_bd n; have := hK_bd n
  unfold fSF hW wordOf; omega

theorem wordH (n : Int) (w : World) :
    Calls Try.prog 11 #[.agg #[.int .i64 (hB n), .int .i64 (hR n), .int .i64 (hP n), .int .i64 (hM n), .int .i64 (hJ n), .int .i64 (hV n), .int .i64 (hK n)]] w fun e w' => e = .returned (.int .u32 (hW n)) ∧ Below w.heap.size w w' := by
  have b1 := hB_bd n; have b2 := hR_bd n; have b3 := hP_bd n; have b4 := hM_bd n; have b5 := hJ_bd n; have b6 := hV_bd n; have b7 := hK_bd n
  exact word_any _ _ _ _ _ _ _ (by omega) (by omega) (by omega) (by omega) (by omega) (by omega) (by omega) w

theorem rateH (n : Int) (w : World) :
    Calls Try.prog 10 #[.int .u32 (hW n)] w fun e w' => e = .returned (.tuple #[.int .i64 (hz (hR n)), .bool true]) ∧ ∃ n, w' = w.drewN n := by
  have b := hW_bd n; have r := hR_bd n; have s := fSF_hW n
  have := rate_any (hW n) b.1 b.2 (fID_hW n) (by omega) w
  rwa [s] at this

theorem hertzH (n : Int) (w : World) :
    Calls Try.prog 12 #[.agg #[.int .i64 (hB n), .int .i64 (hR n), .int .i64 (hP n), .int .i64 (hM n), .int .i64 (hJ n), .int .i64 (hV n), .int .i64 (hK n)]] w fun e w' => e = .returned (.int .i64 (hz (hR n))) ∧ Below w.heap.size w w' :=
  hertz_any _ _ _ _ _ _ _ (hR_bd n).1 (hR_bd n).2 w

set_option maxHeartbeats 400000 in
theorem fnRate_walk (n : Int) (w0 : (Lit.int .u32 n).wf = true) (w : World) :
    Calls Try.prog 3 #[.int .u32 n] w fun e w' => e = .returned (.bool true) ∧ Below w.heap.size w w' := by
  have hb := bounds_u32 w0
  obtain ⟨h0, h1⟩ := hb
  clear w0
  go_enter Try.func3, Try.ntmps3
  go_wp2_with fail
  refine (headOf_any n h0 h1 _).mono ?_
  rintro e w1 ⟨rfl, hb1⟩
  go_wp2_with fail
  refine (wordH n _).mono ?_
  rintro e w2 ⟨rfl, hb2⟩
  obtain ⟨hc, hf⟩ := bcell hb2
  go_wp2_with fail
  refine (rateH n _).mono ?_
  rintro e w3 ⟨rfl, nd, rfl⟩
  go_wp2_with fail
  refine (hertzH n _).mono ?_
  rintro e w4 ⟨rfl, hb4⟩
  go_wp2_with fail
  go_returns
  refine ⟨by simp, ?_⟩
  exact stp (stpN (stp (stpA hb1 _) hb2) _) hb4
end Go.Proofs.Ytppfldobgemddaa
