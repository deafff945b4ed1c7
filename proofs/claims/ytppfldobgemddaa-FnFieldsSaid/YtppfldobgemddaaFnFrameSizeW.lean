/-
  The walk of laws.FnFrameSize.
-/
import Derived.Test.YtppfldobgemddaaHs
import Derived.Test.YtppfldobgemddaaFnRateW
namespace Go.Proofs.Ytppfldobgemddaa
open Go.RowKit
set_option linter.unusedVariables false

theorem fLayer_hW (n : Int) : fLayer (hW n) = 1 := by
  have := hB_bd n; have := hR_bd n; have := hP_bd n; have := hM_bd n; have := hJ_bd n; have := hV_bd n; have := hK_bd n
  unfold fLayer hW wordOf; omega
theorem fBI_hW (n : Int) : fBI (hW n) = hB n := by
  have := hB_bd n; have := hR_bd n; have := hP_bd n; have := hM_bd n; have := hJ_bd n; have := hV_bd n; have := hK_bd n
  unfold fBI hW wordOf; omega
theorem fPad_hW (n : Int) : fPad (hW n) = hP n := by
  have := hB_bd n; have := hR_bd n; have := hP_bd n; have := hM_bd n; have := hJ_bd n; have := hV_bd n; have := hK_bd n
  unfold fPad hW wordOf; omega

/-- How many bytes the frame of a number has. -/
def hS (n : Int) : Int := 144 * br (hB n) / hz (hR n) + hP n
theorem ifsizeH (n : Int) (w : World) :
    Calls Try.prog 18 #[.int .u32 (hW n)] w fun e w' => e = .returned (.tuple #[.int .i64 (hS n), .bool true]) ∧ Below w.heap.size w w' := by
  have b := hW_bd n; have r := hR_bd n; have s := fSF_hW n
  have := ifsize_any (hW n) b.1 b.2 (fID_hW n) (fLayer_hW n) (by omega) w
  rwa [s, fBI_hW, fPad_hW] at this
theorem hsizeH (n : Int) (w : World) :
    Calls Try.prog 19 #[.agg #[.int .i64 (hB n), .int .i64 (hR n), .int .i64 (hP n), .int .i64 (hM n), .int .i64 (hJ n), .int .i64 (hV n), .int .i64 (hK n)]] w fun e w' => e = .returned (.int .i64 (hS n)) ∧ Below w.heap.size w w' := by
  have b := hB_bd n; have r := hR_bd n; have p := hP_bd n
  exact hsize_any _ _ _ _ _ _ _ (by omega) (by omega) r.1 r.2 p.1 p.2 w

set_option maxHeartbeats 400000 in
theorem fnFrameSize_walk (n : Int) (w0 : (Lit.int .u32 n).wf = true) (w : World) :
    Calls Try.prog 7 #[.int .u32 n] w fun e w' => e = .returned (.bool true) ∧ Below w.heap.size w w' := by
  have hb := bounds_u32 w0
  obtain ⟨h0, h1⟩ := hb
  clear w0
  go_enter Try.func7, Try.ntmps7
  go_wp2_with fail
  refine (headOf_any n h0 h1 _).mono ?_
  rintro e w1 ⟨rfl, hb1⟩
  go_wp2_with fail
  refine (wordH n _).mono ?_
  rintro e w2 ⟨rfl, hb2⟩
  obtain ⟨hc, hf⟩ := bcell hb2
  have hz2 : w1.heap.size < w2.heap.size := by have := hb2.size; simp at this; omega
  go_wp2_with fail
  refine (ifsizeH n _).mono ?_
  rintro e w3 ⟨rfl, hb3⟩
  obtain ⟨hc3, hf3⟩ := bcell hb3
  go_wp2_with fail
  refine (hsizeH n _).mono ?_
  rintro e w4 ⟨rfl, hb4⟩
  go_wp2_with fail
  go_returns
  exact ⟨by simp, stp (stp (stp (stpA hb1 _) hb2) hb3) hb4⟩
end Go.Proofs.Ytppfldobgemddaa
