/-
  The contract of spec.Head.Word.
-/
import Derived.Test.YtppfldobgemddaaDoorHd
namespace Go.Proofs.YtppfldobgemddaaDoor
open Go.RowKit
set_option linter.unusedVariables false

/-- The word of a header's fields. -/
def wordOf (B R P M J V K : Int) : Int := 4294639616 + B * 4096 + R * 1024 + P * 512 + V * 256 + M * 64 + J * 16 + K

set_option maxHeartbeats 400000 in
theorem word_any (B R P M J V K : Int) (hB : 0 ≤ B ∧ B ≤ 15) (hR : 0 ≤ R ∧ R ≤ 3) (hP : 0 ≤ P ∧ P ≤ 1) (hM : 0 ≤ M ∧ M ≤ 3) (hJ : 0 ≤ J ∧ J ≤ 3) (hV : 0 ≤ V ∧ V ≤ 1) (hK : 0 ≤ K ∧ K ≤ 15) (w : World) :
    Calls Tryd.prog 9 #[.agg #[.int .i64 B, .int .i64 R, .int .i64 P, .int .i64 M, .int .i64 J, .int .i64 V, .int .i64 K]] w fun e w' => e = .returned (.int .u32 (wordOf B R P M J V K)) ∧ Below w.heap.size w w' := by
  have b1 : bits .or .i64 4294639616 (B * 4096) = 4294639616 + B * 4096 := i64_join 16 _ _ (by omega) (by omega) (by omega) (by omega) (by omega) (by omega)
  have b2 : bits .or .i64 (4294639616 + B * 4096) (R * 1024) = 4294639616 + B * 4096 + R * 1024 := i64_join 12 _ _ (by omega) (by omega) (by omega) (by omega) (by omega) (by omega)
  have b3 : bits .or .i64 (4294639616 + B * 4096 + R * 1024) (P * 512) = 4294639616 + B * 4096 + R * 1024 + P * 512 := i64_join 10 _ _ (by omega) (by omega) (by omega) (by omega) (by omega) (by omega)
  have b4 : bits .or .i64 (4294639616 + B * 4096 + R * 1024 + P * 512) (V * 256) = 4294639616 + B * 4096 + R * 1024 + P * 512 + V * 256 := i64_join 9 _ _ (by omega) (by omega) (by omega) (by omega) (by omega) (by omega)
  have b5 : bits .or .i64 (4294639616 + B * 4096 + R * 1024 + P * 512 + V * 256) (M * 64) = 4294639616 + B * 4096 + R * 1024 + P * 512 + V * 256 + M * 64 := i64_join 8 _ _ (by omega) (by omega) (by omega) (by omega) (by omega) (by omega)
  have b6 : bits .or .i64 (4294639616 + B * 4096 + R * 1024 + P * 512 + V * 256 + M * 64) (J * 16) = 4294639616 + B * 4096 + R * 1024 + P * 512 + V * 256 + M * 64 + J * 16 := i64_join 6 _ _ (by omega) (by omega) (by omega) (by omega) (by omega) (by omega)
  have b7 : bits .or .i64 (4294639616 + B * 4096 + R * 1024 + P * 512 + V * 256 + M * 64 + J * 16) K = 4294639616 + B * 4096 + R * 1024 + P * 512 + V * 256 + M * 64 + J * 16 + K := i64_join 4 _ _ (by omega) (by omega) (by omega) (by omega) (by omega) (by omega)
  have c1 := hB.1; have c2 := hB.2; have c3 := hR.1; have c4 := hR.2; have c5 := hP.1; have c6 := hP.2; have c7 := hM.1; have c8 := hM.2
  have d1 := hJ.1; have d2 := hJ.2; have d3 := hV.1; have d4 := hV.2; have d5 := hK.1; have d6 := hK.2
  clear hB hR hP hM hJ hV hK
  go_enter Tryd.func9, Tryd.ntmps9
  go_wp2
  go_returns
  exact ⟨rfl, by go_grown⟩

end Go.Proofs.YtppfldobgemddaaDoor
