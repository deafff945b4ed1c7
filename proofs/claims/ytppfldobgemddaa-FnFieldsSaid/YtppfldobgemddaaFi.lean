/-
  The contracts of the methods of frameheader.FrameHeader that call others, for headers of version 1; impl.Rate.
-/
import Derived.Test.YtppfldobgemddaaFh
import Derived.Deep.QuietTactic
import Derived.BigQuiet
namespace Go.Proofs.Ytppfldobgemddaa
open Go.RowKit
set_option linter.unusedVariables false

set_option maxHeartbeats 400000 in
theorem low_any (x : Int) (h0 : 0 ≤ x) (h1 : x ≤ 4294967295) (hv : fID x = 3) (w : World) :
    Calls Try.prog 47 #[.int .u32 x] w fun e w' => e = .returned (.int .i64 0) ∧ w = w' := by
  go_enter Try.func47, Try.ntmps47
  go_wp2_with (go_at_call 33; refine (ID_any x h0 h1 _).mono ?_; rintro e w' ⟨rfl, rfl⟩)
  go_ret
  exact ⟨rfl, rfl⟩

set_option maxHeartbeats 400000 in
theorem sfv_any (x : Int) (h0 : 0 ≤ x) (h1 : x ≤ 4294967295) (hv : fID x = 3) (hs : fSF x ≤ 2) (w : World) :
    Calls Try.prog 24 #[.int .u32 x] w fun e w' => e = .returned (.tuple #[.int .i64 (hz (fSF x)), .nilIface]) ∧ w = w' := by
  have hn : 0 ≤ fSF x := by unfold fSF; omega
  have hc : fSF x = 0 ∨ fSF x = 1 ∨ fSF x = 2 := by omega
  clear hs hn
  rcases hc with hs | hs | hs
  all_goals
    rw [hs]
    go_enter Try.func24, Try.ntmps24
    go_wp2_with (first | (go_at_call 37; refine (SF_any x h0 h1 _).mono ?_; rintro e w' ⟨rfl, rfl⟩) | (go_at_call 47; refine (low_any x h0 h1 hv _).mono ?_; rintro e w' ⟨rfl, rfl⟩))
    go_ret2
    exact ⟨rfl, rfl⟩

set_option maxHeartbeats 400000 in
theorem rate_any (x : Int) (h0 : 0 ≤ x) (h1 : x ≤ 4294967295) (hv : fID x = 3) (hs : fSF x ≤ 2) (w : World) :
    Calls Try.prog 10 #[.int .u32 x] w fun e w' => e = .returned (.tuple #[.int .i64 (hz (fSF x)), .bool true]) ∧ ∃ n, w' = w.drewN n := by
  go_enter Try.func10, Try.ntmps10
  go_wp2_with (go_at_call 24; refine (sfv_any x h0 h1 hv hs _).mono ?_; rintro e w' ⟨rfl, rfl⟩)
  go_quiet (fail)
  go_wp2
  go_ret2
  exact ⟨rfl, _, rfl⟩
end Go.Proofs.Ytppfldobgemddaa
