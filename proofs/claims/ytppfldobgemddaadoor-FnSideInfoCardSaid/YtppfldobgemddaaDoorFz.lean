/-
  The contracts of FrameHeader.FrameSize and impl.FrameSize.
-/
import Derived.Test.YtppfldobgemddaaDoorMh
import Derived.Deep.RegionWith
namespace Go.Proofs.YtppfldobgemddaaDoor
open Go.RowKit
set_option linter.unusedVariables false

theorem br_bd (k : Int) : 0 ≤ br k ∧ br k ≤ 320000 := by
  unfold br
  rw [List.getD_eq_getElem?_getD]
  cases h : [(0 : Int), 32000, 40000, 48000, 56000, 64000, 80000, 96000, 112000, 128000, 160000, 192000, 224000, 256000, 320000, 0][k.toNat]? with
  | none => simp
  | some v =>
    have := List.mem_of_getElem? h
    simp only [Option.getD_some]
    simp only [List.mem_cons, List.not_mem_nil, or_false] at this
    omega
theorem hz_bd (r : Int) : 32000 ≤ hz r ∧ hz r ≤ 48000 := by unfold hz; split <;> (try split) <;> omega

set_option maxHeartbeats 1000000 in
theorem fsize_any (x : Int) (h0 : 0 ≤ x) (h1 : x ≤ 4294967295) (hv : fID x = 3) (hl : fLayer x = 1) (hs : fSF x ≤ 2) (w : World) :
    Calls Tryd.prog 61 #[.int .u32 x] w fun e w' => e = .returned (.tuple #[.int .i64 (144 * br (fBI x) / hz (fSF x) + fPad x), .nilIface]) ∧ Below w.heap.size w w' := by
  obtain ⟨b0, b1⟩ := br_bd (fBI x)
  obtain ⟨z0, z1⟩ := hz_bd (fSF x)
  have p0 : 0 ≤ fPad x := by unfold fPad; omega
  have p1 : fPad x ≤ 1 := by unfold fPad; omega
  obtain ⟨q0, q1⟩ := IntWalk.tdiv_le (144 * br (fBI x)) (hz (fSF x)) (by omega) (by omega)
  have s1 : IntKind.i64.wrap (144 * br (fBI x) / hz (fSF x) + fPad x) = 144 * br (fBI x) / hz (fSF x) + fPad x := IntWalk.i64_in _ (by omega)
  have S3 := Lib.hid (IntWalk.wrap64_in (144 * br (fBI x) / hz (fSF x) + fPad x) (by omega))
  have s2 : IntKind.u64.wrap 0 = 0 := by decide
  have hne : ¬ hz (fSF x) = 0 := by omega
  go_enter Tryd.func61, Tryd.ntmps61
  go_wp2_with (go_at_call 81; refine (sfv_any x h0 h1 hv hs _).mono ?_; rintro e w' ⟨rfl, rfl⟩)
  go_region_with (first | (go_at_call 82; refine (bitrate_any x h0 h1 hv hl _).mono ?_; rintro e w1 ⟨rfl, hb⟩) | (go_at_call 83; refine (Pad_any x h0 h1 _).mono ?_; rintro e w' ⟨rfl, rfl⟩) | (go_at_call 65; refine (low_any x h0 h1 hv _).mono ?_; rintro e w' ⟨rfl, rfl⟩))
  all_goals
    have hb' : Below w.heap.size w w1 := stp (stpD (stp0 w)) hb
    clear hb s1 s2 q0 q1
    go_wp2_with fail
    go_ret2
    exact ⟨by simp [S3.out], hb'⟩

end Go.Proofs.YtppfldobgemddaaDoor
