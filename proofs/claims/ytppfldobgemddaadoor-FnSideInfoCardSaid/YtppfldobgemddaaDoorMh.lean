/-
  The contracts of FrameHeader.Bitrate, FrameHeader.FrameSize and impl.FrameSize; The contracts of the other methods of frameheader.FrameHeader, and of impl.number.
-/
import Derived.Test.YtppfldobgemddaaDoorMg
import Derived.Test.YtppfldobgemddaaDoorMb
import Derived.Deep.WholeRow
namespace Go.Proofs.YtppfldobgemddaaDoor
open Go.RowKit
set_option linter.unusedVariables false

theorem flip {P : Program} {f : FuncId} {args : Array Value} {w : World} {v : Value} (h : Calls P f args w fun e w' => e = .returned v ∧ w = w') :
    Calls P f args w fun e w' => e = .returned v ∧ w' = w := h.mono fun _ _ ⟨a, b⟩ => ⟨a, b.symm⟩

/-- 96 noughts. -/
def Z96 : Array Value := Array.replicate 96 (.int .i64 0)
theorem zero192 : (Tryd.prog.info? 192).map (fun i => (i.zero, i.size)) = some (some (.agg Z96), 96) := by kernel_rfl

/-- The table of bitrates, its six rows one behind the other. -/
def T96 : Array Value := #[.int .i64 0, .int .i64 32000, .int .i64 40000, .int .i64 48000, .int .i64 56000, .int .i64 64000, .int .i64 80000, .int .i64 96000, .int .i64 112000, .int .i64 128000, .int .i64 160000, .int .i64 192000, .int .i64 224000, .int .i64 256000, .int .i64 320000, .int .i64 0, .int .i64 0, .int .i64 32000, .int .i64 48000, .int .i64 56000, .int .i64 64000, .int .i64 80000, .int .i64 96000, .int .i64 112000, .int .i64 128000, .int .i64 160000, .int .i64 192000, .int .i64 224000, .int .i64 256000, .int .i64 320000, .int .i64 384000, .int .i64 0, .int .i64 0, .int .i64 32000, .int .i64 64000, .int .i64 96000, .int .i64 128000, .int .i64 160000, .int .i64 192000, .int .i64 224000, .int .i64 256000, .int .i64 288000, .int .i64 320000, .int .i64 352000, .int .i64 384000, .int .i64 416000, .int .i64 448000, .int .i64 0, .int .i64 0, .int .i64 8000, .int .i64 16000, .int .i64 24000, .int .i64 32000, .int .i64 40000, .int .i64 48000, .int .i64 56000, .int .i64 64000, .int .i64 80000, .int .i64 96000, .int .i64 112000, .int .i64 128000, .int .i64 144000, .int .i64 160000, .int .i64 0, .int .i64 0, .int .i64 8000, .int .i64 16000, .int .i64 24000, .int .i64 32000, .int .i64 40000, .int .i64 48000, .int .i64 56000, .int .i64 64000, .int .i64 80000, .int .i64 96000, .int .i64 112000, .int .i64 128000, .int .i64 144000, .int .i64 160000, .int .i64 0, .int .i64 0, .int .i64 32000, .int .i64 48000, .int .i64 56000, .int .i64 64000, .int .i64 80000, .int .i64 96000, .int .i64 112000, .int .i64 128000, .int .i64 144000, .int .i64 160000, .int .i64 176000, .int .i64 192000, .int .i64 224000, .int .i64 256000, .int .i64 0]
def br (k : Int) : Int := [0, 32000, 40000, 48000, 56000, 64000, 80000, 96000, 112000, 128000, 160000, 192000, 224000, 256000, 320000, 0].getD k.toNat 0
theorem T96_at (k : Int) (h0 : 0 ≤ k) (h1 : k ≤ 15) : T96[k.toNat]? = some (.int .i64 (br k)) := by
  obtain ⟨n, rfl⟩ := Int.eq_ofNat_of_zero_le h0
  have hn : n < 16 := by omega
  have h : n = 0 ∨ n = 1 ∨ n = 2 ∨ n = 3 ∨ n = 4 ∨ n = 5 ∨ n = 6 ∨ n = 7 ∨ n = 8 ∨ n = 9 ∨ n = 10 ∨ n = 11 ∨ n = 12 ∨ n = 13 ∨ n = 14 ∨ n = 15 := by omega
  rcases h with rfl | rfl | rfl | rfl | rfl | rfl | rfl | rfl | rfl | rfl | rfl | rfl | rfl | rfl | rfl | rfl <;> rfl
theorem layer1 (x : Int) (h0 : 0 ≤ x) (h1 : x ≤ 4294967295) (hl : fLayer x = 1) (w : World) :
    Calls Tryd.prog 79 #[.int .u32 x] w fun e w' => e = .returned (.int .i64 1) ∧ w = w' := by
  have := Layer_any x h0 h1 w
  rwa [hl] at this

set_option maxRecDepth 100000 in
set_option maxHeartbeats 1000000 in
theorem bitrate_any (x : Int) (h0 : 0 ≤ x) (h1 : x ≤ 4294967295) (hv : fID x = 3) (hl : fLayer x = 1) (w : World) :
    Calls Tryd.prog 82 #[.int .u32 x] w fun e w' => e = .returned (.int .i64 (br (fBI x))) ∧ Below w.heap.size w w' := by
  have hb0 : 0 ≤ fBI x := by unfold fBI; omega
  have hb1 : fBI x ≤ 15 := by unfold fBI; omega
  have hb2 : fBI x < 16 := by omega
  have hz := (zero_of_info zero192).1
  have hc : (w.alloc (.cells T96 192)).cell? ⟨w.heap.size, (fBI x).toNat, none⟩ = some (.int .i64 (br (fBI x))) := by
    rw [cell_of_row _ w.heap.size _ _ 192 (0, 0) (heap_alloc_last _ _)]; exact T96_at _ hb0 hb1
  go_enter Tryd.func82, Tryd.ntmps82
  go_wp2_with (refine wpList_store_row rfl 192 (.tmp 3) (.tmp 12) rfl w.heap.size T96 rfl rfl 192 Z96 (heap_alloc_last _ _) (by kernel_rfl) (by kernel_rfl) (by kernel_rfl) ?_; rw [World.setRow_alloc_new])
  clear hz
  have hs1 : IntKind.i64.wrap (1 - 1) = 0 := by decide
  have hs0 : IntKind.i64.wrap 0 = 0 := by decide
  go_quiet ((first | (go_at_call 65; exact Calls.quiet_of_same (flip (low_any x h0 h1 hv _))) | (go_at_call 79; exact Calls.quiet_of_same (flip (layer1 x h0 h1 hl _))) | (go_at_call 58; exact Calls.quiet_of_same (flip (BI_any x h0 h1 _)))))
  go_wp2_with fail
  go_ret
  exact ⟨rfl, stpN (stpA (stp0 w) _) _⟩
end Go.Proofs.YtppfldobgemddaaDoor
namespace Go.Proofs.YtppfldobgemddaaDoor
open Go.RowKit
set_option linter.unusedVariables false

theorem nch_any (x : Int) (h0 : 0 ≤ x) (h1 : x ≤ 4294967295) (w : World) :
    Calls Tryd.prog 60 #[.int .u32 x] w fun e w' => e = .returned (.int .i64 (if fMode x = 3 then 1 else 2)) ∧ w = w' := by
  by_cases h : fMode x = 3
  · rw [if_pos h]
    go_enter Tryd.func60, Tryd.ntmps60
    go_wp2_with (go_at_call 67; refine (Mode_any x h0 h1 _).mono ?_; rintro e w' ⟨rfl, rfl⟩)
    go_ret
    exact ⟨rfl, rfl⟩
  · rw [if_neg h]
    go_enter Tryd.func60, Tryd.ntmps60
    go_wp2_with (go_at_call 67; refine (Mode_any x h0 h1 _).mono ?_; rintro e w' ⟨rfl, rfl⟩)
    go_ret
    exact ⟨rfl, rfl⟩
theorem sis_any (x : Int) (h0 : 0 ≤ x) (h1 : x ≤ 4294967295) (hv : fID x = 3) (w : World) :
    Calls Tryd.prog 62 #[.int .u32 x] w fun e w' => e = .returned (.int .i64 (if fMode x = 3 then 17 else 32)) ∧ w = w' := by
  by_cases h : fMode x = 3
  · rw [if_pos h]
    go_enter Tryd.func62, Tryd.ntmps62
    go_wp2_with (first | (go_at_call 67; refine (Mode_any x h0 h1 _).mono ?_; rintro e w' ⟨rfl, rfl⟩) | (go_at_call 65; refine (low_any x h0 h1 hv _).mono ?_; rintro e w' ⟨rfl, rfl⟩))
    go_ret
    exact ⟨rfl, rfl⟩
  · rw [if_neg h]
    have hb : (fMode x == 3) = false := by simpa using h
    go_enter Tryd.func62, Tryd.ntmps62
    go_wp2_with (first | (go_at_call 67; refine (Mode_any x h0 h1 _).mono ?_; rintro e w' ⟨rfl, rfl⟩) | (go_at_call 65; refine (low_any x h0 h1 hv _).mono ?_; rintro e w' ⟨rfl, rfl⟩))
    go_ret
    exact ⟨rfl, rfl⟩
end Go.Proofs.YtppfldobgemddaaDoor
