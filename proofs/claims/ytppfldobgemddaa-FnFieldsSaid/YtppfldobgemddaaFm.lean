/-
  The contracts of the other methods of frameheader.FrameHeader, and of impl.number.
-/
import Derived.Test.YtppfldobgemddaaFs
namespace Go.Proofs.Ytppfldobgemddaa
open Go.RowKit
set_option linter.unusedVariables false

set_option maxHeartbeats 400000 in
theorem number_any (b : Bool) (w : World) :
    Calls Try.prog 41 #[.bool b] w fun e w' => e = .returned (.int .i64 (if b then 1 else 0)) ∧ w = w' := by
  cases b
  all_goals
    go_enter Try.func41, Try.ntmps41
    go_wp2
    go_ret
    exact ⟨rfl, rfl⟩

set_option maxHeartbeats 400000 in
theorem gran_any (x : Int) (h0 : 0 ≤ x) (h1 : x ≤ 4294967295) (hv : fID x = 3) (w : World) :
    Calls Try.prog 49 #[.int .u32 x] w fun e w' => e = .returned (.int .i64 2) ∧ w = w' := by
  go_enter Try.func49, Try.ntmps49
  go_wp2_with (go_at_call 47; refine (low_any x h0 h1 hv _).mono ?_; rintro e w' ⟨rfl, rfl⟩)
  go_ret
  exact ⟨rfl, rfl⟩

set_option maxHeartbeats 400000 in
theorem bpf_any (x : Int) (h0 : 0 ≤ x) (h1 : x ≤ 4294967295) (hv : fID x = 3) (w : World) :
    Calls Try.prog 51 #[.int .u32 x] w fun e w' => e = .returned (.int .i64 4608) ∧ w = w' := by
  go_enter Try.func51, Try.ntmps51
  go_wp2_with (go_at_call 49; refine (gran_any x h0 h1 hv _).mono ?_; rintro e w' ⟨rfl, rfl⟩)
  go_ret
  exact ⟨rfl, rfl⟩

set_option maxHeartbeats 400000 in
theorem nch_any (x : Int) (h0 : 0 ≤ x) (h1 : x ≤ 4294967295) (w : World) :
    Calls Try.prog 48 #[.int .u32 x] w fun e w' => e = .returned (.int .i64 (if fMode x = 3 then 1 else 2)) ∧ w = w' := by
  by_cases h : fMode x = 3
  · rw [if_pos h]
    go_enter Try.func48, Try.ntmps48
    go_wp2_with (go_at_call 40; refine (Mode_any x h0 h1 _).mono ?_; rintro e w' ⟨rfl, rfl⟩)
    go_ret
    exact ⟨rfl, rfl⟩
  · rw [if_neg h]
    go_enter Try.func48, Try.ntmps48
    go_wp2_with (go_at_call 40; refine (Mode_any x h0 h1 _).mono ?_; rintro e w' ⟨rfl, rfl⟩)
    go_ret
    exact ⟨rfl, rfl⟩

set_option maxHeartbeats 400000 in
theorem sis_any (x : Int) (h0 : 0 ≤ x) (h1 : x ≤ 4294967295) (hv : fID x = 3) (w : World) :
    Calls Try.prog 50 #[.int .u32 x] w fun e w' => e = .returned (.int .i64 (if fMode x = 3 then 17 else 32)) ∧ w = w' := by
  by_cases h : fMode x = 3
  · rw [if_pos h]
    go_enter Try.func50, Try.ntmps50
    go_wp2_with (first | (go_at_call 40; refine (Mode_any x h0 h1 _).mono ?_; rintro e w' ⟨rfl, rfl⟩) | (go_at_call 47; refine (low_any x h0 h1 hv _).mono ?_; rintro e w' ⟨rfl, rfl⟩))
    go_ret
    exact ⟨rfl, rfl⟩
  · rw [if_neg h]
    have hb : (fMode x == 3) = false := by simpa using h
    go_enter Try.func50, Try.ntmps50
    go_wp2_with (first | (go_at_call 40; refine (Mode_any x h0 h1 _).mono ?_; rintro e w' ⟨rfl, rfl⟩) | (go_at_call 47; refine (low_any x h0 h1 hv _).mono ?_; rintro e w' ⟨rfl, rfl⟩))
    go_ret
    exact ⟨rfl, rfl⟩

set_option maxHeartbeats 400000 in
theorem valid_any (x : Int) (h0 : 0 ≤ x) (h1 : x ≤ 4294967295) (hs : 4292870144 ≤ x) (hv : fID x = 3) (hl : fLayer x = 1) (hb : fBI x ≤ 14) (hf : fSF x ≤ 2) (he : ¬ fEmph x = 2) (w : World) :
    Calls Try.prog 53 #[.int .u32 x] w fun e w' => e = .returned (.bool true) ∧ w = w' := by
  have hm : bits .and .u32 x 4292870144 = 4292870144 := by
    have := u32_field 21 11 (by decide) x h0 h1
    have e1 : x / 2 ^ 21 % 2 ^ 11 * 2 ^ 21 = (4292870144 : Int) := by
      have : (2 : Int) ^ 21 = 2097152 := by decide
      have : (2 : Int) ^ 11 = 2048 := by decide
      omega
    rw [e1] at this
    simpa using this
  have hb' : fBI x < 15 := by omega
  have hf' : fSF x < 3 := by omega
  go_enter Try.func53, Try.ntmps53
  go_wp2_with (first | (go_at_call 33; refine (ID_any x h0 h1 _).mono ?_; rintro e w' ⟨rfl, rfl⟩) | (go_at_call 36; refine (BI_any x h0 h1 _).mono ?_; rintro e w' ⟨rfl, rfl⟩) | (go_at_call 37; refine (SF_any x h0 h1 _).mono ?_; rintro e w' ⟨rfl, rfl⟩) | (go_at_call 34; refine (Layer_any x h0 h1 _).mono ?_; rintro e w' ⟨rfl, rfl⟩) | (go_at_call 46; refine (Emph_any x h0 h1 _).mono ?_; rintro e w' ⟨rfl, rfl⟩))
  go_ret
  exact ⟨rfl, rfl⟩

/-- The modes of headers that are made: stereo, joint with middle and side, joint without, one channel. -/
def ModeOk (M J : Int) : Prop := (M = 0 ∧ J = 0) ∨ (M = 1 ∧ J = 2) ∨ (M = 1 ∧ J = 0) ∨ (M = 3 ∧ J = 0)

set_option maxHeartbeats 400000 in
theorem ms_any (x M J : Int) (h0 : 0 ≤ x) (h1 : x ≤ 4294967295) (h : ModeOk M J) (hm : fMode x = M) (hj : fExt x = J) (w : World) :
    Calls Try.prog 42 #[.int .u32 x] w fun e w' => e = .returned (.bool (decide (J = 2))) ∧ w = w' := by
  have b1 : bits .and .i64 2 2 = 2 := by decide
  have b2 : bits .and .i64 0 2 = 0 := by decide
  rcases h with ⟨rfl, rfl⟩ | ⟨rfl, rfl⟩ | ⟨rfl, rfl⟩ | ⟨rfl, rfl⟩
  all_goals
    go_enter Try.func42, Try.ntmps42
    go_wp2_with (first | (go_at_call 40; refine (Mode_any x h0 h1 _).mono ?_; rintro e w' ⟨rfl, rfl⟩) | (go_at_call 56; refine (Ext_any x h0 h1 _).mono ?_; rintro e w' ⟨rfl, rfl⟩))
    go_ret
    exact ⟨rfl, rfl⟩

set_option maxHeartbeats 400000 in
theorem is_any (x M J : Int) (h0 : 0 ≤ x) (h1 : x ≤ 4294967295) (h : ModeOk M J) (hm : fMode x = M) (hj : fExt x = J) (w : World) :
    Calls Try.prog 43 #[.int .u32 x] w fun e w' => e = .returned (.bool false) ∧ w = w' := by
  have b1 : bits .and .i64 2 1 = 0 := by decide
  have b2 : bits .and .i64 0 1 = 0 := by decide
  rcases h with ⟨rfl, rfl⟩ | ⟨rfl, rfl⟩ | ⟨rfl, rfl⟩ | ⟨rfl, rfl⟩
  all_goals
    go_enter Try.func43, Try.ntmps43
    go_wp2_with (first | (go_at_call 40; refine (Mode_any x h0 h1 _).mono ?_; rintro e w' ⟨rfl, rfl⟩) | (go_at_call 56; refine (Ext_any x h0 h1 _).mono ?_; rintro e w' ⟨rfl, rfl⟩))
    go_ret
    exact ⟨rfl, rfl⟩

/-- The twenty numbers of a header's word. -/
def fields (x J : Int) : List Int :=
  [fID x, fLayer x, fProt x, fBI x, fSF x, fPad x, fPriv x, fMode x, if J = 2 then 1 else 0, 0, fCopy x, fOrig x, fEmph x, 0, if fMode x = 3 then 1 else 2, 2, if fMode x = 3 then 17 else 32, 4608, br (fBI x), 1]

set_option maxRecDepth 100000 in
set_option maxHeartbeats 1000000 in
theorem fields_any (x M J : Int) (h0 : 0 ≤ x) (h1 : x ≤ 4294967295) (hs : 4292870144 ≤ x) (hv : fID x = 3) (hl : fLayer x = 1) (hb : fBI x ≤ 14) (hf : fSF x ≤ 2) (he : ¬ fEmph x = 2) (h : ModeOk M J) (hm : fMode x = M) (hj : fExt x = J) (w : World) :
    Calls Try.prog 20 #[.int .u32 x] w fun e w' => ∃ w1, e = .returned (.slice (some ⟨w1.heap.size, 0, none⟩) 20 20) ∧ w' = w1.alloc (.cells ((fields x J).map (Value.int .i64)).toArray 3) ∧ Below w.heap.size w w1 := by
  have HV := Lib.hid hv
  have HL := Lib.hid hl
  have HM := Lib.hid hm
  have HJ := Lib.hid hj
  clear hv hl hm hj
  go_enter Try.func20, Try.ntmps20
  go_wp2_with (first
    | (go_at_call 33; refine (ID_any x h0 h1 _).mono ?_; rintro e w' ⟨rfl, rfl⟩)
    | (go_at_call 34; refine (Layer_any x h0 h1 _).mono ?_; rintro e w' ⟨rfl, rfl⟩)
    | (go_at_call 35; refine (Prot_any x h0 h1 _).mono ?_; rintro e w' ⟨rfl, rfl⟩)
    | (go_at_call 36; refine (BI_any x h0 h1 _).mono ?_; rintro e w' ⟨rfl, rfl⟩)
    | (go_at_call 37; refine (SF_any x h0 h1 _).mono ?_; rintro e w' ⟨rfl, rfl⟩)
    | (go_at_call 38; refine (Pad_any x h0 h1 _).mono ?_; rintro e w' ⟨rfl, rfl⟩)
    | (go_at_call 39; refine (Priv_any x h0 h1 _).mono ?_; rintro e w' ⟨rfl, rfl⟩)
    | (go_at_call 40; refine (Mode_any x h0 h1 _).mono ?_; rintro e w' ⟨rfl, rfl⟩)
    | (go_at_call 41; refine (number_any _ _).mono ?_; rintro e w' ⟨rfl, rfl⟩)
    | (go_at_call 42; refine (ms_any x M J h0 h1 h HM.out HJ.out _).mono ?_; rintro e w' ⟨rfl, rfl⟩)
    | (go_at_call 43; refine (is_any x M J h0 h1 h HM.out HJ.out _).mono ?_; rintro e w' ⟨rfl, rfl⟩)
    | (go_at_call 44; refine (Copy_any x h0 h1 _).mono ?_; rintro e w' ⟨rfl, rfl⟩)
    | (go_at_call 45; refine (Orig_any x h0 h1 _).mono ?_; rintro e w' ⟨rfl, rfl⟩)
    | (go_at_call 46; refine (Emph_any x h0 h1 _).mono ?_; rintro e w' ⟨rfl, rfl⟩)
    | (go_at_call 47; refine (low_any x h0 h1 HV.out _).mono ?_; rintro e w' ⟨rfl, rfl⟩)
    | (go_at_call 48; refine (nch_any x h0 h1 _).mono ?_; rintro e w' ⟨rfl, rfl⟩)
    | (go_at_call 49; refine (gran_any x h0 h1 HV.out _).mono ?_; rintro e w' ⟨rfl, rfl⟩)
    | (go_at_call 50; refine (sis_any x h0 h1 HV.out _).mono ?_; rintro e w' ⟨rfl, rfl⟩)
    | (go_at_call 51; refine (bpf_any x h0 h1 HV.out _).mono ?_; rintro e w' ⟨rfl, rfl⟩)
    | (go_at_call 52; refine (bitrate_any x h0 h1 HV.out HL.out _).mono ?_; rintro e w1 ⟨rfl, hb1⟩)
    | (go_at_call 53; refine (valid_any x h0 h1 hs HV.out HL.out hb hf he _).mono ?_; rintro e w' ⟨rfl, rfl⟩))
  all_goals
    go_ret
    refine ⟨w1, rfl, ?_, hb1⟩
    simp [fields, *]
end Go.Proofs.Ytppfldobgemddaa
