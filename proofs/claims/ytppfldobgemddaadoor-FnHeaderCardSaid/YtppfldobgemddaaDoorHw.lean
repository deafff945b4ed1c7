/-
  The word of the header of a number: its fields, and that it is valid.
-/
import Derived.Test.YtppfldobgemddaaDoorFh
import Derived.Test.YtppfldobgemddaaDoorAid
namespace Go.Proofs.YtppfldobgemddaaDoor
open Go.RowKit
set_option linter.unusedVariables false

/-- The word of the header of a number. -/
def hW (n : Int) : Int := wordOf (hB n) (hR n) (hP n) (hM n) (hJ n) (hV n) (hK n)

theorem m4_bd (m : Int) : 0 ≤ m4 m ∧ m4 m ≤ 3 := by
  unfold m4; split <;> (try split) <;> omega
theorem hB_bd (n : Int) : 9 ≤ hB n ∧ hB n ≤ 14 := by unfold hB; omega
theorem hR_bd (n : Int) : 0 ≤ hR n ∧ hR n ≤ 2 := by unfold hR; omega
theorem hP_bd (n : Int) : 0 ≤ hP n ∧ hP n ≤ 1 := by unfold hP; omega
theorem hM_bd (n : Int) : 0 ≤ hM n ∧ hM n ≤ 3 := m4_bd _
theorem hJ_bd (n : Int) : 0 ≤ hJ n ∧ hJ n ≤ 2 := by unfold hJ; split <;> omega
theorem hV_bd (n : Int) : 0 ≤ hV n ∧ hV n ≤ 1 := by unfold hV; omega
theorem hK_bd (n : Int) : 0 ≤ hK n ∧ hK n ≤ 15 := by have := e3_bd (n / 512 % 3); unfold hK; omega

theorem hW_bd (n : Int) : 0 ≤ hW n ∧ hW n ≤ 4294967295 := by
  have := hB_bd n; have := hR_bd n; have := hP_bd n; have := hM_bd n; have := hJ_bd n; have := hV_bd n; have := hK_bd n
  unfold hW wordOf; omega
theorem fID_hW (n : Int) : fID (hW n) = 3 := by
  have := hB_bd n; have := hR_bd n; have := hP_bd n; have := hM_bd n; have := hJ_bd n; have := hV_bd n; have := hK_bd n
  unfold fID hW wordOf; omega
theorem fSF_hW (n : Int) : fSF (hW n) = hR n := by
  have := hB_bd n; have := hR_bd n; have := hP_bd n; have := hM_bd n; have := hJ_bd n; have := hV_bd n; have := hK_bd n
  unfold fSF hW wordOf; omega

theorem wordH (n : Int) (w : World) :
    Calls Tryd.prog 9 #[.agg #[.int .i64 (hB n), .int .i64 (hR n), .int .i64 (hP n), .int .i64 (hM n), .int .i64 (hJ n), .int .i64 (hV n), .int .i64 (hK n)]] w fun e w' => e = .returned (.int .u32 (hW n)) ∧ Below w.heap.size w w' := by
  have b1 := hB_bd n; have b2 := hR_bd n; have b3 := hP_bd n; have b4 := hM_bd n; have b5 := hJ_bd n; have b6 := hV_bd n; have b7 := hK_bd n
  exact word_any _ _ _ _ _ _ _ (by omega) (by omega) (by omega) (by omega) (by omega) (by omega) (by omega) w

theorem hW_top (n : Int) : 4292870144 ≤ hW n ∧ fLayer (hW n) = 1 ∧ fBI (hW n) = hB n ∧ ¬ fEmph (hW n) = 2 := by
  have := hB_bd n; have := hR_bd n; have := hP_bd n; have := hM_bd n; have := hJ_bd n; have := hV_bd n; have := hK_bd n
  have e : e3 (n / 512 % 3) = 0 ∨ e3 (n / 512 % 3) = 1 ∨ e3 (n / 512 % 3) = 3 := by unfold e3; split <;> (try split) <;> simp
  have hk : hK n = n / 128 % 4 * 4 + e3 (n / 512 % 3) := rfl
  unfold fLayer fBI fEmph hW wordOf
  omega

set_option maxHeartbeats 400000 in
theorem valid_any (x : Int) (h0 : 0 ≤ x) (h1 : x ≤ 4294967295) (hs : 4292870144 ≤ x) (hv : fID x = 3) (hl : fLayer x = 1) (hb : fBI x ≤ 14) (hf : fSF x ≤ 2) (he : ¬ fEmph x = 2) (w : World) :
    Calls Tryd.prog 57 #[.int .u32 x] w fun e w' => e = .returned (.bool true) ∧ w = w' := by
  have hm : bits .and .u32 x 4292870144 = 4292870144 := by
    have := u32_field 21 11 (by decide) x h0 h1
    have e1 : x / 2 ^ 21 % 2 ^ 11 * 2 ^ 21 = (4292870144 : Int) := by
      have : (2 : Int) ^ 21 = 2097152 := by decide
      have : (2 : Int) ^ 11 = 2048 := by decide
      omega
    rw [e1] at this
    simpa using this
  have hb' : fBI x < 15 := by omega
  have hf' : fSF x < 3 := by omega
  go_enter Tryd.func57, Tryd.ntmps57
  go_wp2_with (first | (go_at_call 77; refine (ID_any x h0 h1 _).mono ?_; rintro e w' ⟨rfl, rfl⟩) | (go_at_call 58; refine (BI_any x h0 h1 _).mono ?_; rintro e w' ⟨rfl, rfl⟩) | (go_at_call 78; refine (SF_any x h0 h1 _).mono ?_; rintro e w' ⟨rfl, rfl⟩) | (go_at_call 79; refine (Layer_any x h0 h1 _).mono ?_; rintro e w' ⟨rfl, rfl⟩) | (go_at_call 80; refine (Emph_any x h0 h1 _).mono ?_; rintro e w' ⟨rfl, rfl⟩))
  go_ret
  exact ⟨rfl, rfl⟩

/-- Where the top bits are not all set, it is no header. -/
theorem invalid_any (x : Int) (h0 : 0 ≤ x) (h1 : x < 4278190080) (w : World) :
    Calls Tryd.prog 57 #[.int .u32 x] w fun e w' => e = .returned (.bool false) ∧ w = w' := by
  have hm : bits .and .u32 x 4292870144 = x / 2097152 * 2097152 := by
    have := u32_field 21 11 (by decide) x h0 (by omega)
    have e1 : x / 2 ^ 21 % 2 ^ 11 * 2 ^ 21 = (x / 2097152 * 2097152 : Int) := by
      have : (2 : Int) ^ 21 = 2097152 := by decide
      have : (2 : Int) ^ 11 = 2048 := by decide
      omega
    rw [e1] at this
    simpa using this
  have hne : ¬ (x / 2097152 * 2097152 = 4292870144) := by omega
  go_enter Tryd.func57, Tryd.ntmps57
  go_wp2_with fail
  go_ret
  exact ⟨rfl, rfl⟩

/-- The header that is made is valid. -/
theorem validH (n : Int) (w : World) : Calls Tryd.prog 57 #[.int .u32 (hW n)] w fun e w' => e = .returned (.bool true) ∧ w = w' := by
  have b := hW_bd n; have r := hR_bd n; have s := fSF_hW n; have t := hW_top n; have hb := hB_bd n
  exact valid_any (hW n) b.1 b.2 t.1 (fID_hW n) t.2.1 (by omega) (by omega) t.2.2.2 w
end Go.Proofs.YtppfldobgemddaaDoor
