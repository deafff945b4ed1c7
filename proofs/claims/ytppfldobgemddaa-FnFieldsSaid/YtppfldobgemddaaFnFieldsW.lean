/-
  The walk of laws.FnFields.
-/
import Derived.Test.YtppfldobgemddaaFm
import Derived.Test.YtppfldobgemddaaFnFrameSizeW
import Derived.Deep.QuietTactic
import Derived.BigQuiet
import Derived.Deep.RegionHeld3
namespace Go.Proofs.Ytppfldobgemddaa
open Go.RowKit
set_option linter.unusedVariables false

theorem hMJ (n : Int) : ModeOk (hM n) (hJ n) := by
  unfold ModeOk hM hJ m4
  have : n / 2048 % 4 = 0 ∨ n / 2048 % 4 = 1 ∨ n / 2048 % 4 = 2 ∨ n / 2048 % 4 = 3 := by omega
  rcases this with h | h | h | h <;> rw [h] <;> decide
theorem hW_hi (n : Int) : 4292870144 ≤ hW n := by
  have := hB_bd n; have := hR_bd n; have := hP_bd n; have := hM_bd n; have := hJ_bd n; have := hV_bd n; have := hK_bd n
  unfold hW wordOf; omega
theorem fs_hW (n : Int) : fProt (hW n) = 1 ∧ fPriv (hW n) = hV n ∧ fMode (hW n) = hM n ∧ fExt (hW n) = hJ n ∧ fCopy (hW n) = hK n / 8 ∧ fOrig (hW n) = hK n / 4 % 2 ∧ fEmph (hW n) = hK n % 4 := by
  have := hB_bd n; have := hR_bd n; have := hP_bd n; have := hM_bd n; have := hJ_bd n; have := hV_bd n; have := hK_bd n
  unfold fProt fPriv fMode fExt fCopy fOrig fEmph hW wordOf; omega
theorem hK_ok (n : Int) : ¬ hK n % 4 = 2 := by
  unfold hK e3
  split
  · omega
  · split <;> omega
theorem fieldsH (n : Int) (w : World) :
    Calls Try.prog 20 #[.int .u32 (hW n)] w fun e w' => ∃ w1, e = .returned (.slice (some ⟨w1.heap.size, 0, none⟩) 20 20) ∧ w' = w1.alloc (.cells ((fields (hW n) (hJ n)).map (Value.int .i64)).toArray 3) ∧ Below w.heap.size w w1 := by
  have b := hW_bd n; have r := hR_bd n; have s := fSF_hW n; have f := fs_hW n; have bb := hB_bd n; have k := hK_ok n
  have e1 := fBI_hW n
  exact fields_any (hW n) (hM n) (hJ n) b.1 b.2 (hW_hi n) (fID_hW n) (fLayer_hW n) (by omega) (by omega) (by omega) (hMJ n) f.2.2.1 f.2.2.2.1 w
/-- The same numbers as the law has them. -/
def wants (n : Int) : List Int :=
  [3, 1, 1, hB n, hR n, hP n, hV n, hM n, if hJ n = 2 then 1 else 0, 0, hK n / 8, hK n / 4 % 2, hK n % 4, 0, if hM n = 3 then 1 else 2, 2, if hM n = 3 then 17 else 32, 4608, br (hB n), 1]
theorem fields_wants (n : Int) : fields (hW n) (hJ n) = wants n := by
  obtain ⟨a, b, c, d, e, f, g⟩ := fs_hW n
  unfold fields wants
  rw [fID_hW, fLayer_hW, fBI_hW, fSF_hW, fPad_hW, a, b, c, e, f, g]

theorem alloc_size (w : World) (o : Obj) : (w.alloc o).heap.size = w.heap.size + 1 := by
  show (w.heap.push o).size = _
  simp
theorem row_cells (w : World) (zs : List Int) (n : Nat) (hn : zs.length = n) : ∀ j, j < n → (w.alloc (.cells (zs.map (Value.int .i64)).toArray 3)).cell? ⟨w.heap.size, j, none⟩ = some (.int .i64 (zs.getD j 0)) := by
  intro j hj
  rw [cell_of_row _ w.heap.size j _ _ (0, 0) (heap_alloc_last _ _), List.getD_eq_getElem?_getD]
  simp [hn, hj]

set_option maxRecDepth 100000 in
set_option maxHeartbeats 4000000 in
theorem fnFields_case (n M J ms : Int) (h0 : 0 ≤ n) (h1 : n ≤ 4294967295) (h : (M = 0 ∧ J = 0 ∧ ms = 0) ∨ (M = 1 ∧ J = 2 ∧ ms = 1) ∨ (M = 1 ∧ J = 0 ∧ ms = 0) ∨ (M = 3 ∧ J = 0 ∧ ms = 0)) (hm : hM n = M) (hj : hJ n = J) (w : World) :
    Calls Try.prog 8 #[.int .u32 n] w fun e w' => e = .returned (.bool true) ∧ Below w.heap.size w w' := by
  have b1 : bits .and .i64 2 2 = 2 := by decide
  have b2 : bits .and .i64 0 2 = 0 := by decide
  have k0 := hK_bd n
  have kb := hB_bd n
  have b3 : bits .and .i64 (hK n / 4) 1 = hK n / 4 % 2 := i64_and1 _
  have b4 : bits .and .i64 (hK n) 3 = hK n % 4 := i64_and3 _
  have HM := Lib.hid hm
  have HJ := Lib.hid hj
  clear hm hj
  go_enter Try.func8, Try.ntmps8
  go_wp2_with fail
  refine (headOf_any n h0 h1 _).mono ?_
  rintro e w1 ⟨rfl, hb1⟩
  go_wp2_with fail
  refine (wordH n _).mono ?_
  rintro e w2 ⟨rfl, hb2⟩
  obtain ⟨hc2, hf2⟩ := bcell hb2
  have hz2 : w1.heap.size < w2.heap.size := by have := hb2.size; simp at this; omega
  go_wp2_with fail
  refine (fieldsH n _).mono ?_
  rintro e w' ⟨w3, rfl, rfl, hb3⟩
  obtain ⟨hc3, hf3⟩ := bcell hb3
  have hz3 : w1.heap.size < w3.heap.size := by have := hb3.size; omega
  have hm := HM.out
  have hj := HJ.out
  rcases h with ⟨rfl, rfl, rfl⟩ | ⟨rfl, rfl, rfl⟩ | ⟨rfl, rfl, rfl⟩ | ⟨rfl, rfl, rfl⟩
  · go_wp2_with fail
    obtain ⟨W0, hW0⟩ : ∃ W0, W0 = w3.alloc (.cells ((fields (hW n) 0).map (Value.int .i64)).toArray 3) := ⟨_, rfl⟩
    have hS : (fun w' : World => w'.cell? ⟨w1.heap.size, 0, none⟩ = some (.int .i64 (hB n)) ∧ w'.cell? ⟨w1.heap.size, 1, none⟩ = some (.int .i64 (hR n)) ∧ w'.cell? ⟨w1.heap.size, 2, none⟩ = some (.int .i64 (hP n)) ∧ w'.cell? ⟨w1.heap.size, 3, none⟩ = some (.int .i64 0) ∧ w'.cell? ⟨w1.heap.size, 4, none⟩ = some (.int .i64 0) ∧ w'.cell? ⟨w1.heap.size, 5, none⟩ = some (.int .i64 (hV n)) ∧ w'.cell? ⟨w1.heap.size, 6, none⟩ = some (.int .i64 (hK n)) ∧ w1.heap.size < w'.heap.size ∧ Below W0.heap.size W0 w') W0 := by
      subst hW0
      refine ⟨?_, ?_, ?_, ?_, ?_, ?_, ?_, by simp; omega, stp0 _⟩
      all_goals
        rw [World.cell?_alloc_past _ _ _ hz3, hc3 _ _ hz2, hc2 _ _ (by simp)]
        simp [hm, hj]
    rw [← hW0]
    have HW0 := Lib.hid hW0
    clear hW0 hc2 hf2 hc3 hf3
    go_region_held3 (fun w' : World => w'.cell? ⟨w1.heap.size, 0, none⟩ = some (.int .i64 (hB n)) ∧ w'.cell? ⟨w1.heap.size, 1, none⟩ = some (.int .i64 (hR n)) ∧ w'.cell? ⟨w1.heap.size, 2, none⟩ = some (.int .i64 (hP n)) ∧ w'.cell? ⟨w1.heap.size, 3, none⟩ = some (.int .i64 0) ∧ w'.cell? ⟨w1.heap.size, 4, none⟩ = some (.int .i64 0) ∧ w'.cell? ⟨w1.heap.size, 5, none⟩ = some (.int .i64 (hV n)) ∧ w'.cell? ⟨w1.heap.size, 6, none⟩ = some (.int .i64 (hK n)) ∧ w1.heap.size < w'.heap.size ∧ Below W0.heap.size W0 w') (first | exact head_keep hS (stpD (stp0 W0)) | (refine head_keep ?_ (by assumption); assumption) | (refine head_keep ?_ (stpA (stp0 _) _); assumption))
      (first | (go_at_call 21; refine (channels_any _ _ _ _ _ _ _ 2 (by decide) _).mono ?_; rintro e w4 ⟨rfl, hb4⟩) | (go_at_call 22; refine (sidesize_any _ _ _ _ _ _ _ 32 (by decide) _).mono ?_; rintro e w5 ⟨rfl, hb5⟩) | (go_at_call 23; refine (hbits_any _ _ _ _ _ _ _ (by omega) (by omega) _).mono ?_; rintro e w6 ⟨rfl, hb6⟩))
    rename_i hh
    obtain ⟨_, _, _, _, _, _, _, _, hB5⟩ := hh
    have e5 : (#[.int .i64 3, .int .i64 1, .int .i64 1, .int .i64 (hB n), .int .i64 (hR n), .int .i64 (hP n), .int .i64 (hV n), .int .i64 0, .int .i64 0, .int .i64 0, .int .i64 (hK n / 8), .int .i64 (hK n / 4 % 2), .int .i64 (hK n % 4), .int .i64 0, .int .i64 2, .int .i64 2, .int .i64 32, .int .i64 4608, .int .i64 (br (hB n)), .int .i64 1] : Array Value) = ((wants n).map (Value.int .i64)).toArray := by simp [wants, hm, hj]
    rw [e5] at hB5 ⊢
    have hF := fields_wants n
    rw [hj] at hF
    have hW0 := HW0.out
    rw [hF] at hW0
    have hc1 : ∀ j, j < 20 → (w6.alloc (.cells ((wants n).map (Value.int .i64)).toArray 3)).cell? ⟨w3.heap.size, j, none⟩ = some (.int .i64 ((wants n).getD j 0)) := fun j hj' => by
      rw [hB5.cell (by rw [hW0]; show w3.heap.size < _; rw [alloc_size]; omega), hW0]
      exact row_cells w3 _ 20 rfl j hj'
    have hc2 := row_cells w6 (wants n) 20 rfl
    have hbb : Below w.heap.size w (w6.alloc (.cells ((wants n).map (Value.int .i64)).toArray 3)) := by
      refine stp ?_ hB5
      rw [hW0]
      exact stpA (stp (stp (stpA hb1 _) hb2) hb3) _
    have HC1 := Lib.hid hc1
    have HC2 := Lib.hid hc2
    clear hc1 hc2 hB5 hW0 hF e5 hS hb1 hb2 hb3 hb4 hb5 hb6 hz2 hz3 hm hj b1 b2 b3 b4
    go_wp2_with fail
    go_loopw [57] (fun a wr => ∃ j : Nat, j ≤ 20 ∧ a = .int .i64 j ∧ Hid (∀ j, j < 20 → wr.cell? ⟨w3.heap.size, j, none⟩ = some (.int .i64 ((wants n).getD j 0))) ∧ Hid (∀ j, j < 20 → wr.cell? ⟨w6.heap.size, j, none⟩ = some (.int .i64 ((wants n).getD j 0))) ∧ Below w.heap.size w wr)
      (fun a _ => 20 - (intOf a).toNat)
    case atStart => exact ⟨0, by omega, rfl, HC1, HC2, hbb⟩
    case round =>
      clear HC1 HC2 hbb
      obtain ⟨j, hj, rfl, HC1, HC2, hbb⟩ := hrel
      by_cases hlt : j < 20
      · have h1 := HC1.out j hlt
        have h2 := HC2.out j hlt
        obtain ⟨z, hz⟩ : ∃ z, z = (wants n).getD j 0 := ⟨_, rfl⟩
        rw [← hz] at h1 h2
        clear hz
        go_wp2_with fail
        go_quiet (fail)
        go_wp2_with fail
        refine ⟨⟨j + 1, by omega, by go_num, HC1, HC2, stpN hbb _⟩, by simp [intOf]; omega⟩
      · obtain rfl : j = 20 := by omega
        go_wp2_with fail
        go_returns
        exact ⟨rfl, hbb⟩
  · go_wp2_with fail
    obtain ⟨W0, hW0⟩ : ∃ W0, W0 = w3.alloc (.cells ((fields (hW n) 2).map (Value.int .i64)).toArray 3) := ⟨_, rfl⟩
    have hS : (fun w' : World => w'.cell? ⟨w1.heap.size, 0, none⟩ = some (.int .i64 (hB n)) ∧ w'.cell? ⟨w1.heap.size, 1, none⟩ = some (.int .i64 (hR n)) ∧ w'.cell? ⟨w1.heap.size, 2, none⟩ = some (.int .i64 (hP n)) ∧ w'.cell? ⟨w1.heap.size, 3, none⟩ = some (.int .i64 1) ∧ w'.cell? ⟨w1.heap.size, 4, none⟩ = some (.int .i64 2) ∧ w'.cell? ⟨w1.heap.size, 5, none⟩ = some (.int .i64 (hV n)) ∧ w'.cell? ⟨w1.heap.size, 6, none⟩ = some (.int .i64 (hK n)) ∧ w1.heap.size < w'.heap.size ∧ Below W0.heap.size W0 w') W0 := by
      subst hW0
      refine ⟨?_, ?_, ?_, ?_, ?_, ?_, ?_, by simp; omega, stp0 _⟩
      all_goals
        rw [World.cell?_alloc_past _ _ _ hz3, hc3 _ _ hz2, hc2 _ _ (by simp)]
        simp [hm, hj]
    rw [← hW0]
    have HW0 := Lib.hid hW0
    clear hW0 hc2 hf2 hc3 hf3
    go_region_held3 (fun w' : World => w'.cell? ⟨w1.heap.size, 0, none⟩ = some (.int .i64 (hB n)) ∧ w'.cell? ⟨w1.heap.size, 1, none⟩ = some (.int .i64 (hR n)) ∧ w'.cell? ⟨w1.heap.size, 2, none⟩ = some (.int .i64 (hP n)) ∧ w'.cell? ⟨w1.heap.size, 3, none⟩ = some (.int .i64 1) ∧ w'.cell? ⟨w1.heap.size, 4, none⟩ = some (.int .i64 2) ∧ w'.cell? ⟨w1.heap.size, 5, none⟩ = some (.int .i64 (hV n)) ∧ w'.cell? ⟨w1.heap.size, 6, none⟩ = some (.int .i64 (hK n)) ∧ w1.heap.size < w'.heap.size ∧ Below W0.heap.size W0 w') (first | exact head_keep hS (stpD (stp0 W0)) | (refine head_keep ?_ (by assumption); assumption) | (refine head_keep ?_ (stpA (stp0 _) _); assumption))
      (first | (go_at_call 21; refine (channels_any _ _ _ _ _ _ _ 2 (by decide) _).mono ?_; rintro e w4 ⟨rfl, hb4⟩) | (go_at_call 22; refine (sidesize_any _ _ _ _ _ _ _ 32 (by decide) _).mono ?_; rintro e w5 ⟨rfl, hb5⟩) | (go_at_call 23; refine (hbits_any _ _ _ _ _ _ _ (by omega) (by omega) _).mono ?_; rintro e w6 ⟨rfl, hb6⟩))
    rename_i hh
    obtain ⟨_, _, _, _, _, _, _, _, hB5⟩ := hh
    have e5 : (#[.int .i64 3, .int .i64 1, .int .i64 1, .int .i64 (hB n), .int .i64 (hR n), .int .i64 (hP n), .int .i64 (hV n), .int .i64 1, .int .i64 1, .int .i64 0, .int .i64 (hK n / 8), .int .i64 (hK n / 4 % 2), .int .i64 (hK n % 4), .int .i64 0, .int .i64 2, .int .i64 2, .int .i64 32, .int .i64 4608, .int .i64 (br (hB n)), .int .i64 1] : Array Value) = ((wants n).map (Value.int .i64)).toArray := by simp [wants, hm, hj]
    rw [e5] at hB5 ⊢
    have hF := fields_wants n
    rw [hj] at hF
    have hW0 := HW0.out
    rw [hF] at hW0
    have hc1 : ∀ j, j < 20 → (w6.alloc (.cells ((wants n).map (Value.int .i64)).toArray 3)).cell? ⟨w3.heap.size, j, none⟩ = some (.int .i64 ((wants n).getD j 0)) := fun j hj' => by
      rw [hB5.cell (by rw [hW0]; show w3.heap.size < _; rw [alloc_size]; omega), hW0]
      exact row_cells w3 _ 20 rfl j hj'
    have hc2 := row_cells w6 (wants n) 20 rfl
    have hbb : Below w.heap.size w (w6.alloc (.cells ((wants n).map (Value.int .i64)).toArray 3)) := by
      refine stp ?_ hB5
      rw [hW0]
      exact stpA (stp (stp (stpA hb1 _) hb2) hb3) _
    have HC1 := Lib.hid hc1
    have HC2 := Lib.hid hc2
    clear hc1 hc2 hB5 hW0 hF e5 hS hb1 hb2 hb3 hb4 hb5 hb6 hz2 hz3 hm hj b1 b2 b3 b4
    go_wp2_with fail
    go_loopw [57] (fun a wr => ∃ j : Nat, j ≤ 20 ∧ a = .int .i64 j ∧ Hid (∀ j, j < 20 → wr.cell? ⟨w3.heap.size, j, none⟩ = some (.int .i64 ((wants n).getD j 0))) ∧ Hid (∀ j, j < 20 → wr.cell? ⟨w6.heap.size, j, none⟩ = some (.int .i64 ((wants n).getD j 0))) ∧ Below w.heap.size w wr)
      (fun a _ => 20 - (intOf a).toNat)
    case atStart => exact ⟨0, by omega, rfl, HC1, HC2, hbb⟩
    case round =>
      clear HC1 HC2 hbb
      obtain ⟨j, hj, rfl, HC1, HC2, hbb⟩ := hrel
      by_cases hlt : j < 20
      · have h1 := HC1.out j hlt
        have h2 := HC2.out j hlt
        obtain ⟨z, hz⟩ : ∃ z, z = (wants n).getD j 0 := ⟨_, rfl⟩
        rw [← hz] at h1 h2
        clear hz
        go_wp2_with fail
        go_quiet (fail)
        go_wp2_with fail
        refine ⟨⟨j + 1, by omega, by go_num, HC1, HC2, stpN hbb _⟩, by simp [intOf]; omega⟩
      · obtain rfl : j = 20 := by omega
        go_wp2_with fail
        go_returns
        exact ⟨rfl, hbb⟩
  · go_wp2_with fail
    obtain ⟨W0, hW0⟩ : ∃ W0, W0 = w3.alloc (.cells ((fields (hW n) 0).map (Value.int .i64)).toArray 3) := ⟨_, rfl⟩
    have hS : (fun w' : World => w'.cell? ⟨w1.heap.size, 0, none⟩ = some (.int .i64 (hB n)) ∧ w'.cell? ⟨w1.heap.size, 1, none⟩ = some (.int .i64 (hR n)) ∧ w'.cell? ⟨w1.heap.size, 2, none⟩ = some (.int .i64 (hP n)) ∧ w'.cell? ⟨w1.heap.size, 3, none⟩ = some (.int .i64 1) ∧ w'.cell? ⟨w1.heap.size, 4, none⟩ = some (.int .i64 0) ∧ w'.cell? ⟨w1.heap.size, 5, none⟩ = some (.int .i64 (hV n)) ∧ w'.cell? ⟨w1.heap.size, 6, none⟩ = some (.int .i64 (hK n)) ∧ w1.heap.size < w'.heap.size ∧ Below W0.heap.size W0 w') W0 := by
      subst hW0
      refine ⟨?_, ?_, ?_, ?_, ?_, ?_, ?_, by simp; omega, stp0 _⟩
      all_goals
        rw [World.cell?_alloc_past _ _ _ hz3, hc3 _ _ hz2, hc2 _ _ (by simp)]
        simp [hm, hj]
    rw [← hW0]
    have HW0 := Lib.hid hW0
    clear hW0 hc2 hf2 hc3 hf3
    go_region_held3 (fun w' : World => w'.cell? ⟨w1.heap.size, 0, none⟩ = some (.int .i64 (hB n)) ∧ w'.cell? ⟨w1.heap.size, 1, none⟩ = some (.int .i64 (hR n)) ∧ w'.cell? ⟨w1.heap.size, 2, none⟩ = some (.int .i64 (hP n)) ∧ w'.cell? ⟨w1.heap.size, 3, none⟩ = some (.int .i64 1) ∧ w'.cell? ⟨w1.heap.size, 4, none⟩ = some (.int .i64 0) ∧ w'.cell? ⟨w1.heap.size, 5, none⟩ = some (.int .i64 (hV n)) ∧ w'.cell? ⟨w1.heap.size, 6, none⟩ = some (.int .i64 (hK n)) ∧ w1.heap.size < w'.heap.size ∧ Below W0.heap.size W0 w') (first | exact head_keep hS (stpD (stp0 W0)) | (refine head_keep ?_ (by assumption); assumption) | (refine head_keep ?_ (stpA (stp0 _) _); assumption))
      (first | (go_at_call 21; refine (channels_any _ _ _ _ _ _ _ 2 (by decide) _).mono ?_; rintro e w4 ⟨rfl, hb4⟩) | (go_at_call 22; refine (sidesize_any _ _ _ _ _ _ _ 32 (by decide) _).mono ?_; rintro e w5 ⟨rfl, hb5⟩) | (go_at_call 23; refine (hbits_any _ _ _ _ _ _ _ (by omega) (by omega) _).mono ?_; rintro e w6 ⟨rfl, hb6⟩))
    rename_i hh
    obtain ⟨_, _, _, _, _, _, _, _, hB5⟩ := hh
    have e5 : (#[.int .i64 3, .int .i64 1, .int .i64 1, .int .i64 (hB n), .int .i64 (hR n), .int .i64 (hP n), .int .i64 (hV n), .int .i64 1, .int .i64 0, .int .i64 0, .int .i64 (hK n / 8), .int .i64 (hK n / 4 % 2), .int .i64 (hK n % 4), .int .i64 0, .int .i64 2, .int .i64 2, .int .i64 32, .int .i64 4608, .int .i64 (br (hB n)), .int .i64 1] : Array Value) = ((wants n).map (Value.int .i64)).toArray := by simp [wants, hm, hj]
    rw [e5] at hB5 ⊢
    have hF := fields_wants n
    rw [hj] at hF
    have hW0 := HW0.out
    rw [hF] at hW0
    have hc1 : ∀ j, j < 20 → (w6.alloc (.cells ((wants n).map (Value.int .i64)).toArray 3)).cell? ⟨w3.heap.size, j, none⟩ = some (.int .i64 ((wants n).getD j 0)) := fun j hj' => by
      rw [hB5.cell (by rw [hW0]; show w3.heap.size < _; rw [alloc_size]; omega), hW0]
      exact row_cells w3 _ 20 rfl j hj'
    have hc2 := row_cells w6 (wants n) 20 rfl
    have hbb : Below w.heap.size w (w6.alloc (.cells ((wants n).map (Value.int .i64)).toArray 3)) := by
      refine stp ?_ hB5
      rw [hW0]
      exact stpA (stp (stp (stpA hb1 _) hb2) hb3) _
    have HC1 := Lib.hid hc1
    have HC2 := Lib.hid hc2
    clear hc1 hc2 hB5 hW0 hF e5 hS hb1 hb2 hb3 hb4 hb5 hb6 hz2 hz3 hm hj b1 b2 b3 b4
    go_wp2_with fail
    go_loopw [57] (fun a wr => ∃ j : Nat, j ≤ 20 ∧ a = .int .i64 j ∧ Hid (∀ j, j < 20 → wr.cell? ⟨w3.heap.size, j, none⟩ = some (.int .i64 ((wants n).getD j 0))) ∧ Hid (∀ j, j < 20 → wr.cell? ⟨w6.heap.size, j, none⟩ = some (.int .i64 ((wants n).getD j 0))) ∧ Below w.heap.size w wr)
      (fun a _ => 20 - (intOf a).toNat)
    case atStart => exact ⟨0, by omega, rfl, HC1, HC2, hbb⟩
    case round =>
      clear HC1 HC2 hbb
      obtain ⟨j, hj, rfl, HC1, HC2, hbb⟩ := hrel
      by_cases hlt : j < 20
      · have h1 := HC1.out j hlt
        have h2 := HC2.out j hlt
        obtain ⟨z, hz⟩ : ∃ z, z = (wants n).getD j 0 := ⟨_, rfl⟩
        rw [← hz] at h1 h2
        clear hz
        go_wp2_with fail
        go_quiet (fail)
        go_wp2_with fail
        refine ⟨⟨j + 1, by omega, by go_num, HC1, HC2, stpN hbb _⟩, by simp [intOf]; omega⟩
      · obtain rfl : j = 20 := by omega
        go_wp2_with fail
        go_returns
        exact ⟨rfl, hbb⟩
  · go_wp2_with fail
    obtain ⟨W0, hW0⟩ : ∃ W0, W0 = w3.alloc (.cells ((fields (hW n) 0).map (Value.int .i64)).toArray 3) := ⟨_, rfl⟩
    have hS : (fun w' : World => w'.cell? ⟨w1.heap.size, 0, none⟩ = some (.int .i64 (hB n)) ∧ w'.cell? ⟨w1.heap.size, 1, none⟩ = some (.int .i64 (hR n)) ∧ w'.cell? ⟨w1.heap.size, 2, none⟩ = some (.int .i64 (hP n)) ∧ w'.cell? ⟨w1.heap.size, 3, none⟩ = some (.int .i64 3) ∧ w'.cell? ⟨w1.heap.size, 4, none⟩ = some (.int .i64 0) ∧ w'.cell? ⟨w1.heap.size, 5, none⟩ = some (.int .i64 (hV n)) ∧ w'.cell? ⟨w1.heap.size, 6, none⟩ = some (.int .i64 (hK n)) ∧ w1.heap.size < w'.heap.size ∧ Below W0.heap.size W0 w') W0 := by
      subst hW0
      refine ⟨?_, ?_, ?_, ?_, ?_, ?_, ?_, by simp; omega, stp0 _⟩
      all_goals
        rw [World.cell?_alloc_past _ _ _ hz3, hc3 _ _ hz2, hc2 _ _ (by simp)]
        simp [hm, hj]
    rw [← hW0]
    have HW0 := Lib.hid hW0
    clear hW0 hc2 hf2 hc3 hf3
    go_region_held3 (fun w' : World => w'.cell? ⟨w1.heap.size, 0, none⟩ = some (.int .i64 (hB n)) ∧ w'.cell? ⟨w1.heap.size, 1, none⟩ = some (.int .i64 (hR n)) ∧ w'.cell? ⟨w1.heap.size, 2, none⟩ = some (.int .i64 (hP n)) ∧ w'.cell? ⟨w1.heap.size, 3, none⟩ = some (.int .i64 3) ∧ w'.cell? ⟨w1.heap.size, 4, none⟩ = some (.int .i64 0) ∧ w'.cell? ⟨w1.heap.size, 5, none⟩ = some (.int .i64 (hV n)) ∧ w'.cell? ⟨w1.heap.size, 6, none⟩ = some (.int .i64 (hK n)) ∧ w1.heap.size < w'.heap.size ∧ Below W0.heap.size W0 w') (first | exact head_keep hS (stpD (stp0 W0)) | (refine head_keep ?_ (by assumption); assumption) | (refine head_keep ?_ (stpA (stp0 _) _); assumption))
      (first | (go_at_call 21; refine (channels_any _ _ _ _ _ _ _ 1 (by decide) _).mono ?_; rintro e w4 ⟨rfl, hb4⟩) | (go_at_call 22; refine (sidesize_any _ _ _ _ _ _ _ 17 (by decide) _).mono ?_; rintro e w5 ⟨rfl, hb5⟩) | (go_at_call 23; refine (hbits_any _ _ _ _ _ _ _ (by omega) (by omega) _).mono ?_; rintro e w6 ⟨rfl, hb6⟩))
    rename_i hh
    obtain ⟨_, _, _, _, _, _, _, _, hB5⟩ := hh
    have e5 : (#[.int .i64 3, .int .i64 1, .int .i64 1, .int .i64 (hB n), .int .i64 (hR n), .int .i64 (hP n), .int .i64 (hV n), .int .i64 3, .int .i64 0, .int .i64 0, .int .i64 (hK n / 8), .int .i64 (hK n / 4 % 2), .int .i64 (hK n % 4), .int .i64 0, .int .i64 1, .int .i64 2, .int .i64 17, .int .i64 4608, .int .i64 (br (hB n)), .int .i64 1] : Array Value) = ((wants n).map (Value.int .i64)).toArray := by simp [wants, hm, hj]
    rw [e5] at hB5 ⊢
    have hF := fields_wants n
    rw [hj] at hF
    have hW0 := HW0.out
    rw [hF] at hW0
    have hc1 : ∀ j, j < 20 → (w6.alloc (.cells ((wants n).map (Value.int .i64)).toArray 3)).cell? ⟨w3.heap.size, j, none⟩ = some (.int .i64 ((wants n).getD j 0)) := fun j hj' => by
      rw [hB5.cell (by rw [hW0]; show w3.heap.size < _; rw [alloc_size]; omega), hW0]
      exact row_cells w3 _ 20 rfl j hj'
    have hc2 := row_cells w6 (wants n) 20 rfl
    have hbb : Below w.heap.size w (w6.alloc (.cells ((wants n).map (Value.int .i64)).toArray 3)) := by
      refine stp ?_ hB5
      rw [hW0]
      exact stpA (stp (stp (stpA hb1 _) hb2) hb3) _
    have HC1 := Lib.hid hc1
    have HC2 := Lib.hid hc2
    clear hc1 hc2 hB5 hW0 hF e5 hS hb1 hb2 hb3 hb4 hb5 hb6 hz2 hz3 hm hj b1 b2 b3 b4
    go_wp2_with fail
    go_loopw [57] (fun a wr => ∃ j : Nat, j ≤ 20 ∧ a = .int .i64 j ∧ Hid (∀ j, j < 20 → wr.cell? ⟨w3.heap.size, j, none⟩ = some (.int .i64 ((wants n).getD j 0))) ∧ Hid (∀ j, j < 20 → wr.cell? ⟨w6.heap.size, j, none⟩ = some (.int .i64 ((wants n).getD j 0))) ∧ Below w.heap.size w wr)
      (fun a _ => 20 - (intOf a).toNat)
    case atStart => exact ⟨0, by omega, rfl, HC1, HC2, hbb⟩
    case round =>
      clear HC1 HC2 hbb
      obtain ⟨j, hj, rfl, HC1, HC2, hbb⟩ := hrel
      by_cases hlt : j < 20
      · have h1 := HC1.out j hlt
        have h2 := HC2.out j hlt
        obtain ⟨z, hz⟩ : ∃ z, z = (wants n).getD j 0 := ⟨_, rfl⟩
        rw [← hz] at h1 h2
        clear hz
        go_wp2_with fail
        go_quiet (fail)
        go_wp2_with fail
        refine ⟨⟨j + 1, by omega, by go_num, HC1, HC2, stpN hbb _⟩, by simp [intOf]; omega⟩
      · obtain rfl : j = 20 := by omega
        go_wp2_with fail
        go_returns
        exact ⟨rfl, hbb⟩

theorem fnFields_walk (n : Int) (w0 : (Lit.int .u32 n).wf = true) (w : World) :
    Calls Try.prog 8 #[.int .u32 n] w fun e w' => e = .returned (.bool true) ∧ Below w.heap.size w w' := by
  obtain ⟨h0, h1⟩ := bounds_u32 w0
  rcases hMJ n with ⟨a, b⟩ | ⟨a, b⟩ | ⟨a, b⟩ | ⟨a, b⟩
  · exact fnFields_case n 0 0 0 h0 h1 (.inl ⟨rfl, rfl, rfl⟩) a b w
  · exact fnFields_case n 1 2 1 h0 h1 (.inr (.inl ⟨rfl, rfl, rfl⟩)) a b w
  · exact fnFields_case n 1 0 0 h0 h1 (.inr (.inr (.inl ⟨rfl, rfl, rfl⟩))) a b w
  · exact fnFields_case n 3 0 0 h0 h1 (.inr (.inr (.inr ⟨rfl, rfl, rfl⟩))) a b w
end Go.Proofs.Ytppfldobgemddaa
