/-
  The walk of laws.FnBands.
-/
import Derived.Test.YtppfldobgemddaaBe
import Derived.Deep.QuietTactic
import Derived.BigQuiet
namespace Go.Proofs.Ytppfldobgemddaa
open Go.RowKit
set_option linter.unusedVariables false

theorem owned_cells {w : World} {base n : Nat} {v : Value} {zs : List Int} (h : w.ownsRow base 3 1 v n (zs.map (Value.int .i64))) (hn : 0 < n) :
    ∃ g cap, v = .slice (some ⟨g, 0, none⟩) n cap ∧ ∀ j, j < n → w.cell? ⟨g, j, none⟩ = some (.int .i64 (zs.getD j 0)) := by
  have hl : zs.length = n := by have := h.1; simpa using this
  rcases h.2 with ⟨_, h0⟩ | ⟨g, cap, cur, rfl, _, _⟩
  · omega
  · refine ⟨g, cap, rfl, fun j hj => ?_⟩
    rw [h.cellAt j (by omega), List.getD_eq_getElem?_getD]
    simp [hl, hj]
theorem new_cells {w : World} (k : Nat) (hk : k < 6) : ∀ j, j < bndLen k → (w.alloc (.cells (arr k) 3)).cell? ⟨w.heap.size, j, none⟩ = some (.int .i64 ((bnd k).getD j 0)) := by
  intro j hj
  have hl := bnd_len k hk
  rw [cell_of_row _ w.heap.size j _ _ (0, 0) (heap_alloc_last _ _), arr_bnd k hk, List.getD_eq_getElem?_getD]
  simp [hl, hj]

set_option maxHeartbeats 1000000 in
theorem fnBands_long (r : Nat) (m : Int) (hr : r < 3) (hm : 0 ≤ m) (hm1 : m ≤ 255) (hmr : m % 3 = (r : Int)) (w : World) :
    Calls Try.prog 6 #[.bool false, .int .u8 m] w fun e w' => e = .returned (.bool true) ∧ Below w.heap.size w w' := by
  go_enter Try.func6, Try.ntmps6
  go_wp2_with fail
  refine (longBands_any r hr _).mono ?_
  rintro e w1 ⟨rfl, rfl⟩
  go_wp2_with fail
  refine (bands_any 0 r (by omega) hr _).mono ?_
  rintro e w1 ⟨⟨v, rfl, hown⟩, hb⟩
  simp only [Nat.add_zero] at hown
  have hl : bndLen (2 * r) = 23 := by unfold bndLen; rw [if_pos (by omega)]
  obtain ⟨g, cap, rfl, hc1⟩ := owned_cells hown (by rw [hl]; decide)
  have hc0 := new_cells (w := w) (2 * r) (by omega)
  rw [hl] at hc1 hc0
  have hc2 : ∀ j, j < 23 → w1.cell? ⟨w.heap.size, j, none⟩ = some (.int .i64 ((bnd (2 * r)).getD j 0)) := fun j hj => by
    rw [hb.cell (by show w.heap.size < _; rw [alloc_size]; omega)]; exact hc0 j hj
  have hb1 : Below w.heap.size w w1 := stp (stpA (stp0 w) _) hb
  have HC1 := Lib.hid hc1
  have HC2 := Lib.hid hc2
  rw [hl]
  clear hc1 hc2 hc0 hown hl hb
  go_wp2_with fail
  go_loopw [30] (fun a wr => ∃ j : Nat, j ≤ 23 ∧ a = .int .i64 j ∧ Hid (∀ j, j < 23 → wr.cell? ⟨g, j, none⟩ = some (.int .i64 ((bnd (2 * r)).getD j 0))) ∧ Hid (∀ j, j < 23 → wr.cell? ⟨w.heap.size, j, none⟩ = some (.int .i64 ((bnd (2 * r)).getD j 0))) ∧ Below w.heap.size w wr)
    (fun a _ => 23 - (intOf a).toNat)
  case atStart => exact ⟨0, by omega, rfl, HC1, HC2, hb1⟩
  case round =>
    clear HC1 HC2 hb1
    obtain ⟨j, hj, rfl, HC1, HC2, hb1⟩ := hrel
    by_cases hlt : j < 23
    · have h1 := HC1.out j hlt
      have h2 := HC2.out j hlt
      obtain ⟨z, hz⟩ : ∃ z, z = (bnd (2 * r)).getD j 0 := ⟨_, rfl⟩
      rw [← hz] at h1 h2
      clear hz
      go_wp2_with fail
      go_quiet (fail)
      go_wp2_with fail
      refine ⟨⟨j + 1, by omega, by go_num, HC1, HC2, stpN hb1 _⟩, by simp [intOf]; omega⟩
    · obtain rfl : j = 23 := by omega
      go_wp2_with fail
      go_returns
      exact ⟨rfl, hb1⟩

set_option maxHeartbeats 1000000 in
theorem fnBands_short (r : Nat) (m : Int) (hr : r < 3) (hm : 0 ≤ m) (hm1 : m ≤ 255) (hmr : m % 3 = (r : Int)) (w : World) :
    Calls Try.prog 6 #[.bool true, .int .u8 m] w fun e w' => e = .returned (.bool true) ∧ Below w.heap.size w w' := by
  go_enter Try.func6, Try.ntmps6
  go_wp2_with fail
  refine (longBands_any r hr _).mono ?_
  rintro e w1 ⟨rfl, rfl⟩
  go_wp2_with fail
  refine (shortBands_any r hr _).mono ?_
  rintro e w1 ⟨rfl, rfl⟩
  go_wp2_with fail
  refine (bands_any 1 r (by omega) hr _).mono ?_
  rintro e w1 ⟨⟨v, rfl, hown⟩, hb⟩
  have hl : bndLen (2 * r + 1) = 14 := by unfold bndLen; rw [if_neg (by omega)]
  obtain ⟨g, cap, rfl, hc1⟩ := owned_cells hown (by rw [hl]; decide)
  have hc0 := new_cells (w := w.alloc (.cells (arr (2 * r)) 3)) (2 * r + 1) (by omega)
  rw [alloc_size] at hc0
  rw [hl] at hc1 hc0
  have hc2 : ∀ j, j < 14 → w1.cell? ⟨w.heap.size + 1, j, none⟩ = some (.int .i64 ((bnd (2 * r + 1)).getD j 0)) := fun j hj => by
    rw [hb.cell (by show w.heap.size + 1 < _; rw [alloc_size, alloc_size]; omega)]; exact hc0 j hj
  have hb1 : Below w.heap.size w w1 := stp (stpA (stpA (stp0 w) _) _) hb
  have HC1 := Lib.hid hc1
  have HC2 := Lib.hid hc2
  rw [hl]
  clear hc1 hc2 hc0 hown hl hb
  go_wp2_with fail
  go_loopw [30] (fun a wr => ∃ j : Nat, j ≤ 14 ∧ a = .int .i64 j ∧ Hid (∀ j, j < 14 → wr.cell? ⟨g, j, none⟩ = some (.int .i64 ((bnd (2 * r + 1)).getD j 0))) ∧ Hid (∀ j, j < 14 → wr.cell? ⟨w.heap.size + 1, j, none⟩ = some (.int .i64 ((bnd (2 * r + 1)).getD j 0))) ∧ Below w.heap.size w wr)
    (fun a _ => 14 - (intOf a).toNat)
  case atStart => exact ⟨0, by omega, rfl, HC1, HC2, hb1⟩
  case round =>
    clear HC1 HC2 hb1
    obtain ⟨j, hj, rfl, HC1, HC2, hb1⟩ := hrel
    by_cases hlt : j < 14
    · have h1 := HC1.out j hlt
      have h2 := HC2.out j hlt
      obtain ⟨z, hz⟩ : ∃ z, z = (bnd (2 * r + 1)).getD j 0 := ⟨_, rfl⟩
      rw [← hz] at h1 h2
      clear hz
      go_wp2_with fail
      go_quiet (fail)
      go_wp2_with fail
      refine ⟨⟨j + 1, by omega, by go_num, HC1, HC2, stpN hb1 _⟩, by simp [intOf]; omega⟩
    · obtain rfl : j = 14 := by omega
      go_wp2_with fail
      go_returns
      exact ⟨rfl, hb1⟩

theorem fnBands_walk (s : Bool) (m : Int) (w1 : (Lit.int .u8 m).wf = true) (w : World) :
    Calls Try.prog 6 #[.bool s, .int .u8 m] w fun e w' => e = .returned (.bool true) ∧ Below w.heap.size w w' := by
  obtain ⟨h0, h1⟩ := bounds_u8 w1
  obtain ⟨r, hr⟩ := Int.eq_ofNat_of_zero_le (show 0 ≤ m % 3 by omega)
  cases s
  · exact fnBands_long r m (by omega) h0 h1 hr w
  · exact fnBands_short r m (by omega) h0 h1 hr w
end Go.Proofs.Ytppfldobgemddaa
