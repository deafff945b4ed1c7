/-
  The contract of imdct.cosines36.
-/
import Derived.Test.YtppfldobgemddaaDoorTb
namespace Go.Proofs.YtppfldobgemddaaDoor
open Go.RowKit
set_option linter.unusedVariables false

theorem zero162 : (Tryd.prog.info? 162).map (fun i => (i.zero, i.size)) = some (some (.agg (Zf 648)), 648) := by kernel_rfl

set_option maxRecDepth 100000 in
set_option maxHeartbeats 1000000 in
theorem cosines36_any (w : World) (hT : Tabs w) : Calls Tryd.prog 51 #[] w (MadeTab 648 162 (fun q => c36W (q / 36) (q % 36)) w) := by
  have hz := (zero_of_info zero162).1
  go_enter Tryd.func51, Tryd.ntmps51
  go_wp2_with fail
  have HN := tabF_new w 648 162 (fun q => c36W (q / 36) (q % 36))
  have HB : Below w.heap.size w (w.alloc (.cells (Zf 648) 162)) := stpA (stp0 w) _
  clear hz
  go_loopw [2] (fun a wr => ∃ i : Nat, i ≤ 18 ∧ a = .int .i64 i ∧ TabF w.heap.size 648 162 (fun q => c36W (q / 36) (q % 36)) (36 * i) wr ∧ Below w.heap.size w wr)
    (fun a _ => 18 - (intOf a).toNat)
  case atStart => exact ⟨0, by omega, rfl, HN, HB⟩
  case round =>
    clear HN HB
    obtain ⟨i, hi, rfl, ht, hb⟩ := hrel
    by_cases hlt : i < 18
    · have d1 : decide ((i : Int) < 18) = true := decide_eq_true (by omega)
      go_wp2_with fail
      go_loopw [3] (fun a wr => ∃ j : Nat, j ≤ 36 ∧ a = .int .i64 j ∧ TabF w.heap.size 648 162 (fun q => c36W (q / 36) (q % 36)) (36 * i + j) wr ∧ Below w.heap.size w wr)
        (fun a _ => 36 - (intOf a).toNat)
      case atStart => exact ⟨0, by omega, rfl, ht, hb⟩
      case round =>
        clear ht hb
        obtain ⟨j, hj, rfl, ht, hb⟩ := hrel
        by_cases hl2 : j < 36
        · have d2 : decide ((j : Int) < 36) = true := decide_eq_true (by omega)
          obtain ⟨v, hc, _⟩ := ht.cell (i * 36 + j) (by omega)
          have hf := ht.free (i * 36 + j)
          have hT' := hT.below hb
          obtain ⟨x, h1, h2⟩ := bind_some (c36_is i j hlt hl2)
          obtain ⟨r, h2, h3⟩ := bind_some h2
          obtain ⟨a, k1, h1⟩ := bind_some h1
          obtain ⟨b, k2, h1⟩ := bind_some h1
          obtain ⟨c, k3, h1⟩ := bind_some h1
          obtain ⟨d, k4, h1⟩ := bind_some h1
          obtain ⟨e, k5, h1⟩ := bind_some h1
          obtain ⟨g, k6, k7⟩ := bind_some h1
          have e1 := opmul k1
          have e2 := opadd k2
          have e3 := opadd k3
          have e4 := opmul k4
          have e5 := opmul k5
          have e6 := opadd k6
          have e7 := opmul k7
          have e8 := opto32 h3
          unfold fint at e1 e5
          have hq : (fun q => c36W (q / 36) (q % 36)) (36 * i + j) = c36W i j := by
            show c36W ((36 * i + j) / 36) ((36 * i + j) % 36) = _
            rw [show (36 * i + j) / 36 = i by omega, show (36 * i + j) % 36 = j by omega]
          have HQ := Lib.hid hq
          clear hq
          have H := Lib.hid h2
          clear k1 k2 k3 k4 k5 k6 k7 h1 h2 h3
          have HT := Lib.hid ht
          have HB := Lib.hid hb
          clear ht hb
          go_wp2_with fail
          go_region_with (first | (go_at_call 36; refine (cos_any _ _ H.out _ ?_).mono ?_; (first | exact hT' | exact hT'.drew); rintro e w' ⟨rfl, rfl⟩))
          all_goals go_wp2_with fail
          all_goals exact ⟨⟨j + 1, by omega, by go_num, (HT.out.step _ _ (by omega) (by omega) HQ.out.symm).drew, stpD (stpS HB.out _ _ (Nat.le_refl _))⟩, by simp [intOf]; omega⟩
        · obtain rfl : j = 36 := by omega
          go_wp2_with fail
          exact ⟨⟨i + 1, by omega, by go_num, ht, hb⟩, by simp [intOf]; omega⟩
    · obtain rfl : i = 18 := by omega
      go_wp2_with fail
      go_ret
      exact ⟨_, rfl, Nat.le_refl _, (by have := block_lt_of_cell (ht.cell 0 (by omega)).choose_spec.1; exact this), ht, hb⟩
end Go.Proofs.YtppfldobgemddaaDoor
