/-
  The contract of imdct.winData.
-/
import Derived.Test.YtppfldobgemddaaDoorTb
namespace Go.Proofs.YtppfldobgemddaaDoor
open Go.RowKit
set_option linter.unusedVariables false

theorem zero160 : (Tryd.prog.info? 160).map (fun i => (i.zero, i.size)) = some (some (.agg (Zf 144)), 144) := by kernel_rfl
def wf (q : Nat) : Nat := winW (q / 36) (q % 36)
theorem wf_at (b i : Nat) (hi : i < 36) : wf (36 * b + i) = winW b i := by
  show winW ((36 * b + i) / 36) ((36 * b + i) % 36) = _
  rw [show (36 * b + i) / 36 = b by omega, show (36 * b + i) % 36 = i by omega]
theorem win_0 (i : Nat) (h0 : 0 ≤ i) (h1 : i < 36) : winA 4590952631998301319 i = some (wf (i)) := by
  rw [show wf (i) = winW 0 i from (by have := wf_at 0 i (by omega); simpa using this), ← win_is 0 i (by decide) (by omega)]
  unfold winO
  rw [if_pos rfl]
theorem win_1 (i : Nat) (h0 : 0 ≤ i) (h1 : i < 18) : winA 4590952631998301319 i = some (wf (36 + i)) := by
  rw [show wf (36 + i) = winW 1 i from (by have := wf_at 1 i (by omega); simpa using this), ← win_is 1 i (by decide) (by omega)]
  unfold winO
  rw [if_neg (by decide), if_pos rfl]
  repeat (first | rw [if_pos (by omega)] | rw [if_neg (by omega)])
theorem win_2 (i : Nat) (h0 : 18 ≤ i) (h1 : i < 24) : some 1065353216 = some (wf (36 + i)) := by
  rw [show wf (36 + i) = winW 1 i from (by have := wf_at 1 i (by omega); simpa using this), ← win_is 1 i (by decide) (by omega)]
  unfold winO
  rw [if_neg (by decide), if_pos rfl]
  repeat (first | rw [if_pos (by omega)] | rw [if_neg (by omega)])
theorem win_3 (i : Nat) (h0 : 24 ≤ i) (h1 : i < 30) : winB 4598387778419258214 i 4625759767262920704 = some (wf (36 + i)) := by
  rw [show wf (36 + i) = winW 1 i from (by have := wf_at 1 i (by omega); simpa using this), ← win_is 1 i (by decide) (by omega)]
  unfold winO
  rw [if_neg (by decide), if_pos rfl]
  repeat (first | rw [if_pos (by omega)] | rw [if_neg (by omega)])
theorem win_4 (i : Nat) (h0 : 30 ≤ i) (h1 : i < 36) : some 0 = some (wf (36 + i)) := by
  rw [show wf (36 + i) = winW 1 i from (by have := wf_at 1 i (by omega); simpa using this), ← win_is 1 i (by decide) (by omega)]
  unfold winO
  rw [if_neg (by decide), if_pos rfl]
  repeat (first | rw [if_pos (by omega)] | rw [if_neg (by omega)])
theorem win_5 (i : Nat) (h0 : 0 ≤ i) (h1 : i < 12) : winA 4598387778419258214 i = some (wf (72 + i)) := by
  rw [show wf (72 + i) = winW 2 i from (by have := wf_at 2 i (by omega); simpa using this), ← win_is 2 i (by decide) (by omega)]
  unfold winO
  rw [if_neg (by decide), if_neg (by decide), if_pos rfl]
  repeat (first | rw [if_pos (by omega)] | rw [if_neg (by omega)])
theorem win_6 (i : Nat) (h0 : 12 ≤ i) (h1 : i < 36) : some 0 = some (wf (72 + i)) := by
  rw [show wf (72 + i) = winW 2 i from (by have := wf_at 2 i (by omega); simpa using this), ← win_is 2 i (by decide) (by omega)]
  unfold winO
  rw [if_neg (by decide), if_neg (by decide), if_pos rfl]
  repeat (first | rw [if_pos (by omega)] | rw [if_neg (by omega)])
theorem win_7 (i : Nat) (h0 : 0 ≤ i) (h1 : i < 6) : some 0 = some (wf (108 + i)) := by
  rw [show wf (108 + i) = winW 3 i from (by have := wf_at 3 i (by omega); simpa using this), ← win_is 3 i (by decide) (by omega)]
  unfold winO
  rw [if_neg (by decide), if_neg (by decide), if_neg (by decide)]
  repeat (first | rw [if_pos (by omega)] | rw [if_neg (by omega)])
theorem win_8 (i : Nat) (h0 : 6 ≤ i) (h1 : i < 12) : winB 4598387778419258214 i 4618441417868443648 = some (wf (108 + i)) := by
  rw [show wf (108 + i) = winW 3 i from (by have := wf_at 3 i (by omega); simpa using this), ← win_is 3 i (by decide) (by omega)]
  unfold winO
  rw [if_neg (by decide), if_neg (by decide), if_neg (by decide)]
  repeat (first | rw [if_pos (by omega)] | rw [if_neg (by omega)])
theorem win_9 (i : Nat) (h0 : 12 ≤ i) (h1 : i < 18) : some 1065353216 = some (wf (108 + i)) := by
  rw [show wf (108 + i) = winW 3 i from (by have := wf_at 3 i (by omega); simpa using this), ← win_is 3 i (by decide) (by omega)]
  unfold winO
  rw [if_neg (by decide), if_neg (by decide), if_neg (by decide)]
  repeat (first | rw [if_pos (by omega)] | rw [if_neg (by omega)])
theorem win_10 (i : Nat) (h0 : 18 ≤ i) (h1 : i < 36) : winA 4590952631998301319 i = some (wf (108 + i)) := by
  rw [show wf (108 + i) = winW 3 i from (by have := wf_at 3 i (by omega); simpa using this), ← win_is 3 i (by decide) (by omega)]
  unfold winO
  rw [if_neg (by decide), if_neg (by decide), if_neg (by decide)]
  repeat (first | rw [if_pos (by omega)] | rw [if_neg (by omega)])

set_option maxRecDepth 100000 in
set_option maxHeartbeats 8000000 in
theorem winData_any (w : World) (hT : Tabs w) : Calls Tryd.prog 49 #[] w (MadeTab 144 160 wf w) := by
  have hz := (zero_of_info zero160).1
  go_enter Tryd.func49, Tryd.ntmps49
  go_wp2_with fail
  have HT := Lib.hid (tabF_new w 144 160 wf)
  have HB : Hid (Below w.heap.size w (w.alloc (.cells (Zf 144) 160))) := Lib.hid (stpA (stp0 w) _)
  clear hz
  go_loopw [2] (fun a wr => ∃ i : Nat, 0 ≤ i ∧ i ≤ 36 ∧ a = .int .i64 i ∧ Hid (TabF w.heap.size 144 160 wf (i) wr) ∧ Hid (Below w.heap.size w wr))
    (fun a _ => 36 - (intOf a).toNat)
  case atStart => exact ⟨0, by omega, by omega, rfl, HT, HB⟩
  case round =>
    clear HT HB
    obtain ⟨i, hi0, hi, rfl, HT, HB⟩ := hrel
    by_cases hlt : i < 36
    · have d1 : decide ((i : Int) < 36) = true := decide_eq_true (by omega)
      obtain ⟨v, hc, _⟩ := HT.out.cell (i) (by omega)
      have hf := HT.out.free (i)
      have hk := win_0 i (by omega) hlt
      have hT' := hT.below HB.out
      obtain ⟨x, h1, h2⟩ := bind_some hk
      obtain ⟨r, h2, h3⟩ := bind_some h2
      obtain ⟨c1, k1, h1⟩ := bind_some h1
      have e1 := opadd k1
      have e3 := opmul h1
      have e8 := opto32 h3
      unfold fint at e1
      have H := Lib.hid h2
      clear k1 h1 h2 h3 hk
      go_wp2_with fail
      go_region_with (first | (go_at_call 54; refine (sin_any _ _ H.out _ ?_).mono ?_; (first | exact hT' | exact hT'.drew); rintro e w' ⟨rfl, rfl⟩))
      all_goals go_wp2_with fail
      all_goals exact ⟨⟨i + 1, by omega, by omega, by go_num, Lib.hid (HT.out.step (i) _ (by omega) (by omega) rfl).drew, Lib.hid (stpD (stpS HB.out _ _ (Nat.le_refl _)))⟩, by simp [intOf]; omega⟩
    · obtain rfl : i = 36 := by omega
      rw [show ((36 : Nat) : Int) = 36 from rfl]
      go_wp2_with fail
      clear hi0 hi hlt
      go_loopw [3] (fun a wr => ∃ i : Nat, 0 ≤ i ∧ i ≤ 18 ∧ a = .int .i64 i ∧ Hid (TabF w.heap.size 144 160 wf (36 + i) wr) ∧ Hid (Below w.heap.size w wr))
        (fun a _ => 18 - (intOf a).toNat)
      case atStart => exact ⟨0, by omega, by omega, rfl, HT, HB⟩
      case round =>
        clear HT HB
        obtain ⟨i, hi0, hi, rfl, HT, HB⟩ := hrel
        by_cases hlt : i < 18
        · have d1 : decide ((i : Int) < 18) = true := decide_eq_true (by omega)
          obtain ⟨v, hc, _⟩ := HT.out.cell (36 + i) (by omega)
          have hf := HT.out.free (36 + i)
          have hk := win_1 i (by omega) hlt
          have hT' := hT.below HB.out
          obtain ⟨x, h1, h2⟩ := bind_some hk
          obtain ⟨r, h2, h3⟩ := bind_some h2
          obtain ⟨c1, k1, h1⟩ := bind_some h1
          have e1 := opadd k1
          have e3 := opmul h1
          have e8 := opto32 h3
          unfold fint at e1
          have H := Lib.hid h2
          clear k1 h1 h2 h3 hk
          go_wp2_with fail
          go_region_with (first | (go_at_call 54; refine (sin_any _ _ H.out _ ?_).mono ?_; (first | exact hT' | exact hT'.drew); rintro e w' ⟨rfl, rfl⟩))
          all_goals go_wp2_with fail
          all_goals exact ⟨⟨i + 1, by omega, by omega, by go_num, Lib.hid (HT.out.step (36 + i) _ (by omega) (by omega) rfl).drew, Lib.hid (stpD (stpS HB.out _ _ (Nat.le_refl _)))⟩, by simp [intOf]; omega⟩
        · obtain rfl : i = 18 := by omega
          rw [show ((18 : Nat) : Int) = 18 from rfl]
          go_wp2_with fail
          clear hi0 hi hlt
          go_loopw [4] (fun a wr => ∃ i : Nat, 18 ≤ i ∧ i ≤ 24 ∧ a = .int .i64 i ∧ Hid (TabF w.heap.size 144 160 wf (36 + i) wr) ∧ Hid (Below w.heap.size w wr))
            (fun a _ => 24 - (intOf a).toNat)
          case atStart => exact ⟨18, by omega, by omega, rfl, HT, HB⟩
          case round =>
            clear HT HB
            obtain ⟨i, hi0, hi, rfl, HT, HB⟩ := hrel
            by_cases hlt : i < 24
            · have d1 : decide ((i : Int) < 24) = true := decide_eq_true (by omega)
              obtain ⟨v, hc, _⟩ := HT.out.cell (36 + i) (by omega)
              have hf := HT.out.free (36 + i)
              have hk := win_2 i (by omega) hlt
              have HK := Lib.hid (Option.some.inj hk)
              clear hk
              go_wp2_with fail
              exact ⟨⟨i + 1, by omega, by omega, by go_num, Lib.hid (HT.out.step (36 + i) _ (by omega) (by omega) HK.out), Lib.hid (stpS HB.out _ _ (Nat.le_refl _))⟩, by simp [intOf]; omega⟩
            · obtain rfl : i = 24 := by omega
              rw [show ((24 : Nat) : Int) = 24 from rfl]
              go_wp2_with fail
              clear hi0 hi hlt
              go_loopw [5] (fun a wr => ∃ i : Nat, 24 ≤ i ∧ i ≤ 30 ∧ a = .int .i64 i ∧ Hid (TabF w.heap.size 144 160 wf (36 + i) wr) ∧ Hid (Below w.heap.size w wr))
                (fun a _ => 30 - (intOf a).toNat)
              case atStart => exact ⟨24, by omega, by omega, rfl, HT, HB⟩
              case round =>
                clear HT HB
                obtain ⟨i, hi0, hi, rfl, HT, HB⟩ := hrel
                by_cases hlt : i < 30
                · have d1 : decide ((i : Int) < 30) = true := decide_eq_true (by omega)
                  obtain ⟨v, hc, _⟩ := HT.out.cell (36 + i) (by omega)
                  have hf := HT.out.free (36 + i)
                  have hk := win_3 i (by omega) hlt
                  have hT' := hT.below HB.out
                  obtain ⟨x, h1, h2⟩ := bind_some hk
                  obtain ⟨r, h2, h3⟩ := bind_some h2
                  obtain ⟨c1, k1, h1⟩ := bind_some h1
                  have e1 := opadd k1
                  obtain ⟨c2, k2, k3⟩ := bind_some h1
                  have e2 := opsub k2
                  have e3 := opmul k3
                  clear k2 k3
                  have e8 := opto32 h3
                  unfold fint at e1
                  have H := Lib.hid h2
                  clear k1 h1 h2 h3 hk
                  go_wp2_with fail
                  go_region_with (first | (go_at_call 54; refine (sin_any _ _ H.out _ ?_).mono ?_; (first | exact hT' | exact hT'.drew); rintro e w' ⟨rfl, rfl⟩))
                  all_goals go_wp2_with fail
                  all_goals exact ⟨⟨i + 1, by omega, by omega, by go_num, Lib.hid (HT.out.step (36 + i) _ (by omega) (by omega) rfl).drew, Lib.hid (stpD (stpS HB.out _ _ (Nat.le_refl _)))⟩, by simp [intOf]; omega⟩
                · obtain rfl : i = 30 := by omega
                  rw [show ((30 : Nat) : Int) = 30 from rfl]
                  go_wp2_with fail
                  clear hi0 hi hlt
                  go_loopw [6] (fun a wr => ∃ i : Nat, 30 ≤ i ∧ i ≤ 36 ∧ a = .int .i64 i ∧ Hid (TabF w.heap.size 144 160 wf (36 + i) wr) ∧ Hid (Below w.heap.size w wr))
                    (fun a _ => 36 - (intOf a).toNat)
                  case atStart => exact ⟨30, by omega, by omega, rfl, HT, HB⟩
                  case round =>
                    clear HT HB
                    obtain ⟨i, hi0, hi, rfl, HT, HB⟩ := hrel
                    by_cases hlt : i < 36
                    · have d1 : decide ((i : Int) < 36) = true := decide_eq_true (by omega)
                      obtain ⟨v, hc, _⟩ := HT.out.cell (36 + i) (by omega)
                      have hf := HT.out.free (36 + i)
                      have hk := win_4 i (by omega) hlt
                      have HK := Lib.hid (Option.some.inj hk)
                      clear hk
                      go_wp2_with fail
                      exact ⟨⟨i + 1, by omega, by omega, by go_num, Lib.hid (HT.out.step (36 + i) _ (by omega) (by omega) HK.out), Lib.hid (stpS HB.out _ _ (Nat.le_refl _))⟩, by simp [intOf]; omega⟩
                    · obtain rfl : i = 36 := by omega
                      rw [show ((36 : Nat) : Int) = 36 from rfl]
                      go_wp2_with fail
                      clear hi0 hi hlt
                      go_loopw [7] (fun a wr => ∃ i : Nat, 0 ≤ i ∧ i ≤ 12 ∧ a = .int .i64 i ∧ Hid (TabF w.heap.size 144 160 wf (72 + i) wr) ∧ Hid (Below w.heap.size w wr))
                        (fun a _ => 12 - (intOf a).toNat)
                      case atStart => exact ⟨0, by omega, by omega, rfl, HT, HB⟩
                      case round =>
                        clear HT HB
                        obtain ⟨i, hi0, hi, rfl, HT, HB⟩ := hrel
                        by_cases hlt : i < 12
                        · have d1 : decide ((i : Int) < 12) = true := decide_eq_true (by omega)
                          obtain ⟨v, hc, _⟩ := HT.out.cell (72 + i) (by omega)
                          have hf := HT.out.free (72 + i)
                          have hk := win_5 i (by omega) hlt
                          have hT' := hT.below HB.out
                          obtain ⟨x, h1, h2⟩ := bind_some hk
                          obtain ⟨r, h2, h3⟩ := bind_some h2
                          obtain ⟨c1, k1, h1⟩ := bind_some h1
                          have e1 := opadd k1
                          have e3 := opmul h1
                          have e8 := opto32 h3
                          unfold fint at e1
                          have H := Lib.hid h2
                          clear k1 h1 h2 h3 hk
                          go_wp2_with fail
                          go_region_with (first | (go_at_call 54; refine (sin_any _ _ H.out _ ?_).mono ?_; (first | exact hT' | exact hT'.drew); rintro e w' ⟨rfl, rfl⟩))
                          all_goals go_wp2_with fail
                          all_goals exact ⟨⟨i + 1, by omega, by omega, by go_num, Lib.hid (HT.out.step (72 + i) _ (by omega) (by omega) rfl).drew, Lib.hid (stpD (stpS HB.out _ _ (Nat.le_refl _)))⟩, by simp [intOf]; omega⟩
                        · obtain rfl : i = 12 := by omega
                          rw [show ((12 : Nat) : Int) = 12 from rfl]
                          go_wp2_with fail
                          clear hi0 hi hlt
                          go_loopw [8] (fun a wr => ∃ i : Nat, 12 ≤ i ∧ i ≤ 36 ∧ a = .int .i64 i ∧ Hid (TabF w.heap.size 144 160 wf (72 + i) wr) ∧ Hid (Below w.heap.size w wr))
                            (fun a _ => 36 - (intOf a).toNat)
                          case atStart => exact ⟨12, by omega, by omega, rfl, HT, HB⟩
                          case round =>
                            clear HT HB
                            obtain ⟨i, hi0, hi, rfl, HT, HB⟩ := hrel
                            by_cases hlt : i < 36
                            · have d1 : decide ((i : Int) < 36) = true := decide_eq_true (by omega)
                              obtain ⟨v, hc, _⟩ := HT.out.cell (72 + i) (by omega)
                              have hf := HT.out.free (72 + i)
                              have hk := win_6 i (by omega) hlt
                              have HK := Lib.hid (Option.some.inj hk)
                              clear hk
                              go_wp2_with fail
                              exact ⟨⟨i + 1, by omega, by omega, by go_num, Lib.hid (HT.out.step (72 + i) _ (by omega) (by omega) HK.out), Lib.hid (stpS HB.out _ _ (Nat.le_refl _))⟩, by simp [intOf]; omega⟩
                            · obtain rfl : i = 36 := by omega
                              rw [show ((36 : Nat) : Int) = 36 from rfl]
                              go_wp2_with fail
                              clear hi0 hi hlt
                              go_loopw [9] (fun a wr => ∃ i : Nat, 0 ≤ i ∧ i ≤ 6 ∧ a = .int .i64 i ∧ Hid (TabF w.heap.size 144 160 wf (108 + i) wr) ∧ Hid (Below w.heap.size w wr))
                                (fun a _ => 6 - (intOf a).toNat)
                              case atStart => exact ⟨0, by omega, by omega, rfl, HT, HB⟩
                              case round =>
                                clear HT HB
                                obtain ⟨i, hi0, hi, rfl, HT, HB⟩ := hrel
                                by_cases hlt : i < 6
                                · have d1 : decide ((i : Int) < 6) = true := decide_eq_true (by omega)
                                  obtain ⟨v, hc, _⟩ := HT.out.cell (108 + i) (by omega)
                                  have hf := HT.out.free (108 + i)
                                  have hk := win_7 i (by omega) hlt
                                  have HK := Lib.hid (Option.some.inj hk)
                                  clear hk
                                  go_wp2_with fail
                                  exact ⟨⟨i + 1, by omega, by omega, by go_num, Lib.hid (HT.out.step (108 + i) _ (by omega) (by omega) HK.out), Lib.hid (stpS HB.out _ _ (Nat.le_refl _))⟩, by simp [intOf]; omega⟩
                                · obtain rfl : i = 6 := by omega
                                  rw [show ((6 : Nat) : Int) = 6 from rfl]
                                  go_wp2_with fail
                                  clear hi0 hi hlt
                                  go_loopw [10] (fun a wr => ∃ i : Nat, 6 ≤ i ∧ i ≤ 12 ∧ a = .int .i64 i ∧ Hid (TabF w.heap.size 144 160 wf (108 + i) wr) ∧ Hid (Below w.heap.size w wr))
                                    (fun a _ => 12 - (intOf a).toNat)
                                  case atStart => exact ⟨6, by omega, by omega, rfl, HT, HB⟩
                                  case round =>
                                    clear HT HB
                                    obtain ⟨i, hi0, hi, rfl, HT, HB⟩ := hrel
                                    by_cases hlt : i < 12
                                    · have d1 : decide ((i : Int) < 12) = true := decide_eq_true (by omega)
                                      obtain ⟨v, hc, _⟩ := HT.out.cell (108 + i) (by omega)
                                      have hf := HT.out.free (108 + i)
                                      have hk := win_8 i (by omega) hlt
                                      have hT' := hT.below HB.out
                                      obtain ⟨x, h1, h2⟩ := bind_some hk
                                      obtain ⟨r, h2, h3⟩ := bind_some h2
                                      obtain ⟨c1, k1, h1⟩ := bind_some h1
                                      have e1 := opadd k1
                                      obtain ⟨c2, k2, k3⟩ := bind_some h1
                                      have e2 := opsub k2
                                      have e3 := opmul k3
                                      clear k2 k3
                                      have e8 := opto32 h3
                                      unfold fint at e1
                                      have H := Lib.hid h2
                                      clear k1 h1 h2 h3 hk
                                      go_wp2_with fail
                                      go_region_with (first | (go_at_call 54; refine (sin_any _ _ H.out _ ?_).mono ?_; (first | exact hT' | exact hT'.drew); rintro e w' ⟨rfl, rfl⟩))
                                      all_goals go_wp2_with fail
                                      all_goals exact ⟨⟨i + 1, by omega, by omega, by go_num, Lib.hid (HT.out.step (108 + i) _ (by omega) (by omega) rfl).drew, Lib.hid (stpD (stpS HB.out _ _ (Nat.le_refl _)))⟩, by simp [intOf]; omega⟩
                                    · obtain rfl : i = 12 := by omega
                                      rw [show ((12 : Nat) : Int) = 12 from rfl]
                                      go_wp2_with fail
                                      clear hi0 hi hlt
                                      go_loopw [11] (fun a wr => ∃ i : Nat, 12 ≤ i ∧ i ≤ 18 ∧ a = .int .i64 i ∧ Hid (TabF w.heap.size 144 160 wf (108 + i) wr) ∧ Hid (Below w.heap.size w wr))
                                        (fun a _ => 18 - (intOf a).toNat)
                                      case atStart => exact ⟨12, by omega, by omega, rfl, HT, HB⟩
                                      case round =>
                                        clear HT HB
                                        obtain ⟨i, hi0, hi, rfl, HT, HB⟩ := hrel
                                        by_cases hlt : i < 18
                                        · have d1 : decide ((i : Int) < 18) = true := decide_eq_true (by omega)
                                          obtain ⟨v, hc, _⟩ := HT.out.cell (108 + i) (by omega)
                                          have hf := HT.out.free (108 + i)
                                          have hk := win_9 i (by omega) hlt
                                          have HK := Lib.hid (Option.some.inj hk)
                                          clear hk
                                          go_wp2_with fail
                                          exact ⟨⟨i + 1, by omega, by omega, by go_num, Lib.hid (HT.out.step (108 + i) _ (by omega) (by omega) HK.out), Lib.hid (stpS HB.out _ _ (Nat.le_refl _))⟩, by simp [intOf]; omega⟩
                                        · obtain rfl : i = 18 := by omega
                                          rw [show ((18 : Nat) : Int) = 18 from rfl]
                                          go_wp2_with fail
                                          clear hi0 hi hlt
                                          go_loopw [12] (fun a wr => ∃ i : Nat, 18 ≤ i ∧ i ≤ 36 ∧ a = .int .i64 i ∧ Hid (TabF w.heap.size 144 160 wf (108 + i) wr) ∧ Hid (Below w.heap.size w wr))
                                            (fun a _ => 36 - (intOf a).toNat)
                                          case atStart => exact ⟨18, by omega, by omega, rfl, HT, HB⟩
                                          case round =>
                                            clear HT HB
                                            obtain ⟨i, hi0, hi, rfl, HT, HB⟩ := hrel
                                            by_cases hlt : i < 36
                                            · have d1 : decide ((i : Int) < 36) = true := decide_eq_true (by omega)
                                              obtain ⟨v, hc, _⟩ := HT.out.cell (108 + i) (by omega)
                                              have hf := HT.out.free (108 + i)
                                              have hk := win_10 i (by omega) hlt
                                              have hT' := hT.below HB.out
                                              obtain ⟨x, h1, h2⟩ := bind_some hk
                                              obtain ⟨r, h2, h3⟩ := bind_some h2
                                              obtain ⟨c1, k1, h1⟩ := bind_some h1
                                              have e1 := opadd k1
                                              have e3 := opmul h1
                                              have e8 := opto32 h3
                                              unfold fint at e1
                                              have H := Lib.hid h2
                                              clear k1 h1 h2 h3 hk
                                              go_wp2_with fail
                                              go_region_with (first | (go_at_call 54; refine (sin_any _ _ H.out _ ?_).mono ?_; (first | exact hT' | exact hT'.drew); rintro e w' ⟨rfl, rfl⟩))
                                              all_goals go_wp2_with fail
                                              all_goals exact ⟨⟨i + 1, by omega, by omega, by go_num, Lib.hid (HT.out.step (108 + i) _ (by omega) (by omega) rfl).drew, Lib.hid (stpD (stpS HB.out _ _ (Nat.le_refl _)))⟩, by simp [intOf]; omega⟩
                                            · obtain rfl : i = 36 := by omega
                                              rw [show ((36 : Nat) : Int) = 36 from rfl]
                                              go_wp2_with fail
                                              go_ret
                                              exact ⟨_, rfl, Nat.le_refl _, (by have := block_lt_of_cell (HT.out.cell 0 (by omega)).choose_spec.1; exact this), HT.out, HB.out⟩
end Go.Proofs.YtppfldobgemddaaDoor
