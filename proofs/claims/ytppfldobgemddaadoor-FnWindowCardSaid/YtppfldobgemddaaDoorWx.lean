/-
  The contract of spec.Turned for short blocks.
-/
import Derived.Test.YtppfldobgemddaaDoorWv
namespace Go.Proofs.YtppfldobgemddaaDoor
open Go.RowKit
set_option linter.unusedVariables false

set_option maxRecDepth 100000 in
set_option maxHeartbeats 4000000 in
theorem turnedShort_any (bi : Nat) (x Y : Nat → Nat) (c : Nat) (w : World) (hT : Tabs w) (hbi : bi < w.heap.size) (hx : ∀ j, j < 18 → w.cell? ⟨bi, j, none⟩ = some (.float .f64 (x j))) (hY : ∀ q, q < 36 → stD x 36 q = some (Y q)) :
    Calls Tryd.prog 19 #[.slice (some ⟨bi, 0, none⟩) 18 c, .int .i64 2] w (ToldD Y w) := by
  have hmk := mk36d
  have HX := Lib.hid hx
  have HY := Lib.hid hY
  clear hx hY
  go_enter Tryd.func19, Tryd.ntmps19
  go_wp2_with fail
  have HT := Lib.hid (tabP_new w (stD x 0) (fun _ => rfl))
  have HB := Lib.hid (stpA (stp0 w) (.cells (Zd 36) 70))
  clear hmk
  generalize w.alloc (.cells (Zd 36) 70) = w3 at *
  go_loopw [50] (fun a wr => ∃ i : Nat, i ≤ 3 ∧ a = .int .i64 i ∧ Hid (TabP w.heap.size (stD x (12 * i)) wr) ∧ Hid (Below w.heap.size w wr))
    (fun a _ => 3 - (intOf a).toNat)
  case atStart => exact ⟨0, by omega, rfl, HT, HB⟩
  case round =>
    clear HT HB
    obtain ⟨i, hi, rfl, HT, HB⟩ := hrel
    by_cases hlt : i < 3
    · have d1 : decide ((i : Int) < 3) = true := decide_eq_true (by omega)
      go_wp2_with fail
      go_loopw [53] (fun a wr => ∃ p : Nat, p ≤ 12 ∧ a = .int .i64 p ∧ Hid (TabP w.heap.size (stD x (12 * i + p)) wr) ∧ Hid (Below w.heap.size w wr))
        (fun a _ => 12 - (intOf a).toNat)
      case atStart => exact ⟨0, by omega, rfl, HT, HB⟩
      case round =>
        clear HT HB
        obtain ⟨p, hp, rfl, HT, HB⟩ := hrel
        by_cases hlp : p < 12
        · have d2 : decide ((p : Int) < 12) = true := decide_eq_true (by omega)
          obtain ⟨o, hco, hso⟩ := HT.out.cell (6 * i + p + 6) (by omega)
          obtain ⟨on, hon⟩ := stD_down (HY.out (6 * i + p + 6) (by omega)) (12 * i + p + 1) (by omega)
          have hon' := hon
          rw [stD, if_pos (by rw [show (12 * i + p) / 12 = i by omega, show (12 * i + p) % 12 = p by omega]), hso] at hon'
          obtain ⟨av, hav, hadd⟩ := bind_some (show (addD x (12 * i + p)).bind (fun v => fadd o v) = some on from hon')
          have hav' := hav
          unfold addD at hav'
          rw [show (12 * i + p) / 12 = i by omega, show (12 * i + p) % 12 = p by omega] at hav'
          obtain ⟨tot, htot, hmul⟩ := bind_some hav'
          have HON := Lib.hid hon
          have HSO := Lib.hid hso
          have HOT := Lib.hid htot
          have HMU := Lib.hid hmul
          have HAD := Lib.hid hadd
          clear hav hav' hon hon' htot hmul hadd hso hco
          go_wp2_with fail
          go_loopw [11, 56] (fun s a wr => ∃ m : Nat, m ≤ 6 ∧ a = .int .i64 m ∧ (∃ sv, s = .float .f64 sv ∧ Hid (dotD (fun m => x (i + m * 3)) (fun m => k12W p m) m = some sv)) ∧ Hid (TabP w.heap.size (stD x (12 * i + p)) wr) ∧ Hid (Below w.heap.size w wr))
            (fun _ a _ => 6 - (intOf a).toNat)
          case atStart => exact ⟨0, by omega, rfl, ⟨0, rfl, Lib.hid rfl⟩, HT, HB⟩
          case round =>
            clear HT HB
            obtain ⟨m, hm, rfl, ⟨sv, rfl, HD⟩, HT, HB⟩ := hrel
            by_cases hl2 : m < 6
            · have d3 : decide ((m : Int) < 6) = true := decide_eq_true (by omega)
              obtain ⟨sn, hsn⟩ := dotD_down HOT.out (m + 1) (by omega)
              obtain ⟨s0, hs0, hs1⟩ := bind_some hsn
              rw [HD.out] at hs0
              obtain rfl := Option.some.inj hs0
              obtain ⟨t, k1, k2⟩ := bind_some hs1
              obtain ⟨ca, q1, q2⟩ := bind_some (k12_is p m hlp hl2)
              obtain ⟨q, hq⟩ : ∃ q : Nat, (2 * p + 7) * (2 * m + 1) = q := ⟨_, rfl⟩
              rw [hq] at q1
              unfold fint at q1
              have e1 := opmul k1
              have e2 := opadd k2
              have e3 := opmul q1
              have HQ := Lib.hid q2
              have HSN := Lib.hid hsn
              have hT' := hT.below HB.out
              have k0 := HX.out (i + m * 3) (by omega)
              have kc : wr.cell? ⟨bi, i + m * 3, none⟩ = some (.float .f64 (x (i + m * 3))) := by rw [HB.out.cell (p := ⟨bi, i + m * 3, none⟩) hbi]; exact k0
              have n1 : IntKind.i64.wrap (2 * (p : Int)) = 2 * (p : Int) := IntWalk.i64_in _ (by omega)
              have n2 : IntKind.i64.wrap (2 * (p : Int) + 7) = 2 * (p : Int) + 7 := IntWalk.i64_in _ (by omega)
              have n3 : IntKind.i64.wrap (2 * (m : Int)) = 2 * (m : Int) := IntWalk.i64_in _ (by omega)
              have n4 : IntKind.i64.wrap (2 * (m : Int) + 1) = 2 * (m : Int) + 1 := IntWalk.i64_in _ (by omega)
              have n6 : IntKind.i64.wrap (3 * (m : Int)) = 3 * (m : Int) := IntWalk.i64_in _ (by omega)
              have n7 : IntKind.i64.wrap ((i : Int) + 3 * (m : Int)) = (i : Int) + 3 * (m : Int) := IntWalk.i64_in _ (by omega)
              have n8 : ((i : Int) + 3 * (m : Int)).toNat = i + m * 3 := by omega
              have n5 : IntKind.i64.wrap ((2 * (p : Int) + 7) * (2 * (m : Int) + 1)) = (q : Int) := by
                have e : (2 * (p : Int) + 7) * (2 * (m : Int) + 1) = ((q : Nat) : Int) := by rw [← hq]; simp
                have hle : q ≤ 29 * 11 := by rw [← hq]; exact Nat.mul_le_mul (by omega) (by omega)
                rw [e]; exact IntWalk.i64_in _ (by omega)
              clear hsn hs1 k1 k2 k0 hs0 q1 q2 hq
              have i1 : (0 : Int) ≤ (i : Int) + 3 * (m : Int) := by omega
              have i2 : (i : Int) + 3 * (m : Int) < 18 := by omega
              go_wp2_with fail
              go_quiet ((go_at_call 36; exact Calls.quiet_of_same (quietly (cos_any _ _ HQ.out _ (hT'.drewN _)))))
              all_goals go_wp2_with fail
              exact ⟨⟨m + 1, by omega, by go_num, ⟨sn, rfl, HSN⟩, Lib.hid (HT.out.drewN _), Lib.hid (stpN HB.out _)⟩, by simp [intOf]; omega⟩
            · obtain rfl : m = 6 := by omega
              rw [show ((6 : Nat) : Int) = 6 from rfl]
              have htt := HD.out
              rw [HOT.out] at htt
              obtain rfl := Option.some.inj htt
              obtain ⟨sh, q1, q2⟩ := bind_some HMU.out
              have e1 := opmul q2
              have HQ := Lib.hid q1
              have hT' := hT.below HB.out
              obtain ⟨o', hco, hso⟩ := HT.out.cell (6 * i + p + 6) (by omega)
              rw [HSO.out] at hso
              obtain rfl := Option.some.inj hso
              have e2 := opadd HAD.out
              rw [show 6 * i + p + 6 = 6 + 6 * i + p by omega] at hco
              have hf := HT.out.free (6 + 6 * i + p)
              clear hso htt q1 q2
              have i1 : (0 : Int) ≤ (p : Int) := by omega
              have i2 : (p : Int) < 12 := by omega
              have n1 : IntKind.i64.wrap (6 * (i : Int)) = 6 * (i : Int) := IntWalk.i64_in _ (by omega)
              have n2 : IntKind.i64.wrap (6 + 6 * (i : Int)) = 6 + 6 * (i : Int) := IntWalk.i64_in _ (by omega)
              have n3 : IntKind.i64.wrap (6 + 6 * (i : Int) + (p : Int)) = 6 + 6 * (i : Int) + (p : Int) := IntWalk.i64_in _ (by omega)
              have i5 : (0 : Int) ≤ 6 + 6 * (i : Int) + (p : Int) := by omega
              have i6 : 6 + 6 * (i : Int) + (p : Int) < 36 := by omega
              have n4 : (6 + 6 * (i : Int) + (p : Int)).toNat = 6 + 6 * i + p := by omega
              go_wp2_with fail
              go_region_with (first | (go_at_call 38; refine (sine_any _ _ _ HQ.out _ ?_).mono ?_; (first | exact hT' | exact hT'.drew); rintro e w' ⟨rfl, rfl⟩))
              all_goals go_wp2_with fail
              all_goals exact ⟨⟨p + 1, by omega, by go_num, Lib.hid (HT.out.step (6 + 6 * i + p) on (by omega) (by rw [show 6 + 6 * i + p = 6 * i + p + 6 by omega]; exact HON.out) (fun j hj => stD_other hlp j (by omega))).drew, Lib.hid (stpD (stpS HB.out _ _ (Nat.le_refl _)))⟩, by simp [intOf]; omega⟩
        · obtain rfl : p = 12 := by omega
          rw [show ((12 : Nat) : Int) = 12 from rfl]
          go_wp2_with fail
          exact ⟨⟨i + 1, by omega, by go_num, HT, HB⟩, by simp [intOf]; omega⟩
    · obtain rfl : i = 3 := by omega
      rw [show ((3 : Nat) : Int) = 3 from rfl]
      go_wp2_with fail
      go_ret
      exact ⟨_, rfl, Nat.le_refl _, HT.out.full HY.out, HB.out⟩
end Go.Proofs.YtppfldobgemddaaDoor
