/-
  The contract of spec.Turned for long blocks.
-/
import Derived.Test.YtppfldobgemddaaDoorWu
namespace Go.Proofs.YtppfldobgemddaaDoor
open Go.RowKit
set_option linter.unusedVariables false

theorem Tabs.drewN {w : World} (h : Tabs w) (n : Nat) : Tabs (w.drewN n) := ⟨h.s0, h.s1, h.s2, h.s3, h.s4, h.s5, h.c0, h.c1, h.c2, h.c3, h.c4, h.c5⟩
set_option maxRecDepth 100000 in
set_option maxHeartbeats 4000000 in
theorem turnedLong_any (bi : Nat) (x Y : Nat → Nat) (b : Nat) (hb : b = 0 ∨ b = 1 ∨ b = 3) (c : Nat) (w : World) (hT : Tabs w) (hbi : bi < w.heap.size) (hx : ∀ j, j < 18 → w.cell? ⟨bi, j, none⟩ = some (.float .f64 (x j))) (hY : ∀ p, p < 36 → outD x b p = some (Y p)) :
    Calls Tryd.prog 19 #[.slice (some ⟨bi, 0, none⟩) 18 c, .int .i64 b] w (ToldD Y w) := by
  have h2 : ((b : Int) != 2) = true := by rw [bne_iff_ne]; omega
  have hmk := mk36d
  have HX := Lib.hid hx
  have HY := Lib.hid hY
  have Hb := Lib.hid hb
  clear hx hY hb
  go_enter Tryd.func19, Tryd.ntmps19
  go_wp2_with fail
  have HT := Lib.hid (tabD_new w 36 70 Y)
  have HB := Lib.hid (stpA (stp0 w) (.cells (Zd 36) 70))
  clear hmk h2
  generalize w.alloc (.cells (Zd 36) 70) = w3 at *
  go_loopw [16] (fun a wr => ∃ p : Nat, p ≤ 36 ∧ a = .int .i64 p ∧ Hid (TabD w.heap.size 36 70 Y p wr) ∧ Hid (Below w.heap.size w wr))
    (fun a _ => 36 - (intOf a).toNat)
  case atStart => exact ⟨0, by omega, rfl, HT, HB⟩
  case round =>
    clear HT HB
    obtain ⟨p, hp, rfl, HT, HB⟩ := hrel
    by_cases hlt : p < 36
    · have d1 : decide ((p : Int) < 36) = true := decide_eq_true (by omega)
      go_wp2_with fail
      go_loopw [7, 19] (fun s a wr => ∃ m : Nat, m ≤ 18 ∧ a = .int .i64 m ∧ (∃ sv, s = .float .f64 sv ∧ Hid (dotD x (fun m => k36W p m) m = some sv)) ∧ Hid (TabD w.heap.size 36 70 Y p wr) ∧ Hid (Below w.heap.size w wr))
        (fun _ a _ => 18 - (intOf a).toNat)
      case atStart => exact ⟨0, by omega, rfl, ⟨0, rfl, Lib.hid rfl⟩, HT, HB⟩
      case round =>
        clear HT HB
        obtain ⟨m, hm, rfl, ⟨sv, rfl, HD⟩, HT, HB⟩ := hrel
        by_cases hl2 : m < 18
        · have d2 : decide ((m : Int) < 18) = true := decide_eq_true (by omega)
          obtain ⟨tot, ho, _⟩ := bind_some (HY.out p hlt)
          obtain ⟨sn, hsn⟩ := dotD_down ho (m + 1) (by omega)
          obtain ⟨s0, hs0, hs1⟩ := bind_some hsn
          rw [HD.out] at hs0
          obtain rfl := Option.some.inj hs0
          obtain ⟨t, k1, k2⟩ := bind_some hs1
          obtain ⟨ca, q1, q2⟩ := bind_some (k36_is p m hlt hl2)
          obtain ⟨q, hq⟩ : ∃ q : Nat, (2 * p + 19) * (2 * m + 1) = q := ⟨_, rfl⟩
          rw [hq] at q1
          unfold fint at q1
          have e1 := opmul k1
          have e2 := opadd k2
          have e3 := opmul q1
          have HQ := Lib.hid q2
          have HSN := Lib.hid hsn
          have hT' := hT.below HB.out
          have k0 := HX.out m hl2
          have kc : wr.cell? ⟨bi, m, none⟩ = some (.float .f64 (x m)) := by rw [HB.out.cell (p := ⟨bi, m, none⟩) hbi]; exact k0
          have n1 : IntKind.i64.wrap (2 * (p : Int)) = 2 * (p : Int) := IntWalk.i64_in _ (by omega)
          have n2 : IntKind.i64.wrap (2 * (p : Int) + 19) = 2 * (p : Int) + 19 := IntWalk.i64_in _ (by omega)
          have n3 : IntKind.i64.wrap (2 * (m : Int)) = 2 * (m : Int) := IntWalk.i64_in _ (by omega)
          have n4 : IntKind.i64.wrap (2 * (m : Int) + 1) = 2 * (m : Int) + 1 := IntWalk.i64_in _ (by omega)
          have n5 : IntKind.i64.wrap ((2 * (p : Int) + 19) * (2 * (m : Int) + 1)) = (q : Int) := by
            have e : (2 * (p : Int) + 19) * (2 * (m : Int) + 1) = ((q : Nat) : Int) := by rw [← hq]; simp
            have hle : q ≤ 89 * 35 := by rw [← hq]; exact Nat.mul_le_mul (by omega) (by omega)
            rw [e]; exact IntWalk.i64_in _ (by omega)
          clear hsn hs1 k1 k2 k0 ho hs0 q1 q2 hq
          have i1 : (0 : Int) ≤ (m : Int) := by omega
          have i2 : (m : Int) < 18 := by omega
          go_wp2_with fail
          go_quiet ((go_at_call 36; exact Calls.quiet_of_same (quietly (cos_any _ _ HQ.out _ (hT'.drewN _)))))
          all_goals go_wp2_with fail
          exact ⟨⟨m + 1, by omega, by go_num, ⟨sn, rfl, HSN⟩, Lib.hid (HT.out.drewN _), Lib.hid (stpN HB.out _)⟩, by simp [intOf]; omega⟩
        · obtain rfl : m = 18 := by omega
          rw [show ((18 : Nat) : Int) = 18 from rfl]
          obtain ⟨tot, ho, hy⟩ := bind_some (HY.out p hlt)
          rw [HD.out] at ho
          obtain rfl := Option.some.inj ho
          obtain ⟨sh, q1, q2⟩ := bind_some hy
          have e1 := opmul q2
          have HQ := Lib.hid q1
          have hT' := hT.below HB.out
          obtain ⟨u, ku, _⟩ := HT.out.cell p hlt
          have kf := HT.out.free p
          clear hy ho q1 q2
          have i3 : (0 : Int) ≤ (p : Int) := by omega
          have i4 : (p : Int) < 36 := by omega
          go_wp2_with (go_at_call 37; refine (shape_any _ _ _ hlt Hb.out HQ.out _ hT').mono ?_; rintro e w' ⟨rfl, rfl⟩)
          exact ⟨⟨p + 1, by omega, by go_num, Lib.hid (HT.out.step p _ rfl hlt rfl), Lib.hid (stpS HB.out _ _ (Nat.le_refl _))⟩, by simp [intOf]; omega⟩
    · obtain rfl : p = 36 := by omega
      rw [show ((36 : Nat) : Int) = 36 from rfl]
      go_wp2_with fail
      go_ret
      exact ⟨_, rfl, Nat.le_refl _, HT.out, HB.out⟩
end Go.Proofs.YtppfldobgemddaaDoor
