/-
  The contract of imdct.Win for short blocks.
-/
import Derived.Test.YtppfldobgemddaaDoorWi
namespace Go.Proofs.YtppfldobgemddaaDoor
open Go.RowKit
set_option linter.unusedVariables false

/-- What is added at a step of short blocks. -/
def addS (x : Nat → Nat) (n : Nat) : Option Nat := (dot (fun m => x (n / 12 + m * 3)) (fun m => c12W m (n % 12)) 6).bind fun s => gmul s (winW 2 (n % 12))
/-- The 36 words behind so many steps. -/
def stS (x : Nat → Nat) : Nat → Nat → Option Nat
  | 0, _ => some 0
  | n + 1, q => if q = 6 * (n / 12) + n % 12 + 6 then (stS x n q).bind fun o => (addS x n).bind fun v => gadd o v else stS x n q
theorem stS_down {x : Nat → Nat} {N q r : Nat} (h : stS x N q = some r) (n : Nat) (hn : n ≤ N) : ∃ s, stS x n q = some s := by
  induction N generalizing r with
  | zero => exact ⟨r, by rw [show n = 0 by omega]; exact h⟩
  | succ N ih =>
    by_cases e : n = N + 1
    · exact ⟨r, by rw [e]; exact h⟩
    · rw [stS] at h
      split at h
      · obtain ⟨s, hs, _⟩ := bind_some h
        exact ih hs (by omega)
      · exact ih h (by omega)
/-- The block O holds 36 words, which f tells. -/
def TabO (O : Nat) (f : Nat → Option Nat) (w : World) : Prop :=
  ∃ cs : Array Value, w.heap[O]? = some (.cells cs 72 (0, 0)) ∧ cs.size = 36 ∧ ∀ j, j < 36 → ∃ v, cs[j]? = some (.float .f32 v) ∧ f j = some v
theorem TabO.cell {O : Nat} {f : Nat → Option Nat} {w : World} (h : TabO O f w) (j : Nat) (hj : j < 36) : ∃ v, w.cell? ⟨O, j, none⟩ = some (.float .f32 v) ∧ f j = some v := by
  obtain ⟨cs, hb, _, hc⟩ := h
  obtain ⟨v, hv, hp⟩ := hc j hj
  exact ⟨v, by rw [cell_of_row w O j cs _ _ hb]; exact hv, hp⟩
theorem TabO.free {O : Nat} {f : Nat → Option Nat} {w : World} (h : TabO O f w) (j : Nat) : w.frozen? ⟨O, j, none⟩ = false := by
  obtain ⟨cs, hb, _, hc⟩ := h
  exact frozen_of_row w O j cs _ hb
theorem TabO.step {O : Nat} {f g : Nat → Option Nat} {w : World} (h : TabO O f w) (off v : Nat) (ho : off < 36) (hv : g off = some v) (hg : ∀ j, j ≠ off → g j = f j) :
    TabO O g (w.setCell ⟨O, off, none⟩ (.float .f32 v)) := by
  obtain ⟨cs, hb, hs, hc⟩ := h
  refine ⟨_, heap_setCell_same w O off cs _ _ hb, by simpa using hs, fun j hj => ?_⟩
  by_cases e : off = j
  · subst e
    exact ⟨v, by simp [hs, ho], hv⟩
  · obtain ⟨u, hu, hp⟩ := hc j hj
    exact ⟨u, by rw [Array.getElem?_setIfInBounds_ne e]; exact hu, by rw [hg j (Ne.symm e)]; exact hp⟩
theorem TabO.drewN {O : Nat} {f : Nat → Option Nat} {w : World} (h : TabO O f w) (k : Nat) : TabO O f (w.drewN k) := h
theorem TabO.drew {O : Nat} {f : Nat → Option Nat} {w : World} (h : TabO O f w) : TabO O f w.drew := h
theorem TabO.below {O N : Nat} {f : Nat → Option Nat} {w w' : World} (h : TabO O f w) (hb : Below N w w') (hB : O < N) : TabO O f w' := by
  obtain ⟨cs, h1, h2⟩ := h
  exact ⟨cs, (hb.block O hB).trans h1, h2⟩
theorem tabO_new (w : World) (f : Nat → Option Nat) (hf : ∀ j, f j = some 0) : TabO w.heap.size f (w.alloc (.cells (Zf 36) 72)) :=
  ⟨Zf 36, heap_alloc_last _ _, by simp [Zf], fun j hj => ⟨0, by simp [Zf, hj], hf j⟩⟩
theorem TabO.full {O : Nat} {f : Nat → Option Nat} {w : World} {Y : Nat → Nat} (h : TabO O f w) (hY : ∀ q, q < 36 → f q = some (Y q)) : TabF O 36 72 Y 36 w := by
  obtain ⟨cs, hb, hs, hc⟩ := h
  refine ⟨cs, hb, hs, fun j hj => ?_⟩
  obtain ⟨v, hv, hp⟩ := hc j hj
  rw [hY j hj] at hp
  exact ⟨v, hv, fun _ => (Option.some.inj hp).symm⟩
def c12F (q : Nat) : Nat := c12W (q / 12) (q % 12)
theorem c12F_at (m p : Nat) (hp : p < 12) : c12F (m * 12 + p) = c12W m p := by
  show c12W ((m * 12 + p) / 12) ((m * 12 + p) % 12) = _
  rw [show (m * 12 + p) / 12 = m by omega, show (m * 12 + p) % 12 = p by omega]
theorem stS_step {x : Nat → Nat} {i p o v r : Nat} (hp : p < 12) (h1 : stS x (12 * i + p) (6 * i + p + 6) = some o) (h2 : addS x (12 * i + p) = some v) (h3 : gadd o v = some r) : stS x (12 * i + p + 1) (6 * i + p + 6) = some r := by
  rw [stS, if_pos (by rw [show (12 * i + p) / 12 = i by omega, show (12 * i + p) % 12 = p by omega]), h1]
  show (addS x (12 * i + p)).bind _ = _
  rw [h2]; exact h3
theorem stS_other {x : Nat → Nat} {i p : Nat} (hp : p < 12) (j : Nat) (hj : j ≠ 6 * i + p + 6) : stS x (12 * i + p + 1) j = stS x (12 * i + p) j := by
  rw [stS, if_neg (by rw [show (12 * i + p) / 12 = i by omega, show (12 * i + p) % 12 = p by omega]; exact hj)]

set_option maxRecDepth 100000 in
set_option maxHeartbeats 4000000 in
theorem winShort_any (bi : Nat) (x Y : Nat → Nat) (c : Nat) (w : World) (hT : Tabs w) (hbi : bi < w.heap.size) (hx : ∀ j, j < 18 → w.cell? ⟨bi, j, none⟩ = some (.float .f32 (x j))) (hY : ∀ q, q < 36 → stS x 36 q = some (Y q)) :
    Calls Tryd.prog 35 #[.slice (some ⟨bi, 0, none⟩) 18 c, .int .i64 2] w (Told36 Y w) := by
  have hmk := mk36f
  have hz := (zero_of_info zero134).1
  have HX := Lib.hid hx
  have HY := Lib.hid hY
  clear hx hY
  go_enter Tryd.func35, Tryd.ntmps35
  go_wp2_with fail
  refine (winData_any _ (hT.below (stpA (stp0 w) _))).mono ?_
  rintro e w1 ⟨g2, rfl, hge2, hlt2, ht2, hb1⟩
  have HB1 := Lib.hid (stp (stpA (stp0 w) _) hb1)
  have hO1 : w.heap.size < (w.alloc (.cells (Zf 36) 72)).heap.size := by simp
  have HO1 : Hid (TabO w.heap.size (stS x 0) w1) := Lib.hid ((tabO_new w (stS x 0) (fun _ => rfl)).below hb1 hO1)
  have HT2 := Lib.hid ht2
  have hlt0 : w.heap.size < w1.heap.size := by have := hb1.size; simp at this; omega
  clear ht2 hb1 hge2 hO1 hlt2
  go_wp2_with (first | (refine wpList_load_mid rfl 134 (.tmp 23) rfl g2 (2 * 36) (by rfl) (winRow 2) _ (winRow_at HT2.out (by decide)) Tryd.underlying134 rfl (by kernel_rfl) ?_) | (refine wpList_store_row rfl 134 (.tmp 6) (.tmp 24) rfl w1.heap.size (winRow 2).toArray rfl rfl 134 (Zf 36) (heap_alloc_last _ _) (by kernel_rfl) (by kernel_rfl) (winRow_cells 2) ?_; rw [World.setRow_alloc_new]))
  have hal : Below w1.heap.size w1 (w1.alloc (.cells (winRow 2).toArray 134)) := stpA (stp0 w1) _
  have HB2 := Lib.hid (stp HB1.out hal)
  have HO2 := Lib.hid (HO1.out.below hal hlt0)
  have hw2 : w1.heap.size < (w1.alloc (.cells (winRow 2).toArray 134)).heap.size := by simp
  have HR2 : Hid (∀ j, j < 36 → (w1.alloc (.cells (winRow 2).toArray 134)).cell? ⟨w1.heap.size, j, none⟩ = some (.float .f32 (winW 2 j))) := Lib.hid fun j hj => winRow_new w1 2 j hj
  clear hz hmk HT2 hal HO1 HB1
  generalize w1.alloc (.cells (winRow 2).toArray 134) = w2 at *
  generalize w1.heap.size = gi at *
  refine (cosines12_any _ (hT.below HB2.out)).mono ?_
  rintro e w3 ⟨g1, rfl, hge1, hlt1, ht1, hb3⟩
  have HS : Hid (Stays w g1 gi 2 c12F 72 w3) := by
    refine Lib.hid ⟨fun q hq => ?_, fun j hj => ?_, stp HB2.out hb3⟩
    · obtain ⟨v, hv, hp⟩ := ht1.cell q hq
      rw [hv, hp hq]; rfl
    · rw [hb3.cell (p := ⟨gi, j, none⟩) hw2]; exact HR2.out j hj
  have HT := Lib.hid (HO2.out.below hb3 (by omega))
  have hne2 : w.heap.size ≠ gi := by omega
  have hne1 : w.heap.size ≠ g1 := by omega
  clear ht1 hb3 HR2 HO2 HB2 hge1 hlt1 hw2 hlt0
  go_wp2_with fail
  go_loopw [8] (fun a wr => ∃ i : Nat, i ≤ 3 ∧ a = .int .i64 i ∧ Hid (TabO w.heap.size (stS x (12 * i)) wr) ∧ Hid (Stays w g1 gi 2 c12F 72 wr))
    (fun a _ => 3 - (intOf a).toNat)
  case atStart => exact ⟨0, by omega, rfl, HT, HS⟩
  case round =>
    clear HT HS
    obtain ⟨i, hi, rfl, HT, HS⟩ := hrel
    by_cases hlt : i < 3
    · have d1 : decide ((i : Int) < 3) = true := decide_eq_true (by omega)
      go_wp2_with fail
      go_loopw [9] (fun a wr => ∃ p : Nat, p ≤ 12 ∧ a = .int .i64 p ∧ Hid (TabO w.heap.size (stS x (12 * i + p)) wr) ∧ Hid (Stays w g1 gi 2 c12F 72 wr))
        (fun a _ => 12 - (intOf a).toNat)
      case atStart => exact ⟨0, by omega, rfl, HT, HS⟩
      case round =>
        clear HT HS
        obtain ⟨p, hp, rfl, HT, HS⟩ := hrel
        by_cases hlp : p < 12
        · have d2 : decide ((p : Int) < 12) = true := decide_eq_true (by omega)
          obtain ⟨o, hco, hso⟩ := HT.out.cell (6 * i + p + 6) (by omega)
          obtain ⟨on, hon⟩ := stS_down (HY.out (6 * i + p + 6) (by omega)) (12 * i + p + 1) (by omega)
          have hon' := hon
          rw [stS, if_pos (by rw [show (12 * i + p) / 12 = i by omega, show (12 * i + p) % 12 = p by omega]), hso] at hon'
          obtain ⟨av, hav, hadd⟩ := bind_some (show (addS x (12 * i + p)).bind (fun v => gadd o v) = some on from hon')
          have hav' := hav
          unfold addS at hav'
          rw [show (12 * i + p) / 12 = i by omega, show (12 * i + p) % 12 = p by omega] at hav'
          obtain ⟨tot, htot, hmul⟩ := bind_some hav'
          have HON := Lib.hid hon
          have HSO := Lib.hid hso
          have HOT := Lib.hid htot
          have HMU := Lib.hid hmul
          have HAD := Lib.hid hadd
          clear hav hav' hon hon' htot hmul hadd hso hco
          go_wp2_with fail
          go_loopw [10, 11] (fun s a wr => ∃ m : Nat, m ≤ 6 ∧ a = .int .i64 m ∧ (∃ sv, s = .float .f32 sv ∧ Hid (dot (fun m => x (i + m * 3)) (fun m => c12W m p) m = some sv)) ∧ Hid (TabO w.heap.size (stS x (12 * i + p)) wr) ∧ Hid (Stays w g1 gi 2 c12F 72 wr))
            (fun _ a _ => 6 - (intOf a).toNat)
          case atStart => exact ⟨0, by omega, rfl, ⟨0, rfl, Lib.hid rfl⟩, HT, HS⟩
          case round =>
            clear HT HS
            obtain ⟨m, hm, rfl, ⟨sv, rfl, HD⟩, HT, HS⟩ := hrel
            by_cases hl2 : m < 6
            · have d3 : decide ((m : Int) < 6) = true := decide_eq_true (by omega)
              obtain ⟨sn, hsn⟩ := dot_down HOT.out (m + 1) (by omega)
              obtain ⟨s0, hs0, hs1⟩ := bind_some hsn
              rw [HD.out] at hs0
              obtain rfl := Option.some.inj hs0
              obtain ⟨t, k1, k2⟩ := bind_some hs1
              have e1 := opmul32 k1
              have e2 := opadd32 k2
              have HSN := Lib.hid hsn
              have k0 := HX.out (i + m * 3) (by omega)
              have kc : wr.cell? ⟨bi, i + m * 3, none⟩ = some (.float .f32 (x (i + m * 3))) := by rw [HS.out.below.cell (p := ⟨bi, i + m * 3, none⟩) hbi]; exact k0
              have kt : wr.cell? ⟨g1, m * 12 + p, none⟩ = some (.float .f32 (c12W m p)) := by rw [← c12F_at m p hlp]; exact HS.out.tab _ (by omega)
              clear hsn hs1 k1 k2 k0 hs0
              have i1 : (0 : Int) ≤ (m : Int) := by omega
              have i2 : (m : Int) < 6 := by omega
              have i3 : (0 : Int) ≤ (p : Int) := by omega
              have i4 : (p : Int) < 12 := by omega
              have n1 : IntKind.i64.wrap (3 * (m : Int)) = 3 * (m : Int) := IntWalk.i64_in _ (by omega)
              have n2 : IntKind.i64.wrap ((i : Int) + 3 * (m : Int)) = (i : Int) + 3 * (m : Int) := IntWalk.i64_in _ (by omega)
              have i5 : (0 : Int) ≤ (i : Int) + 3 * (m : Int) := by omega
              have i6 : (i : Int) + 3 * (m : Int) < 18 := by omega
              have n3 : ((i : Int) + 3 * (m : Int)).toNat = i + m * 3 := by omega
              go_wp2_with fail
              go_quiet (fail)
              all_goals go_wp2_with fail
              exact ⟨⟨m + 1, by omega, by go_num, ⟨sn, rfl, HSN⟩, Lib.hid (HT.out.drewN _), Lib.hid (HS.out.drewN _)⟩, by simp [intOf]; omega⟩
            · obtain rfl : m = 6 := by omega
              rw [show ((6 : Nat) : Int) = 6 from rfl]
              have htt := HD.out
              rw [HOT.out] at htt
              obtain rfl := Option.some.inj htt
              have e1 := opmul32 HMU.out
              have kr := HS.out.row p (by omega)
              obtain ⟨o', hco, hso⟩ := HT.out.cell (6 * i + p + 6) (by omega)
              rw [HSO.out] at hso
              obtain rfl := Option.some.inj hso
              have e2 := opadd32 HAD.out
              have hf := HT.out.free (6 * i + p + 6)
              clear hso htt
              have i1 : (0 : Int) ≤ (p : Int) := by omega
              have i2 : (p : Int) < 12 := by omega
              have n1 : IntKind.i64.wrap (6 * (i : Int)) = 6 * (i : Int) := IntWalk.i64_in _ (by omega)
              have n2 : IntKind.i64.wrap (6 * (i : Int) + (p : Int)) = 6 * (i : Int) + (p : Int) := IntWalk.i64_in _ (by omega)
              have n3 : IntKind.i64.wrap (6 * (i : Int) + (p : Int) + 6) = 6 * (i : Int) + (p : Int) + 6 := IntWalk.i64_in _ (by omega)
              have i5 : (0 : Int) ≤ 6 * (i : Int) + (p : Int) + 6 := by omega
              have i6 : 6 * (i : Int) + (p : Int) + 6 < 36 := by omega
              have n4 : (6 * (i : Int) + (p : Int) + 6).toNat = 6 * i + p + 6 := by omega
              go_wp2_with fail
              go_region
              all_goals go_wp2_with fail
              exact ⟨⟨p + 1, by omega, by go_num, Lib.hid (HT.out.step (6 * i + p + 6) on (by omega) HON.out (fun j hj => stS_other hlp j hj)).drew, Lib.hid (HS.out.set _ _ _ hne1 hne2 (Nat.le_refl _)).drew⟩, by simp [intOf]; omega⟩
        · obtain rfl : p = 12 := by omega
          rw [show ((12 : Nat) : Int) = 12 from rfl]
          go_wp2_with fail
          exact ⟨⟨i + 1, by omega, by go_num, HT, HS⟩, by simp [intOf]; omega⟩
    · obtain rfl : i = 3 := by omega
      rw [show ((3 : Nat) : Int) = 3 from rfl]
      go_wp2_with fail
      go_ret
      exact ⟨_, rfl, Nat.le_refl _, HT.out.full HY.out, HS.out.below⟩
end Go.Proofs.YtppfldobgemddaaDoor
