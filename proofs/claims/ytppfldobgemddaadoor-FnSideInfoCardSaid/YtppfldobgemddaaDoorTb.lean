/-
  The package's tables of cosines and windows: the contracts of imdct.cosines12, imdct.cosines36 and imdct.winData.
-/
import Derived.Test.YtppfldobgemddaaDoorMd
import Derived.Test.YtppfldobgemddaaDoorWt
import Derived.Handy
import Derived.Deep.WholeRow
import Derived.Deep.QuietTactic
import Derived.BigQuiet
import Derived.Deep.RegionWith
import Derived.Deep.DrawnRows
namespace Go.Proofs.YtppfldobgemddaaDoor
open Go.RowKit
set_option linter.unusedVariables false

theorem run_store_float (P : Program) (w : World) (a : Addr) (m : Mode) (k : FloatKind) (b : Nat) : (store a (.float k b) m).run P w = stored P w a (.float k b) m := run_store P w a _ m rfl
attribute [go_sem] run_store_float
theorem Tabs.below {w w' : World} (h : Tabs w) (hb : Below w.heap.size w w') : Tabs w' := by
  obtain ⟨a0, a1, a2, a3, a4, a5, b0, b1, b2, b3, b4, b5⟩ := h
  have h3 : 3 < w.heap.size := block_lt_of_cell a0
  have h4 : 4 < w.heap.size := block_lt_of_cell b0
  have k3 : ∀ j, w'.cell? ⟨3, j, none⟩ = w.cell? ⟨3, j, none⟩ := fun j => hb.cell (p := ⟨3, j, none⟩) h3
  have k4 : ∀ j, w'.cell? ⟨4, j, none⟩ = w.cell? ⟨4, j, none⟩ := fun j => hb.cell (p := ⟨4, j, none⟩) h4
  exact ⟨(k3 _).trans a0, (k3 _).trans a1, (k3 _).trans a2, (k3 _).trans a3, (k3 _).trans a4, (k3 _).trans a5, (k4 _).trans b0, (k4 _).trans b1, (k4 _).trans b2, (k4 _).trans b3, (k4 _).trans b4, (k4 _).trans b5⟩
theorem Tabs.drew {w : World} (h : Tabs w) : Tabs w.drew := ⟨h.s0, h.s1, h.s2, h.s3, h.s4, h.s5, h.c0, h.c1, h.c2, h.c3, h.c4, h.c5⟩
theorem opto32 {x r : Nat} (h : to32 x = some r) (w : World) : (convert 70 72 (.float .f64 x)).run Tryd.prog w = .ok (.float .f32 r) w :=
  run_convert_float_float w 70 72 .f64 .f32 x r (by kernel_rfl) Tryd.underlying72 h

/-- The block B holds n words of 32 bits, of which the first m are f's. -/
def TabF (B n T : Nat) (f : Nat → Nat) (m : Nat) (w : World) : Prop :=
  ∃ cs : Array Value, w.heap[B]? = some (.cells cs T (0, 0)) ∧ cs.size = n ∧ ∀ j, j < n → ∃ v, cs[j]? = some (.float .f32 v) ∧ (j < m → v = f j)
theorem TabF.cell {B n T m : Nat} {f : Nat → Nat} {w : World} (h : TabF B n T f m w) (j : Nat) (hj : j < n) : ∃ v, w.cell? ⟨B, j, none⟩ = some (.float .f32 v) ∧ (j < m → v = f j) := by
  obtain ⟨cs, hb, _, hc⟩ := h
  obtain ⟨v, hv, hp⟩ := hc j hj
  exact ⟨v, by rw [cell_of_row w B j cs _ _ hb]; exact hv, hp⟩
theorem TabF.free {B n T m : Nat} {f : Nat → Nat} {w : World} (h : TabF B n T f m w) (j : Nat) : w.frozen? ⟨B, j, none⟩ = false := by
  obtain ⟨cs, hb, _, hc⟩ := h
  exact frozen_of_row w B j cs _ hb
theorem TabF.step {B n T m : Nat} {f : Nat → Nat} {w : World} (h : TabF B n T f m w) (off v : Nat) (ho : off = m) (hn : m < n) (hv : v = f m) :
    TabF B n T f (m + 1) (w.setCell ⟨B, off, none⟩ (.float .f32 v)) := by
  subst ho
  obtain ⟨cs, hb, hs, hc⟩ := h
  refine ⟨_, heap_setCell_same w B off cs _ _ hb, by simpa using hs, fun j hj => ?_⟩
  by_cases e : off = j
  · subst e
    exact ⟨v, by simp [hs, hn], fun _ => hv⟩
  · obtain ⟨u, hu, hp⟩ := hc j hj
    exact ⟨u, by rw [Array.getElem?_setIfInBounds_ne e]; exact hu, fun q => hp (by omega)⟩
theorem TabF.drew {B n T m : Nat} {f : Nat → Nat} {w : World} (h : TabF B n T f m w) : TabF B n T f m w.drew := h
def Zf (n : Nat) : Array Value := Array.replicate n (.float .f32 0)
theorem tabF_new (w : World) (n T : Nat) (f : Nat → Nat) : TabF w.heap.size n T f 0 (w.alloc (.cells (Zf n) T)) :=
  ⟨Zf n, heap_alloc_last _ _, by simp [Zf], fun j hj => ⟨0, by simp [Zf, hj], fun h => by omega⟩⟩
theorem zero161 : (Tryd.prog.info? 161).map (fun i => (i.zero, i.size)) = some (some (.agg (Zf 72)), 72) := by kernel_rfl

/-- A table that was made: a new block. -/
def MadeTab (n T : Nat) (f : Nat → Nat) (w : World) (e : Ending) (w' : World) : Prop :=
  ∃ g, e = .returned (.pointer (some ⟨g, 0, none⟩)) ∧ w.heap.size ≤ g ∧ g < w'.heap.size ∧ TabF g n T f n w' ∧ Below w.heap.size w w'

set_option maxRecDepth 100000 in
set_option maxHeartbeats 1000000 in
theorem cosines12_any (w : World) (hT : Tabs w) : Calls Tryd.prog 50 #[] w (MadeTab 72 161 (fun q => c12W (q / 12) (q % 12)) w) := by
  have hz := (zero_of_info zero161).1
  go_enter Tryd.func50, Tryd.ntmps50
  go_wp2_with fail
  have HN := tabF_new w 72 161 (fun q => c12W (q / 12) (q % 12))
  have HB : Below w.heap.size w (w.alloc (.cells (Zf 72) 161)) := stpA (stp0 w) _
  clear hz
  go_loopw [2] (fun a wr => ∃ i : Nat, i ≤ 6 ∧ a = .int .i64 i ∧ TabF w.heap.size 72 161 (fun q => c12W (q / 12) (q % 12)) (12 * i) wr ∧ Below w.heap.size w wr)
    (fun a _ => 6 - (intOf a).toNat)
  case atStart => exact ⟨0, by omega, rfl, HN, HB⟩
  case round =>
    clear HN HB
    obtain ⟨i, hi, rfl, ht, hb⟩ := hrel
    by_cases hlt : i < 6
    · have d1 : decide ((i : Int) < 6) = true := decide_eq_true (by omega)
      go_wp2_with fail
      go_loopw [3] (fun a wr => ∃ j : Nat, j ≤ 12 ∧ a = .int .i64 j ∧ TabF w.heap.size 72 161 (fun q => c12W (q / 12) (q % 12)) (12 * i + j) wr ∧ Below w.heap.size w wr)
        (fun a _ => 12 - (intOf a).toNat)
      case atStart => exact ⟨0, by omega, rfl, ht, hb⟩
      case round =>
        clear ht hb
        obtain ⟨j, hj, rfl, ht, hb⟩ := hrel
        by_cases hl2 : j < 12
        · have d2 : decide ((j : Int) < 12) = true := decide_eq_true (by omega)
          obtain ⟨v, hc, _⟩ := ht.cell (i * 12 + j) (by omega)
          have hf := ht.free (i * 12 + j)
          have hT' := hT.below hb
          obtain ⟨x, h1, h2⟩ := bind_some (c12_is i j hlt hl2)
          obtain ⟨r, h2, h3⟩ := bind_some h2
          obtain ⟨a, k1, h1⟩ := bind_some h1
          obtain ⟨b, k2, h1⟩ := bind_some h1
          obtain ⟨c, k3, h1⟩ := bind_some h1
          obtain ⟨d, k4, h1⟩ := bind_some h1
          obtain ⟨e, k5, h1⟩ := bind_some h1
          obtain ⟨g, k6, k7⟩ := bind_some h1
          have e1 := opmul k1
          have e2 := opadd k2
          have e3 := opadd k3
          have e4 := opmul k4
          have e5 := opmul k5
          have e6 := opadd k6
          have e7 := opmul k7
          have e8 := opto32 h3
          unfold fint at e1 e5
          have hq : (fun q => c12W (q / 12) (q % 12)) (12 * i + j) = c12W i j := by
            show c12W ((12 * i + j) / 12) ((12 * i + j) % 12) = _
            rw [show (12 * i + j) / 12 = i by omega, show (12 * i + j) % 12 = j by omega]
          have HQ := Lib.hid hq
          clear hq
          have H := Lib.hid h2
          clear k1 k2 k3 k4 k5 k6 k7 h1 h2 h3
          have HT := Lib.hid ht
          have HB := Lib.hid hb
          clear ht hb
          go_wp2_with fail
          go_region_with (first | (go_at_call 36; refine (cos_any _ _ H.out _ ?_).mono ?_; (first | exact hT' | exact hT'.drew); rintro e w' ⟨rfl, rfl⟩))
          all_goals go_wp2_with fail
          all_goals exact ⟨⟨j + 1, by omega, by go_num, (HT.out.step _ _ (by omega) (by omega) HQ.out.symm).drew, stpD (stpS HB.out _ _ (Nat.le_refl _))⟩, by simp [intOf]; omega⟩
        · obtain rfl : j = 12 := by omega
          go_wp2_with fail
          exact ⟨⟨i + 1, by omega, by go_num, ht, hb⟩, by simp [intOf]; omega⟩
    · obtain rfl : i = 6 := by omega
      go_wp2_with fail
      go_ret
      exact ⟨_, rfl, Nat.le_refl _, (by have := block_lt_of_cell (ht.cell 0 (by omega)).choose_spec.1; exact this), ht, hb⟩
end Go.Proofs.YtppfldobgemddaaDoor
