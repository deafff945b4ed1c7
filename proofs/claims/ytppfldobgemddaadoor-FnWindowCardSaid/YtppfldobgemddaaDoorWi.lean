/-
  The contract of imdct.Win.
-/
import Derived.Test.YtppfldobgemddaaDoorTc
import Derived.Test.YtppfldobgemddaaDoorTw
import Derived.Deep.MidRow
namespace Go.Proofs.YtppfldobgemddaaDoor
open Go.RowKit
set_option linter.unusedVariables false

def gmul (x y : Nat) : Option Nat := Ieee.single.mul x y
def gadd (x y : Nat) : Option Nat := Ieee.single.add x y
theorem opmul32 {x y r : Nat} (h : gmul x y = some r) (t : TypeId) (w : World) : (binOp .mul t (.float .f32 x) (.float .f32 y)).run Tryd.prog w = .ok (.float .f32 r) w := run_float_arith w .mul t .f32 x y r h
theorem opadd32 {x y r : Nat} (h : gadd x y = some r) (t : TypeId) (w : World) : (binOp .add t (.float .f32 x) (.float .f32 y)).run Tryd.prog w = .ok (.float .f32 r) w := run_float_arith w .add t .f32 x y r h
/-- A sum of products, one behind the other, of words of 32 bits. -/
def dot (x c : Nat → Nat) : Nat → Option Nat
  | 0 => some 0
  | m + 1 => (dot x c m).bind fun s => (gmul (x m) (c m)).bind fun t => gadd s t
theorem dot_down {x c : Nat → Nat} {n r : Nat} (h : dot x c n = some r) (m : Nat) (hm : m ≤ n) : ∃ s, dot x c m = some s := by
  induction n generalizing r with
  | zero => exact ⟨r, by rw [show m = 0 by omega]; exact h⟩
  | succ n ih =>
    by_cases e : m = n + 1
    · exact ⟨r, by rw [e]; exact h⟩
    · obtain ⟨s, hs, _⟩ := bind_some h
      exact ih hs (by omega)
def outO (x : Nat → Nat) (b p : Nat) : Option Nat := (dot x (fun m => c36W m p) 18).bind fun s => gmul s (winW b p)

theorem mk36f (w : World) : (Instr.makeSlice 54 (.int .i64 36) (.int .i64 36)).run Tryd.prog w = .ok (.slice (some ⟨w.heap.size, 0, none⟩) 36 36) (w.alloc (.cells (Zf 36) 72)) := by kernel_rfl
theorem zero134 : (Tryd.prog.info? 134).map (fun i => (i.zero, i.size)) = some (some (.agg (Zf 36)), 36) := by kernel_rfl
def winRow (b : Nat) : List Value := (List.range 36).map fun i => .float .f32 (winW b i)
theorem winRow_len (b : Nat) : (winRow b).length = 36 := by simp [winRow]
theorem winRow_at {w : World} {g b : Nat} (h : TabF g 144 160 wf 144 w) (hb : b < 4) : w.rangeAt g (b * 36) (winRow b) := by
  intro j v hv
  have hj : j < 36 := by have := (List.getElem?_eq_some_iff.1 hv).1; rwa [winRow_len] at this
  obtain ⟨u, hu, hp⟩ := h.cell (b * 36 + j) (by omega)
  rw [hu, hp (by omega), show b * 36 + j = 36 * b + j by omega, wf_at b j hj]
  simp [winRow, hj] at hv
  rw [hv]
theorem winRow_cells (b : Nat) : (winRow b).toArray.all (·.oneCell') = true := by
  refine all_oneCell_toArray fun v hv => ?_
  simp [winRow] at hv
  obtain ⟨i, _, rfl⟩ := hv
  rfl
/-- The row of a window in a block of its own. -/
theorem winRow_new (w : World) (b j : Nat) (hj : j < 36) : (w.alloc (.cells (winRow b).toArray 134)).cell? ⟨w.heap.size, j, none⟩ = some (.float .f32 (winW b j)) := by
  rw [cell_of_row _ w.heap.size _ _ 134 (0, 0) (heap_alloc_last _ _)]
  simp [winRow, hj]

theorem TabF.below {B n T m N : Nat} {f : Nat → Nat} {w w' : World} (h : TabF B n T f m w) (hb : Below N w w') (hB : B < N) : TabF B n T f m w' := by
  obtain ⟨cs, h1, h2⟩ := h
  exact ⟨cs, (hb.block B hB).trans h1, h2⟩
theorem TabF.drewN {B n T m : Nat} {f : Nat → Nat} {w : World} (h : TabF B n T f m w) (k : Nat) : TabF B n T f m (w.drewN k) := h
/-- What stays as it is while the results are reckoned. -/
structure Stays (w : World) (g1 gi b : Nat) (f : Nat → Nat) (n : Nat) (wr : World) : Prop where
  tab : ∀ q, q < n → wr.cell? ⟨g1, q, none⟩ = some (.float .f32 (f q))
  row : ∀ j, j < 36 → wr.cell? ⟨gi, j, none⟩ = some (.float .f32 (winW b j))
  below : Below w.heap.size w wr
theorem Stays.drewN {w : World} {g1 gi b : Nat} {f : Nat → Nat} {n : Nat} {wr : World} (h : Stays w g1 gi b f n wr) (k : Nat) : Stays w g1 gi b f n (wr.drewN k) := ⟨h.tab, h.row, stpN h.below k⟩
theorem Stays.drew {w : World} {g1 gi b : Nat} {f : Nat → Nat} {n : Nat} {wr : World} (h : Stays w g1 gi b f n wr) : Stays w g1 gi b f n wr.drew := ⟨h.tab, h.row, stpD h.below⟩
theorem Stays.set {w : World} {g1 gi b : Nat} {f : Nat → Nat} {n : Nat} {wr : World} (h : Stays w g1 gi b f n wr) (O p : Nat) (v : Value) (h1 : O ≠ g1) (h2 : O ≠ gi) (hO : w.heap.size ≤ O) : Stays w g1 gi b f n (wr.setCell ⟨O, p, none⟩ v) :=
  ⟨fun q hq => by rw [cs_other (by intro e; injection e with e; exact h1 e)]; exact h.tab q hq, fun q hq => by rw [cs_other (by intro e; injection e with e; exact h2 e)]; exact h.row q hq, stpS h.below _ _ hO⟩
def c36F (q : Nat) : Nat := c36W (q / 36) (q % 36)
theorem c36F_at (m p : Nat) (hp : p < 36) : c36F (m * 36 + p) = c36W m p := by
  show c36W ((m * 36 + p) / 36) ((m * 36 + p) % 36) = _
  rw [show (m * 36 + p) / 36 = m by omega, show (m * 36 + p) % 36 = p by omega]
/-- The result: 36 words in a block of the call's own. -/
def Told36 (Y : Nat → Nat) (w : World) (e : Ending) (w' : World) : Prop :=
  ∃ g, e = .returned (.slice (some ⟨g, 0, none⟩) 36 36) ∧ w.heap.size ≤ g ∧ TabF g 36 72 Y 36 w' ∧ Below w.heap.size w w'

set_option maxRecDepth 100000 in
set_option maxHeartbeats 4000000 in
theorem winLong_any (bi : Nat) (x Y : Nat → Nat) (b : Nat) (hb : b < 4) (hb2 : b ≠ 2) (c : Nat) (w : World) (hT : Tabs w) (hbi : bi < w.heap.size) (hx : ∀ j, j < 18 → w.cell? ⟨bi, j, none⟩ = some (.float .f32 (x j))) (hY : ∀ p, p < 36 → outO x b p = some (Y p)) :
    Calls Tryd.prog 35 #[.slice (some ⟨bi, 0, none⟩) 18 c, .int .i64 b] w (Told36 Y w) := by
  have h2 : ((b : Int) == 2) = false := by rw [beq_eq_false_iff_ne]; omega
  have hmk := mk36f
  have hz := (zero_of_info zero134).1
  have HX := Lib.hid hx
  have HY := Lib.hid hY
  clear hx hY
  have hb4 : (b : Int) < 4 := by omega
  go_enter Tryd.func35, Tryd.ntmps35
  go_wp2_with fail
  refine (cosines36_any _ (hT.below (stpA (stp0 w) _))).mono ?_
  rintro e w1 ⟨g1, rfl, hge1, hlt1, ht1, hb1⟩
  have HB1 := Lib.hid (stp (stpA (stp0 w) _) hb1)
  have hO1 : w.heap.size < (w.alloc (.cells (Zf 36) 72)).heap.size := by simp
  have HO1 : Hid (TabF w.heap.size 36 72 Y 0 w1) := Lib.hid ((tabF_new w 36 72 Y).below hb1 hO1)
  have HT1 := Lib.hid ht1
  have hge1' : w.heap.size < g1 := by simp at hge1; omega
  have hlt0 : w.heap.size < w1.heap.size := by have := hb1.size; simp at this; omega
  clear ht1 hb1 hge1 hO1
  go_wp2_with fail
  refine (winData_any _ (hT.below HB1.out)).mono ?_
  rintro e w2 ⟨g2, rfl, hge2, hlt2, ht2, hb2⟩
  have HB2 := Lib.hid (stp HB1.out hb2)
  have HT2 := Lib.hid ht2
  have HO2 := Lib.hid (HO1.out.below hb2 hlt0)
  have HU2 := Lib.hid (HT1.out.below hb2 hlt1)
  have hsz := hb2.size
  clear ht2 hb2 hge2 hlt2 HO1 HT1 HB1
  go_wp2_with (first | (refine wpList_load_mid rfl 134 (.tmp 75) rfl g2 (b * 36) rfl (winRow b) _ (winRow_at HT2.out hb) Tryd.underlying134 rfl (by kernel_rfl) ?_) | (refine wpList_store_row rfl 134 (.tmp 13) (.tmp 76) rfl w2.heap.size (winRow b).toArray rfl rfl 134 (Zf 36) (heap_alloc_last _ _) (by kernel_rfl) (by kernel_rfl) (winRow_cells b) ?_; rw [World.setRow_alloc_new]))
  have hal : Below w2.heap.size w2 (w2.alloc (.cells (winRow b).toArray 134)) := stpA (stp0 w2) _
  have HT := Lib.hid (HO2.out.below hal (by omega))
  have HS : Hid (Stays w g1 w2.heap.size b c36F 648 (w2.alloc (.cells (winRow b).toArray 134))) := by
    refine Lib.hid ⟨fun q hq => ?_, fun j hj => winRow_new w2 b j hj, stpA HB2.out _⟩
    obtain ⟨v, hv, hp⟩ := (HU2.out.below hal (by omega)).cell q hq
    rw [hv, hp hq]; rfl
  have hne2 : w.heap.size ≠ w2.heap.size := by omega
  have hne1 : w.heap.size ≠ g1 := by omega
  clear hz hmk HO2 HU2 HT2 HB2 hal h2
  generalize w2.alloc (.cells (winRow b).toArray 134) = w3 at *
  generalize w2.heap.size = gi at *
  go_loopw [14] (fun a wr => ∃ p : Nat, p ≤ 36 ∧ a = .int .i64 p ∧ Hid (TabF w.heap.size 36 72 Y p wr) ∧ Hid (Stays w g1 gi b c36F 648 wr))
    (fun a _ => 36 - (intOf a).toNat)
  case atStart => exact ⟨0, by omega, rfl, HT, HS⟩
  case round =>
    clear HT HS
    obtain ⟨p, hp, rfl, HT, HS⟩ := hrel
    by_cases hlt : p < 36
    · have d1 : decide ((p : Int) < 36) = true := decide_eq_true (by omega)
      go_wp2_with fail
      go_loopw [15, 16] (fun s a wr => ∃ m : Nat, m ≤ 18 ∧ a = .int .i64 m ∧ (∃ sv, s = .float .f32 sv ∧ Hid (dot x (fun m => c36W m p) m = some sv)) ∧ Hid (TabF w.heap.size 36 72 Y p wr) ∧ Hid (Stays w g1 gi b c36F 648 wr))
        (fun _ a _ => 18 - (intOf a).toNat)
      case atStart => exact ⟨0, by omega, rfl, ⟨0, rfl, Lib.hid rfl⟩, HT, HS⟩
      case round =>
        clear HT HS
        obtain ⟨m, hm, rfl, ⟨sv, rfl, HD⟩, HT, HS⟩ := hrel
        by_cases hl2 : m < 18
        · have d2 : decide ((m : Int) < 18) = true := decide_eq_true (by omega)
          obtain ⟨tot, ho, _⟩ := bind_some (HY.out p hlt)
          obtain ⟨sn, hsn⟩ := dot_down ho (m + 1) (by omega)
          obtain ⟨s0, hs0, hs1⟩ := bind_some hsn
          rw [HD.out] at hs0
          obtain rfl := Option.some.inj hs0
          obtain ⟨t, k1, k2⟩ := bind_some hs1
          have e1 := opmul32 k1
          have e2 := opadd32 k2
          have HSN := Lib.hid hsn
          have k0 := HX.out m hl2
          have kc : wr.cell? ⟨bi, m, none⟩ = some (.float .f32 (x m)) := by rw [HS.out.below.cell (p := ⟨bi, m, none⟩) hbi]; exact k0
          have kt : wr.cell? ⟨g1, m * 36 + p, none⟩ = some (.float .f32 (c36W m p)) := by rw [← c36F_at m p hlt]; exact HS.out.tab _ (by omega)
          clear hsn hs1 k1 k2 k0 ho hs0
          have i1 : (0 : Int) ≤ (m : Int) := by omega
          have i2 : (m : Int) < 18 := by omega
          have i3 : (0 : Int) ≤ (p : Int) := by omega
          have i4 : (p : Int) < 36 := by omega
          go_wp2_with fail
          go_quiet (fail)
          all_goals go_wp2_with fail
          exact ⟨⟨m + 1, by omega, by go_num, ⟨sn, rfl, HSN⟩, Lib.hid (HT.out.drewN _), Lib.hid (HS.out.drewN _)⟩, by simp [intOf]; omega⟩
        · obtain rfl : m = 18 := by omega
          rw [show ((18 : Nat) : Int) = 18 from rfl]
          obtain ⟨tot, ho, hy⟩ := bind_some (HY.out p hlt)
          rw [HD.out] at ho
          obtain rfl := Option.some.inj ho
          have e1 := opmul32 hy
          have kr := HS.out.row p hlt
          obtain ⟨u, ku, _⟩ := HT.out.cell p hlt
          have kf := HT.out.free p
          clear hy ho
          have i3 : (0 : Int) ≤ (p : Int) := by omega
          have i4 : (p : Int) < 36 := by omega
          go_wp2_with fail
          exact ⟨⟨p + 1, by omega, by go_num, Lib.hid (HT.out.step p _ rfl hlt rfl), Lib.hid (HS.out.set _ _ _ hne1 hne2 (Nat.le_refl _))⟩, by simp [intOf]; omega⟩
    · obtain rfl : p = 36 := by omega
      rw [show ((36 : Nat) : Int) = 36 from rfl]
      go_wp2_with fail
      go_ret
      exact ⟨_, rfl, Nat.le_refl _, HT.out, HS.out.below⟩
end Go.Proofs.YtppfldobgemddaaDoor
