/-
  Side information and main data as rows of cells; the contracts of spec.Short, spec.Lens and spec.LongBands; The contracts of spec.Regions and of the counting function of laws.frameOf; The contract of the counting function within laws.frameOf: a number below what is asked, and the count one more; What memory holds while laws.frameOf makes a frame; Frames of laws.frameOf by their named slots alone.
-/
import Derived.Test.YtppfldobgemddaaDoorRows
import Derived.Test.YtppfldobgemddaaDoorMb
import Derived.Handy
import Derived.Deep.WholeRow
import Derived.Deep.MidRow
import Derived.Deep.QuietTactic
import Derived.BigQuiet
import Derived.Outline
import Derived.Test.YtppfldobgemddaaDoorGc
namespace Go.Proofs.YtppfldobgemddaaDoor
open Go.RowKit
set_option linter.unusedVariables false

/-- A row of so many numbers. -/
def numL (n : Nat) (S : Nat → Int) : List Value := (List.range n).map fun i => .int .i64 (S i)
theorem numL_len (n : Nat) (S : Nat → Int) : (numL n S).length = n := by simp [numL]
theorem numL_at (n : Nat) (S : Nat → Int) (j : Nat) (h : j < n) : (numL n S)[j]? = some (.int .i64 (S j)) := by simp [numL, h]
theorem numL_get {n : Nat} {S : Nat → Int} {j : Nat} {u : Value} (h : (numL n S)[j]? = some u) : j < n ∧ u = .int .i64 (S j) := by
  have hj : j < n := by have := (List.getElem?_eq_some_iff.1 h).1; rwa [numL_len] at this
  rw [numL_at n S j hj] at h
  exact ⟨hj, (Option.some.inj h).symm⟩
theorem numL_one (n : Nat) (S : Nat → Int) : (numL n S).toArray.all (·.oneCell') = true := by
  refine all_oneCell_toArray fun v hv => ?_
  simp [numL] at hv
  obtain ⟨i, _, rfl⟩ := hv
  rfl
/-- A new block of such a row. -/
theorem numL_new (w : World) (n : Nat) (S : Nat → Int) (t : TypeId) (j : Nat) (h : j < n) : (w.alloc (.cells (numL n S).toArray t)).cell? ⟨w.heap.size, j, none⟩ = some (.int .i64 (S j)) := by
  rw [cell_of_row _ w.heap.size _ _ t (0, 0) (heap_alloc_last _ _)]
  simp [numL, h]

/-- Has a granule of a channel short blocks? -/
def shortB (S : Nat → Int) (g c : Nat) : Bool := decide (S (26 + g * 2 + c) = 1) && decide (S (30 + g * 2 + c) = 2)
set_option maxRecDepth 100000 in
set_option maxHeartbeats 400000 in
theorem short_any (S : Nat → Int) (g c : Nat) (hg : g < 2) (hc : c < 2) (w : World) :
    Calls Tryd.prog 26 #[.agg (numL 86 S).toArray, .int .i64 g, .int .i64 c] w fun e w' => e = .returned (.bool (shortB S g c)) ∧ Below w.heap.size w w' := by
  have h1 := numL_new w 86 S 47 (26 + g * 2 + c) (by omega)
  have h2 := numL_new w 86 S 47 (30 + g * 2 + c) (by omega)
  obtain ⟨x, hx⟩ : ∃ x, x = S (26 + g * 2 + c) := ⟨_, rfl⟩
  obtain ⟨y, hy⟩ : ∃ y, y = S (30 + g * 2 + c) := ⟨_, rfl⟩
  have hr : shortB S g c = (decide (x = 1) && decide (y = 2)) := by rw [hx, hy]; rfl
  rw [← hx] at h1
  rw [← hy] at h2
  rw [hr]
  clear hx hy hr
  by_cases hx1 : x = 1
  · have e1 : (x == 1) = true := beq_iff_eq.2 hx1
    by_cases hy2 : y = 2
    · have e2 : (y == 2) = true := beq_iff_eq.2 hy2
      have hf : (decide (x = 1) && decide (y = 2)) = true := by simp [hx1, hy2]
      rw [hf]
      clear hx1 hy2 hf
      go_enter Tryd.func26, Tryd.ntmps26
      go_wp2_with fail
      go_ret
      exact ⟨rfl, stpA (stp0 w) _⟩
    · have e2 : (y == 2) = false := beq_eq_false_iff_ne.2 hy2
      have hf : (decide (x = 1) && decide (y = 2)) = false := by simp [hy2]
      rw [hf]
      clear hx1 hy2 hf
      go_enter Tryd.func26, Tryd.ntmps26
      go_wp2_with fail
      go_ret
      exact ⟨rfl, stpA (stp0 w) _⟩
  · have e1 : (x == 1) = false := beq_eq_false_iff_ne.2 hx1
    have hf : (decide (x = 1) && decide (y = 2)) = false := by simp [hx1]
    rw [hf]
    clear hx1 hf
    go_enter Tryd.func26, Tryd.ntmps26
    go_wp2_with fail
    go_ret
    exact ⟨rfl, stpA (stp0 w) _⟩

/-- The two lengths of scale factors. -/
def lenAL : List Int := [0, 0, 0, 0, 3, 1, 1, 1, 2, 2, 2, 3, 3, 3, 4, 4]
def lenBL : List Int := [0, 1, 2, 3, 0, 1, 2, 3, 1, 2, 3, 1, 2, 3, 2, 3]
def lenA (k : Int) : Nat := (lenAL.getD k.toNat 0).toNat
def lenB (k : Int) : Nat := (lenBL.getD k.toNat 0).toNat
theorem lens_all : ∀ k : Fin 16, lenAL.getD k.val 0 = (lenA (k.val : Int) : Int) ∧ lenBL.getD k.val 0 = (lenB (k.val : Int) : Int) ∧ lenA (k.val : Int) ≤ 4 ∧ lenB (k.val : Int) ≤ 4 := by decide
theorem lens_le (k : Int) (h0 : 0 ≤ k) (h1 : k ≤ 15) : lenA k ≤ 4 ∧ lenB k ≤ 4 := by
  obtain ⟨n, rfl⟩ := Int.eq_ofNat_of_zero_le h0
  have := lens_all ⟨n, by omega⟩
  exact ⟨this.2.2.1, this.2.2.2⟩
set_option maxRecDepth 100000 in
set_option maxHeartbeats 4000000 in
theorem lens_any (k : Int) (h0 : 0 ≤ k) (h1 : k ≤ 15) (w : World) :
    Calls Tryd.prog 27 #[.int .i64 k] w fun e w' => e = .returned (.tuple #[.int .i64 (lenA k), .int .i64 (lenB k)]) ∧ Below w.heap.size w w' := by
  have hk : k = 0 ∨ k = 1 ∨ k = 2 ∨ k = 3 ∨ k = 4 ∨ k = 5 ∨ k = 6 ∨ k = 7 ∨ k = 8 ∨ k = 9 ∨ k = 10 ∨ k = 11 ∨ k = 12 ∨ k = 13 ∨ k = 14 ∨ k = 15 := by omega
  clear h0 h1
  rcases hk with rfl | rfl | rfl | rfl | rfl | rfl | rfl | rfl | rfl | rfl | rfl | rfl | rfl | rfl | rfl | rfl
  all_goals
    go_enter Tryd.func27, Tryd.ntmps27
    go_wp2_with fail
    go_quiet (fail)
    go_wp2_with fail
    go_ret2
    exact ⟨rfl, stpN (stpA (stpA (stp0 w) _) _) _⟩

/-- Where the bands of long blocks begin. -/
def band0 : List Int := [0, 4, 8, 12, 16, 20, 24, 30, 36, 44, 52, 62, 74, 90, 110, 134, 162, 196, 238, 288, 342, 418, 576]
def band1 : List Int := [0, 4, 8, 12, 16, 20, 24, 30, 36, 42, 50, 60, 72, 88, 106, 128, 156, 190, 230, 276, 330, 384, 576]
def band2 : List Int := [0, 4, 8, 12, 16, 20, 24, 30, 36, 44, 54, 66, 82, 102, 126, 156, 194, 240, 296, 364, 448, 550, 576]
def bandL (R : Int) : List Int := if R = 0 then band0 else if R = 1 then band1 else band2
theorem band_cell (w : World) (R : Int) (l : List Int) (hl : bandL R = l) (h23 : l.length = 23) (j : Nat) (h : j < 23) : (w.alloc (.cells (l.map (Value.int .i64)).toArray 3)).cell? ⟨w.heap.size, j, none⟩ = some (.int .i64 ((bandL R).getD j 0)) := by
  rw [cell_of_row _ w.heap.size _ _ 3 (0, 0) (heap_alloc_last _ _), hl, List.getElem?_toArray, List.getElem?_map, List.getElem?_eq_getElem (by omega), List.getD_eq_getElem?_getD, List.getElem?_eq_getElem (by omega)]; rfl
/-- 23 numbers in a block of the call's own. -/
def Bands (R : Int) (w : World) (e : Ending) (w' : World) : Prop :=
  ∃ g, e = .returned (.slice (some ⟨g, 0, none⟩) 23 23) ∧ w.heap.size ≤ g ∧ g < w'.heap.size ∧ (∀ j, j < 23 → w'.cell? ⟨g, j, none⟩ = some (.int .i64 ((bandL R).getD j 0))) ∧ Below w.heap.size w w'
set_option maxRecDepth 100000 in
set_option maxHeartbeats 400000 in
theorem bands_any (R : Int) (h0 : 0 ≤ R) (h1 : R ≤ 2) (w : World) : Calls Tryd.prog 42 #[.int .i64 R] w (Bands R w) := by
  have hR : R = 0 ∨ R = 1 ∨ R = 2 := by omega
  clear h0 h1
  rcases hR with rfl | rfl | rfl
  · go_enter Tryd.func42, Tryd.ntmps42
    go_wp2_with fail
    go_ret
    exact ⟨_, rfl, Nat.le_refl _, by simp, fun j hj => band_cell w 0 band0 rfl rfl j hj, stpA (stp0 w) _⟩
  · go_enter Tryd.func42, Tryd.ntmps42
    go_wp2_with fail
    go_ret
    exact ⟨_, rfl, Nat.le_refl _, by simp, fun j hj => band_cell w 1 band1 rfl rfl j hj, stpA (stp0 w) _⟩
  · go_enter Tryd.func42, Tryd.ntmps42
    go_wp2_with fail
    go_ret
    exact ⟨_, rfl, Nat.le_refl _, by simp, fun j hj => band_cell w 2 band2 rfl rfl j hj, stpA (stp0 w) _⟩
end Go.Proofs.YtppfldobgemddaaDoor
namespace Go.Proofs.YtppfldobgemddaaDoor
open Go.RowKit
set_option linter.unusedVariables false

/-- Such a row somewhere in a block. -/
theorem numL_range {w : World} {b o n : Nat} {S : Nat → Int} (h : ∀ j, j < n → w.cell? ⟨b, o + j, none⟩ = some (.int .i64 (S j))) : w.rangeAt b o (numL n S) := by
  intro j v hv
  obtain ⟨hj, rfl⟩ := numL_get hv
  exact h j hj
/-- Where the second and the third region of pairs begin. -/
def reg1 (S : Nat → Int) (R : Int) (g c : Nat) : Int := if shortB S g c = true then 36 else (bandL R).getD (min (S (62 + g * 2 + c) + 1) 22).toNat 0
def reg2 (S : Nat → Int) (R : Int) (g c : Nat) : Int := if shortB S g c = true then 576 else (bandL R).getD (min (S (62 + g * 2 + c) + 1 + S (66 + g * 2 + c) + 1) 22).toNat 0
theorem two_apart (w : World) (o1 o2 : Obj) (j : Nat) : ((w.alloc o1).alloc o2).cell? ⟨w.heap.size, j, none⟩ = (w.alloc o1).cell? ⟨w.heap.size, j, none⟩ := by
  apply World.cell?_alloc_past
  simp
set_option maxRecDepth 100000 in
set_option maxHeartbeats 1000000 in
theorem regions_any (S : Nat → Int) (B R P M J V K : Int) (g c : Nat) (hg : g < 2) (hc : c < 2) (h0 : 0 ≤ R) (h1 : R ≤ 2) (s0 : 0 ≤ S (62 + g * 2 + c)) (s1 : S (62 + g * 2 + c) ≤ 100) (s2 : 0 ≤ S (66 + g * 2 + c)) (s3 : S (66 + g * 2 + c) ≤ 100) (w : World) :
    Calls Tryd.prog 28 #[.agg #[.int .i64 B, .int .i64 R, .int .i64 P, .int .i64 M, .int .i64 J, .int .i64 V, .int .i64 K], .agg (numL 86 S).toArray, .int .i64 g, .int .i64 c] w
      fun e w' => e = .returned (.tuple #[.int .i64 (reg1 S R g c), .int .i64 (reg2 S R g c)]) ∧ Below w.heap.size w w' := by
  obtain ⟨hd, hhd⟩ : ∃ hd : Obj, hd = .cells #[.int .i64 B, .int .i64 R, .int .i64 P, .int .i64 M, .int .i64 J, .int .i64 V, .int .i64 K] 30 := ⟨_, rfl⟩
  have hrg : ((w.alloc (.cells #[.int .i64 B, .int .i64 R, .int .i64 P, .int .i64 M, .int .i64 J, .int .i64 V, .int .i64 K] 30)).alloc (.cells (numL 86 S).toArray 47)).rangeAt (w.heap.size + 1) 0 (numL 86 S) := by
    refine numL_range fun j hj => ?_
    rw [Nat.zero_add]
    have := numL_new (w.alloc (.cells #[.int .i64 B, .int .i64 R, .int .i64 P, .int .i64 M, .int .i64 J, .int .i64 V, .int .i64 K] 30)) 86 S 47 j hj
    simpa using this
  have HR := Lib.hid hrg
  obtain ⟨x, hx⟩ : ∃ x, x = S (62 + g * 2 + c) := ⟨_, rfl⟩
  obtain ⟨y, hy⟩ : ∃ y, y = S (66 + g * 2 + c) := ⟨_, rfl⟩
  have c62 := hrg (62 + g * 2 + c) _ (numL_at 86 S _ (by omega))
  have c66 := hrg (66 + g * 2 + c) _ (numL_at 86 S _ (by omega))
  rw [Nat.zero_add] at c62 c66
  have HX := Lib.hid hx
  have HY := Lib.hid hy
  rw [← hx] at c62 s0 s1
  rw [← hy] at c66 s2 s3
  have HC := Lib.hid (And.intro c62 c66)
  clear hhd hd hrg hx hy c62 c66
  by_cases hs : shortB S g c = true
  · have e1 : reg1 S R g c = 36 := by unfold reg1; rw [if_pos hs]
    have e2 : reg2 S R g c = 576 := by unfold reg2; rw [if_pos hs]
    rw [e1, e2]
    clear e1 e2
    go_enter Tryd.func28, Tryd.ntmps28
    go_wp2_with (first | (refine wpList_load_mid rfl 47 (.tmp 5) rfl (w.heap.size + 1) 0 rfl (numL 86 S) _ HR.out Tryd.underlying47 rfl (by rw [numL_len]; kernel_rfl) ?_) | (go_at_call 26; refine (short_any S g c hg hc _).mono ?_; rintro e w' ⟨rfl, hb⟩))
    go_ret2
    exact ⟨rfl, stp (stpA (stpA (stp0 w) _) _) hb⟩
  · have hs' : shortB S g c = false := by simpa using hs
    have e1 : reg1 S R g c = (bandL R).getD (min (x + 1) 22).toNat 0 := by unfold reg1; rw [if_neg hs, HX.out]
    have e2 : reg2 S R g c = (bandL R).getD (min (x + 1 + y + 1) 22).toNat 0 := by unfold reg2; rw [if_neg hs, HX.out, HY.out]
    rw [e1, e2]
    clear e1 e2 hs
    obtain ⟨p, hp⟩ : ∃ p : Nat, p = (min (x + 1) 22).toNat := ⟨_, rfl⟩
    obtain ⟨q, hq⟩ : ∃ q : Nat, q = (min (x + 1 + y + 1) 22).toNat := ⟨_, rfl⟩
    have m1 : (if (22 : Int) < x + 1 then 22 else x + 1) = (p : Int) := by split <;> omega
    have m2 : (if (22 : Int) < x + 1 + y + 1 then 22 else x + 1 + y + 1) = (q : Int) := by split <;> omega
    have HM := Lib.hid (And.intro m1 m2)
    have j1 : (p : Int) < 23 := by omega
    have j2 : (q : Int) < 23 := by omega
    rw [← hp, ← hq]
    obtain ⟨u, hu⟩ : ∃ u, u = (bandL R).getD p 0 := ⟨_, rfl⟩
    obtain ⟨v, hv⟩ : ∃ v, v = (bandL R).getD q 0 := ⟨_, rfl⟩
    rw [← hu, ← hv]
    have HU := Lib.hid (And.intro hu hv)
    clear hp hq hu hv m1 m2
    have a0 : ((w.alloc (.cells #[.int .i64 B, .int .i64 R, .int .i64 P, .int .i64 M, .int .i64 J, .int .i64 V, .int .i64 K] 30)).alloc (.cells (numL 86 S).toArray 47)).cell? ⟨w.heap.size, 1, none⟩ = some (.int .i64 R) := by
      rw [two_apart, World.cell?_alloc_new]; rfl
    have A0 := Lib.hid a0
    clear a0
    go_enter Tryd.func28, Tryd.ntmps28
    go_wp2_with (refine wpList_load_mid rfl 47 (.tmp 5) rfl (w.heap.size + 1) 0 rfl (numL 86 S) _ HR.out Tryd.underlying47 rfl (by rw [numL_len]; kernel_rfl) ?_)
    refine (short_any S g c hg hc _).mono ?_
    rintro e w1 ⟨rfl, hb⟩
    have b0 : w1.cell? ⟨w.heap.size, 1, none⟩ = some (.int .i64 R) := by rw [hb.cell (p := ⟨w.heap.size, 1, none⟩) (by simp; omega)]; exact A0.out
    have b1 : w1.cell? ⟨w.heap.size + 1, 62 + g * 2 + c, none⟩ = some (.int .i64 x) := by rw [hb.cell (p := ⟨w.heap.size + 1, 62 + g * 2 + c, none⟩) (by simp)]; exact HC.out.1
    have b2 : w1.cell? ⟨w.heap.size + 1, 66 + g * 2 + c, none⟩ = some (.int .i64 y) := by rw [hb.cell (p := ⟨w.heap.size + 1, 66 + g * 2 + c, none⟩) (by simp)]; exact HC.out.2
    have hB := Lib.hid (stp (stpA (stpA (stp0 w) _) _) hb)
    have hz : w.heap.size + 1 < w1.heap.size := by have := hb.size; simp at this; omega
    clear hb HR HC A0
    go_wp2_with fail
    refine (bands_any R h0 h1 _).mono ?_
    rintro e w2 ⟨gb, rfl, hge, hlt, hcb, hb2⟩
    have d1 : w2.cell? ⟨w.heap.size + 1, 62 + g * 2 + c, none⟩ = some (.int .i64 x) := by rw [hb2.cell (p := ⟨w.heap.size + 1, 62 + g * 2 + c, none⟩) (by omega)]; exact b1
    have d2 : w2.cell? ⟨w.heap.size + 1, 66 + g * 2 + c, none⟩ = some (.int .i64 y) := by rw [hb2.cell (p := ⟨w.heap.size + 1, 66 + g * 2 + c, none⟩) (by omega)]; exact b2
    have hB2 := Lib.hid (stp hB.out hb2)
    have k1 := hcb p (by omega)
    have k2 := hcb q (by omega)
    rw [← HU.out.1] at k1
    rw [← HU.out.2] at k2
    have m1 := HM.out.1
    have m2 := HM.out.2
    have n1 : IntKind.i64.wrap (x + 1 + y) = x + 1 + y := IntWalk.i64_in _ (by omega)
    have n2 : IntKind.i64.wrap (x + 1 + y + 1) = x + 1 + y + 1 := IntWalk.i64_in _ (by omega)
    have n3 : IntKind.i64.wrap (x + 1) = x + 1 := IntWalk.i64_in _ (by omega)
    clear b0 b1 b2 hB hcb hb2 hge hlt
    go_wp2_with fail
    go_quiet (fail)
    all_goals go_wp2_with fail
    go_ret2
    exact ⟨rfl, stpN hB2.out _⟩
end Go.Proofs.YtppfldobgemddaaDoor
namespace Go.Proofs.YtppfldobgemddaaDoor
open Go.RowKit
set_option linter.unusedVariables false

/-- What came in as values: none, or bytes in a block. -/
def ValsAt (w : World) (va : Option Addr) (vl : Nat) : Prop :=
  vl = 0 ∨ ∃ vb vo, va = some ⟨vb, vo, none⟩ ∧ ∀ j, j < vl → ∃ z : Int, -128 ≤ z ∧ z ≤ 127 ∧ w.cell? ⟨vb, vo + j, none⟩ = some (.int .i8 z)
/-- What the function leaves. -/
def NextLeft (A t : Nat) (n : Int) (w : World) (e : Ending) (w' : World) : Prop :=
  ∃ (r : Int) (k : Nat), e = .returned (.int .i64 r) ∧ 0 ≤ r ∧ r < n ∧ w' = (w.setCell ⟨A, 0, none⟩ (.int .i64 (t + 1 : Nat))).drewN k

set_option maxRecDepth 100000 in
set_option maxHeartbeats 1000000 in
theorem next_any (A Vb t : Nat) (n : Int) (va : Option Addr) (vl vc : Nat) (w : World) (hn0 : 1 ≤ n) (hn1 : n ≤ 1000) (ht : t ≤ 1000000) (hvl : vl ≤ 1000) (hAV : A ≠ Vb)
    (cA : w.cell? ⟨A, 0, none⟩ = some (.int .i64 t)) (fA : w.frozen? ⟨A, 0, none⟩ = false) (cV : w.cell? ⟨Vb, 0, none⟩ = some (.slice va vl vc)) (hv : ValsAt (w.setCell ⟨A, 0, none⟩ (.int .i64 (t + 1 : Nat))) va vl) :
    Calls Tryd.prog 24 #[.int .i64 n, .pointer (some ⟨A, 0, none⟩), .pointer (some ⟨Vb, 0, none⟩)] w (NextLeft A t n w) := by
  have hA : (w.setCell ⟨A, 0, none⟩ (.int .i64 (t + 1 : Nat))).cell? ⟨A, 0, none⟩ = some (.int .i64 (t + 1 : Nat)) := cs_same cA
  have hV : (w.setCell ⟨A, 0, none⟩ (.int .i64 (t + 1 : Nat))).cell? ⟨Vb, 0, none⟩ = some (.slice va vl vc) := by rw [cs_other (by intro e; injection e with e; exact hAV e)]; exact cV
  have HA := Lib.hid hA
  have HV := Lib.hid hV
  have HVV := Lib.hid hv
  clear hA hV hv
  by_cases h0 : vl = 0
  · have e0 : ((vl : Int) == 0) = true := beq_iff_eq.2 (by omega)
    have HZ := Lib.hid h0
    clear h0
    go_enter Tryd.func24, Tryd.ntmps24
    go_wp2_with fail
    have hA := HA.out
    have hV := HV.out
    go_wp2_with fail
    go_ret
    refine ⟨_, 0, rfl, ?_, ?_, ?_⟩
    · exact Int.emod_nonneg _ (by omega)
    · exact Int.emod_lt_of_pos _ (by omega)
    · rfl
  · rcases HVV.out with h | ⟨vb, vo, rfl, hc⟩
    · omega
    have e0 : ((vl : Int) == 0) = false := beq_eq_false_iff_ne.2 (by omega)
    obtain ⟨z, z0, z1, hz⟩ := hc ((t + 1) % vl) (Nat.mod_lt _ (by omega))
    have hm : (t + 1) % vl < vl := Nat.mod_lt _ (by omega)
    have hd0 : (t + 1) / vl ≤ 1000001 := Nat.le_trans (Nat.div_le_self _ _) (by omega)
    obtain ⟨m, hmm⟩ : ∃ m, m = (t + 1) % vl := ⟨_, rfl⟩
    obtain ⟨d, hdd⟩ : ∃ d, d = (t + 1) / vl := ⟨_, rfl⟩
    obtain ⟨s, hs⟩ : ∃ s, s = t + 1 := ⟨_, rfl⟩
    have n1 : (s : Int) % (vl : Int) = m := by rw [hmm, hs]; simp
    have n2 : (s : Int) / (vl : Int) = d := by rw [hdd, hs]; simp
    rw [← hmm] at hz hm
    rw [← hdd] at hd0
    have n3 : IntKind.i64.wrap (z + 128) = z + 128 := IntWalk.i64_in _ (by omega)
    have n4 : IntKind.i64.wrap (z + 128 + (d : Int)) = z + 128 + (d : Int) := IntWalk.i64_in _ (by omega)
    have n5 : IntKind.i64.wrap ((t : Int) + 1) = s := by rw [IntWalk.i64_in _ (by omega)]; omega
    have n6 : (t : Int) + 1 = s := by omega
    have i1 : (1 : Int) ≤ (vl : Int) := by omega
    have i2 : (m : Int) < (vl : Int) := by omega
    have i3 : (0 : Int) ≤ z + 128 + (d : Int) := by omega
    have e1 : ((t + 1 : Nat) : Int) = (s : Int) := by omega
    have hA := HA.out
    have hV := HV.out
    rw [e1] at hA hV hz
    unfold NextLeft
    rw [e1]
    clear HA HV HVV hc hmm hdd hs h0 e1
    go_enter Tryd.func24, Tryd.ntmps24
    go_wp2_with fail
    go_quiet (fail)
    all_goals go_wp2_with fail
    go_ret
    refine ⟨_, _, rfl, ?_, ?_, rfl⟩
    · exact Int.emod_nonneg _ (by omega)
    · exact Int.emod_lt_of_pos _ (by omega)
end Go.Proofs.YtppfldobgemddaaDoor
namespace Go.Proofs.YtppfldobgemddaaDoor
open Go.RowKit
set_option linter.unusedVariables false

/-- The way on, for the normal end alone. -/
def onN (K : Act → World → Prop) : Exit → Act → World → Prop
  | .normal, a, w => K a w
  | _, _, _ => False
theorem wp_onN {P : Program} {c : Code} {K : Act → World → Prop} {Q : Exit → Act → World → Prop} {a : Act} {w : World} (h : Code.wp P c (onN K) a w) (hK : ∀ a w, K a w → Q .normal a w) : Code.wp P c Q a w :=
  Code.wp_mono (fun e a w q => by cases e <;> first | exact hK _ _ q | exact q.elim) h
/-- One number of a row is another. -/
def upd {α : Type} (S : Nat → α) (i : Nat) (v : α) : Nat → α := fun j => if j = i then v else S j
theorem upd_at {α : Type} (S : Nat → α) (i : Nat) (v : α) : upd S i v i = v := by unfold upd; rw [if_pos rfl]
theorem upd_not {α : Type} (S : Nat → α) (i : Nat) (v : α) (j : Nat) (h : j ≠ i) : upd S i v j = S j := by unfold upd; rw [if_neg h]

/-- Whence the call came: the caller's world; and a world on the way, whose blocks up to M are kept. -/
structure Origin where
  w : World
  M : Nat
  wm : World
/-- The blocks of the call, from block N on: the header; the slice of values; the result; the frame; the count. -/
structure FM (w0 : Origin) (N : Nat) (h7 : Array Value) (va : Option Addr) (vl vc : Nat) (t : Nat) (S : Nat → Int) (L : Nat → Value) (w : World) : Prop where
  below : Below N w0.w w
  size : N + 4 < w.heap.size
  more : w0.M ≤ w.heap.size
  keep : ∀ b, N + 4 < b → b < w0.M → w.heap[b]? = w0.wm.heap[b]?
  head : w.heap[N]? = some (.cells h7 30 (0, 0))
  vals : w.heap[N + 1]? = some (.cells #[.slice va vl vc] 37 (0, 0))
  res : ∃ cs, w.heap[N + 2]? = some (.cells cs 60 (0, 0)) ∧ cs.size = 341
  frame : ∃ cs : Array Value, w.heap[N + 3]? = some (.cells cs 60 (0, 0)) ∧ cs.size = 341 ∧ (∀ j, j < 337 → cs[j]? = some (.int .i64 (S j))) ∧ ∀ j, j < 4 → cs[337 + j]? = some (L j)
  count : w.heap[N + 4]? = some (.cells #[.int .i64 t] 3 (0, 0))
  came : vl = 0 ∨ ∃ vb vo, va = some ⟨vb, vo, none⟩ ∧ vb < N ∧ ∀ j, j < vl → ∃ z : Int, -128 ≤ z ∧ z ≤ 127 ∧ w0.w.cell? ⟨vb, vo + j, none⟩ = some (.int .i8 z)

section
variable {w0 : Origin} {N : Nat} {h7 : Array Value} {va : Option Addr} {vl vc t : Nat} {S : Nat → Int} {L : Nat → Value} {w : World}
theorem FM.cellF (h : FM w0 N h7 va vl vc t S L w) (j : Nat) (hj : j < 337) : w.cell? ⟨N + 3, j, none⟩ = some (.int .i64 (S j)) := by
  obtain ⟨cs, hb, hs, hc, _⟩ := h.frame
  rw [cell_of_row w (N + 3) j cs _ _ hb]; exact hc j hj
theorem FM.cellL (h : FM w0 N h7 va vl vc t S L w) (j : Nat) (hj : j < 4) : w.cell? ⟨N + 3, 337 + j, none⟩ = some (L j) := by
  obtain ⟨cs, hb, hs, _, hc⟩ := h.frame
  rw [cell_of_row w (N + 3) (337 + j) cs _ _ hb]; exact hc j hj
theorem FM.freeF (h : FM w0 N h7 va vl vc t S L w) (j : Nat) : w.frozen? ⟨N + 3, j, none⟩ = false := by
  obtain ⟨cs, hb, _⟩ := h.frame
  exact frozen_of_row w (N + 3) j cs _ hb
theorem FM.cellA (h : FM w0 N h7 va vl vc t S L w) : w.cell? ⟨N + 4, 0, none⟩ = some (.int .i64 t) := by
  rw [cell_of_row w (N + 4) 0 _ _ _ h.count]; rfl
theorem FM.freeA (h : FM w0 N h7 va vl vc t S L w) : w.frozen? ⟨N + 4, 0, none⟩ = false := frozen_of_row w (N + 4) 0 _ _ h.count
theorem FM.cellV (h : FM w0 N h7 va vl vc t S L w) : w.cell? ⟨N + 1, 0, none⟩ = some (.slice va vl vc) := by
  rw [cell_of_row w (N + 1) 0 _ _ _ h.vals]; rfl
theorem FM.cellH (h : FM w0 N h7 va vl vc t S L w) (j : Nat) : w.cell? ⟨N, j, none⟩ = h7[j]? := by
  rw [cell_of_row w N j _ _ _ h.head]
theorem FM.side (h : FM w0 N h7 va vl vc t S L w) : w.rangeAt (N + 3) 7 (numL 86 (fun i => S (7 + i))) := numL_range fun j hj => h.cellF (7 + j) (by omega)
theorem FM.drew (h : FM w0 N h7 va vl vc t S L w) : FM w0 N h7 va vl vc t S L w.drew := ⟨h.below.drew, h.size, h.more, h.keep, h.head, h.vals, h.res, h.frame, h.count, h.came⟩
theorem FM.drewN (h : FM w0 N h7 va vl vc t S L w) (k : Nat) : FM w0 N h7 va vl vc t S L (w.drewN k) := ⟨below_drewN h.below k, h.size, h.more, h.keep, h.head, h.vals, h.res, h.frame, h.count, h.came⟩
theorem FM.call {w' : World} (h : FM w0 N h7 va vl vc t S L w) (hb : Below w.heap.size w w') : FM w0 N h7 va vl vc t S L w' := by
  have hs := h.size
  have e : ∀ k, k < w.heap.size → w'.heap[k]? = w.heap[k]? := fun k hk => hb.block k hk
  refine ⟨h.below.trans (hb.mono (by omega)), Nat.lt_of_lt_of_le hs hb.size, Nat.le_trans h.more hb.size, fun b b1 b2 => (e b (by have := h.more; omega)).trans (h.keep b b1 b2), (e _ (by omega)).trans h.head, (e _ (by omega)).trans h.vals, ?_, ?_, (e _ (by omega)).trans h.count, h.came⟩
  · obtain ⟨cs, h1, h2⟩ := h.res
    exact ⟨cs, (e _ (by omega)).trans h1, h2⟩
  · obtain ⟨cs, h1, h2⟩ := h.frame
    exact ⟨cs, (e _ (by omega)).trans h1, h2⟩
theorem heap_set_other (w : World) (b o k : Nat) (v : Value) (h : k ≠ b) : (w.setCell ⟨b, o, none⟩ v).heap[k]? = w.heap[k]? := heap_setCell_other _ _ _ _ (by intro e; exact h e)
theorem FM.setF (h : FM w0 N h7 va vl vc t S L w) (off : Nat) (v : Int) (ho : off < 337) : FM w0 N h7 va vl vc t (upd S off v) L (w.setCell ⟨N + 3, off, none⟩ (.int .i64 v)) := by
  have e : ∀ k, k ≠ N + 3 → (w.setCell ⟨N + 3, off, none⟩ (.int .i64 v)).heap[k]? = w.heap[k]? := fun k hk => heap_set_other w _ _ _ _ hk
  refine ⟨h.below.setCell (by show N ≤ N + 3; omega) _, by simpa using h.size, by simpa using h.more, fun b b1 b2 => (e b (by omega)).trans (h.keep b b1 b2), (e _ (by omega)).trans h.head, (e _ (by omega)).trans h.vals, ?_, ?_, (e _ (by omega)).trans h.count, h.came⟩
  · obtain ⟨cs, h1, h2⟩ := h.res
    exact ⟨cs, (e _ (by omega)).trans h1, h2⟩
  · obtain ⟨cs, h1, h2, h3, h4⟩ := h.frame
    refine ⟨_, heap_setCell_same w (N + 3) off cs _ _ h1, by simpa using h2, fun j hj => ?_, fun j hj => ?_⟩
    · by_cases ej : j = off
      · subst ej
        rw [upd_at]; simp [h2, show j < 341 by omega]
      · rw [upd_not _ _ _ _ ej, Array.getElem?_setIfInBounds_ne (Ne.symm ej)]; exact h3 j hj
    · rw [Array.getElem?_setIfInBounds_ne (by omega)]; exact h4 j hj
theorem FM.setL (h : FM w0 N h7 va vl vc t S L w) (i off : Nat) (v : Value) (hi : i < 4) (ho : off = 337 + i) : FM w0 N h7 va vl vc t S (upd L i v) (w.setCell ⟨N + 3, off, none⟩ v) := by
  subst ho
  have e : ∀ k, k ≠ N + 3 → (w.setCell ⟨N + 3, 337 + i, none⟩ v).heap[k]? = w.heap[k]? := fun k hk => heap_set_other w _ _ _ _ hk
  refine ⟨h.below.setCell (by show N ≤ N + 3; omega) _, by simpa using h.size, by simpa using h.more, fun b b1 b2 => (e b (by omega)).trans (h.keep b b1 b2), (e _ (by omega)).trans h.head, (e _ (by omega)).trans h.vals, ?_, ?_, (e _ (by omega)).trans h.count, h.came⟩
  · obtain ⟨cs, h1, h2⟩ := h.res
    exact ⟨cs, (e _ (by omega)).trans h1, h2⟩
  · obtain ⟨cs, h1, h2, h3, h4⟩ := h.frame
    refine ⟨_, heap_setCell_same w (N + 3) (337 + i) cs _ _ h1, by simpa using h2, fun j hj => ?_, fun j hj => ?_⟩
    · rw [Array.getElem?_setIfInBounds_ne (by omega)]; exact h3 j hj
    · by_cases ej : j = i
      · subst ej
        rw [upd_at]; simp [h2, show 337 + j < 341 by omega]
      · rw [upd_not _ _ _ _ ej, Array.getElem?_setIfInBounds_ne (by omega)]; exact h4 j hj
/-- A store into a block that the call made later. -/
theorem FM.setO (h : FM w0 N h7 va vl vc t S L w) (b o : Nat) (v : Value) (hb : N + 4 < b ∧ w0.M ≤ b) : FM w0 N h7 va vl vc t S L (w.setCell ⟨b, o, none⟩ v) := by
  have e : ∀ k, k ≠ b → (w.setCell ⟨b, o, none⟩ v).heap[k]? = w.heap[k]? := fun k hk => heap_set_other w _ _ _ _ hk
  refine ⟨h.below.setCell (by show N ≤ b; omega) _, by simpa using h.size, by simpa using h.more, fun b1 b2 b3 => (e b1 (by omega)).trans (h.keep b1 b2 b3), (e _ (by omega)).trans h.head, (e _ (by omega)).trans h.vals, ?_, ?_, (e _ (by omega)).trans h.count, h.came⟩
  · obtain ⟨cs, h1, h2⟩ := h.res
    exact ⟨cs, (e _ (by omega)).trans h1, h2⟩
  · obtain ⟨cs, h1, h2⟩ := h.frame
    exact ⟨cs, (e _ (by omega)).trans h1, h2⟩
theorem FM.counted (h : FM w0 N h7 va vl vc t S L w) : FM w0 N h7 va vl vc (t + 1) S L (w.setCell ⟨N + 4, 0, none⟩ (.int .i64 (t + 1 : Nat))) := by
  have e : ∀ k, k ≠ N + 4 → (w.setCell ⟨N + 4, 0, none⟩ (.int .i64 (t + 1 : Nat))).heap[k]? = w.heap[k]? := fun k hk => heap_set_other w _ _ _ _ hk
  refine ⟨h.below.setCell (by show N ≤ N + 4; omega) _, by simpa using h.size, by simpa using h.more, fun b b1 b2 => (e b (by omega)).trans (h.keep b b1 b2), (e _ (by omega)).trans h.head, (e _ (by omega)).trans h.vals, ?_, ?_, ?_, h.came⟩
  · obtain ⟨cs, h1, h2⟩ := h.res
    exact ⟨cs, (e _ (by omega)).trans h1, h2⟩
  · obtain ⟨cs, h1, h2⟩ := h.frame
    exact ⟨cs, (e _ (by omega)).trans h1, h2⟩
  · rw [heap_setCell_same w (N + 4) 0 _ _ _ h.count]; rfl
theorem FM.valsAt (h : FM w0 N h7 va vl vc t S L w) : ValsAt w va vl := by
  rcases h.came with h0 | ⟨vb, vo, rfl, hlt, hc⟩
  · exact .inl h0
  · refine .inr ⟨vb, vo, rfl, fun j hj => ?_⟩
    obtain ⟨z, z0, z1, hz⟩ := hc j hj
    exact ⟨z, z0, z1, by rw [h.below.cell (p := ⟨vb, vo + j, none⟩) hlt]; exact hz⟩
/-- The count is one more, and a number comes. -/
theorem FM.next (h : FM w0 N h7 va vl vc t S L w) (n : Int) (hn0 : 1 ≤ n) (hn1 : n ≤ 1000) (ht : t ≤ 1000000) (hvl : vl ≤ 1000) :
    Calls Tryd.prog 24 #[.int .i64 n, .pointer (some ⟨N + 4, 0, none⟩), .pointer (some ⟨N + 1, 0, none⟩)] w fun e w' => ∃ r : Int, e = .returned (.int .i64 r) ∧ 0 ≤ r ∧ r < n ∧ FM w0 N h7 va vl vc (t + 1) S L w' ∧ w.heap.size ≤ w'.heap.size ∧ ∀ k, k ≠ N + 4 → w'.heap[k]? = w.heap[k]? := by
  refine (next_any (N + 4) (N + 1) t n va vl vc w hn0 hn1 ht hvl (by omega) h.cellA h.freeA h.cellV h.counted.valsAt).mono ?_
  rintro e w' ⟨r, k, rfl, r0, r1, rfl⟩
  exact ⟨r, rfl, r0, r1, h.counted.drewN k, by simp, fun j hj => heap_set_other w _ _ _ _ hj⟩
end
end Go.Proofs.YtppfldobgemddaaDoor
namespace Go.Proofs.YtppfldobgemddaaDoor
open Go.RowKit
set_option linter.unusedVariables false

/-- A frame of 631 slots, off a function. -/
def mkA (f : Nat → Value) : Act := ⟨#[f 0, f 1, f 2, f 3, f 4, f 5, f 6, f 7, f 8, f 9, f 10, f 11, f 12, f 13, f 14, f 15, f 16, f 17, f 18, f 19, f 20, f 21, f 22, f 23, f 24, f 25, f 26, f 27, f 28, f 29, f 30, f 31, f 32, f 33, f 34, f 35, f 36, f 37, f 38, f 39, f 40, f 41, f 42, f 43, f 44, f 45, f 46, f 47, f 48, f 49, f 50, f 51, f 52, f 53, f 54, f 55, f 56, f 57, f 58, f 59, f 60, f 61, f 62, f 63, f 64, f 65, f 66, f 67, f 68, f 69, f 70, f 71, f 72, f 73, f 74, f 75, f 76, f 77, f 78, f 79, f 80, f 81, f 82, f 83, f 84, f 85, f 86, f 87, f 88, f 89, f 90, f 91, f 92, f 93, f 94, f 95, f 96, f 97, f 98, f 99, f 100, f 101, f 102, f 103, f 104, f 105, f 106, f 107, f 108, f 109, f 110, f 111, f 112, f 113, f 114, f 115, f 116, f 117, f 118, f 119, f 120, f 121, f 122, f 123, f 124, f 125, f 126, f 127, f 128, f 129, f 130, f 131, f 132, f 133, f 134, f 135, f 136, f 137, f 138, f 139, f 140, f 141, f 142, f 143, f 144, f 145, f 146, f 147, f 148, f 149, f 150, f 151, f 152, f 153, f 154, f 155, f 156, f 157, f 158, f 159, f 160, f 161, f 162, f 163, f 164, f 165, f 166, f 167, f 168, f 169, f 170, f 171, f 172, f 173, f 174, f 175, f 176, f 177, f 178, f 179, f 180, f 181, f 182, f 183, f 184, f 185, f 186, f 187, f 188, f 189, f 190, f 191, f 192, f 193, f 194, f 195, f 196, f 197, f 198, f 199, f 200, f 201, f 202, f 203, f 204, f 205, f 206, f 207, f 208, f 209, f 210, f 211, f 212, f 213, f 214, f 215, f 216, f 217, f 218, f 219, f 220, f 221, f 222, f 223, f 224, f 225, f 226, f 227, f 228, f 229, f 230, f 231, f 232, f 233, f 234, f 235, f 236, f 237, f 238, f 239, f 240, f 241, f 242, f 243, f 244, f 245, f 246, f 247, f 248, f 249, f 250, f 251, f 252, f 253, f 254, f 255, f 256, f 257, f 258, f 259, f 260, f 261, f 262, f 263, f 264, f 265, f 266, f 267, f 268, f 269, f 270, f 271, f 272, f 273, f 274, f 275, f 276, f 277, f 278, f 279, f 280, f 281, f 282, f 283, f 284, f 285, f 286, f 287, f 288, f 289, f 290, f 291, f 292, f 293, f 294, f 295, f 296, f 297, f 298, f 299, f 300, f 301, f 302, f 303, f 304, f 305, f 306, f 307, f 308, f 309, f 310, f 311, f 312, f 313, f 314, f 315, f 316, f 317, f 318, f 319, f 320, f 321, f 322, f 323, f 324, f 325, f 326, f 327, f 328, f 329, f 330, f 331, f 332, f 333, f 334, f 335, f 336, f 337, f 338, f 339, f 340, f 341, f 342, f 343, f 344, f 345, f 346, f 347, f 348, f 349, f 350, f 351, f 352, f 353, f 354, f 355, f 356, f 357, f 358, f 359, f 360, f 361, f 362, f 363, f 364, f 365, f 366, f 367, f 368, f 369, f 370, f 371, f 372, f 373, f 374, f 375, f 376, f 377, f 378, f 379, f 380, f 381, f 382, f 383, f 384, f 385, f 386, f 387, f 388, f 389, f 390, f 391, f 392, f 393, f 394, f 395, f 396, f 397, f 398, f 399, f 400, f 401, f 402, f 403, f 404, f 405, f 406, f 407, f 408, f 409, f 410, f 411, f 412, f 413, f 414, f 415, f 416, f 417, f 418, f 419, f 420, f 421, f 422, f 423, f 424, f 425, f 426, f 427, f 428, f 429, f 430, f 431, f 432, f 433, f 434, f 435, f 436, f 437, f 438, f 439, f 440, f 441, f 442, f 443, f 444, f 445, f 446, f 447, f 448, f 449, f 450, f 451, f 452, f 453, f 454, f 455, f 456, f 457, f 458, f 459, f 460, f 461, f 462, f 463, f 464, f 465, f 466, f 467, f 468, f 469, f 470, f 471, f 472, f 473, f 474, f 475, f 476, f 477, f 478, f 479, f 480, f 481, f 482, f 483, f 484, f 485, f 486, f 487, f 488, f 489, f 490, f 491, f 492, f 493, f 494, f 495, f 496, f 497, f 498, f 499, f 500, f 501, f 502, f 503, f 504, f 505, f 506, f 507, f 508, f 509, f 510, f 511, f 512, f 513, f 514, f 515, f 516, f 517, f 518, f 519, f 520, f 521, f 522, f 523, f 524, f 525, f 526, f 527, f 528, f 529, f 530, f 531, f 532, f 533, f 534, f 535, f 536, f 537, f 538, f 539, f 540, f 541, f 542, f 543, f 544, f 545, f 546, f 547, f 548, f 549, f 550, f 551, f 552, f 553, f 554, f 555, f 556, f 557, f 558, f 559, f 560, f 561, f 562, f 563, f 564, f 565, f 566, f 567, f 568, f 569, f 570, f 571, f 572, f 573, f 574, f 575, f 576, f 577, f 578, f 579, f 580, f 581, f 582, f 583, f 584, f 585, f 586, f 587, f 588, f 589, f 590, f 591, f 592, f 593, f 594, f 595, f 596, f 597, f 598, f 599, f 600, f 601, f 602, f 603, f 604, f 605, f 606, f 607, f 608, f 609, f 610, f 611, f 612, f 613, f 614, f 615, f 616, f 617, f 618, f 619, f 620, f 621, f 622, f 623, f 624, f 625, f 626, f 627, f 628, f 629, f 630], []⟩
theorem mkA_list (f : Nat → Value) : (mkA f).tmps.toList = (List.range 631).map f := by
  unfold mkA; kernel_rfl
theorem mkA_of (a : Act) (h : a.tmps.size = 631) (hd : a.defers = []) : a = mkA (fun i => a.tmps.getD i undef) := by
  have e : a.tmps = (mkA (fun i => a.tmps.getD i undef)).tmps := by
    apply Array.ext'
    rw [mkA_list]
    apply List.ext_getElem
    · simp [h]
    · intro i h1 h2
      have hi : i < a.tmps.size := by simpa using h1
      simp [Array.getD, hi]
  cases a with
  | mk tm df => cases hd; simp only at e; rw [← show (⟨(mkA (fun i => tm.getD i undef)).tmps, []⟩ : Act) = mkA (fun i => tm.getD i undef) from rfl]; rw [← e]
/-- The slots that matter. -/
structure Fr (N : Nat) (na : Option Addr) (nl nc : Nat) (x12 x13 x14 x15 x18 x19 x25 x26 x27 x40 x41 x44 x45 x46 : Value) (a : Act) : Prop where
  size : a.tmps.size = 631
  dn : a.defers = []
  at1 : a.tmps.getD 1 undef = .slice na nl nc
  at3 : a.tmps.getD 3 undef = .pointer (some ⟨N, 0, none⟩)
  at6 : a.tmps.getD 6 undef = .pointer (some ⟨N + 2, 0, none⟩)
  at7 : a.tmps.getD 7 undef = .pointer (some ⟨N + 3, 0, none⟩)
  at9 : a.tmps.getD 9 undef = .func (.func 24) #[] #[.pointer (some ⟨N + 4, 0, none⟩), .pointer (some ⟨N + 1, 0, none⟩)]
  at10 : a.tmps.getD 10 undef = .pointer (some ⟨N + 3, 7, none⟩)
  at11 : a.tmps.getD 11 undef = .pointer (some ⟨N + 3, 93, none⟩)
  at12 : a.tmps.getD 12 undef = x12
  at13 : a.tmps.getD 13 undef = x13
  at14 : a.tmps.getD 14 undef = x14
  at15 : a.tmps.getD 15 undef = x15
  at18 : a.tmps.getD 18 undef = x18
  at19 : a.tmps.getD 19 undef = x19
  at25 : a.tmps.getD 25 undef = x25
  at26 : a.tmps.getD 26 undef = x26
  at27 : a.tmps.getD 27 undef = x27
  at40 : a.tmps.getD 40 undef = x40
  at41 : a.tmps.getD 41 undef = x41
  at44 : a.tmps.getD 44 undef = x44
  at45 : a.tmps.getD 45 undef = x45
  at46 : a.tmps.getD 46 undef = x46
theorem Fr.opened {N : Nat} {na : Option Addr} {nl nc : Nat} {x12 x13 x14 x15 x18 x19 x25 x26 x27 x40 x41 x44 x45 x46 : Value} {a : Act} (h : Fr N na nl nc x12 x13 x14 x15 x18 x19 x25 x26 x27 x40 x41 x44 x45 x46 a) :
    ∃ f : Nat → Value, a = mkA f ∧ f 1 = .slice na nl nc ∧ f 3 = .pointer (some ⟨N, 0, none⟩) ∧ f 6 = .pointer (some ⟨N + 2, 0, none⟩) ∧ f 7 = .pointer (some ⟨N + 3, 0, none⟩) ∧ f 9 = .func (.func 24) #[] #[.pointer (some ⟨N + 4, 0, none⟩), .pointer (some ⟨N + 1, 0, none⟩)] ∧ f 10 = .pointer (some ⟨N + 3, 7, none⟩) ∧ f 11 = .pointer (some ⟨N + 3, 93, none⟩) ∧ f 12 = x12 ∧ f 13 = x13 ∧ f 14 = x14 ∧ f 15 = x15 ∧ f 18 = x18 ∧ f 19 = x19 ∧ f 25 = x25 ∧ f 26 = x26 ∧ f 27 = x27 ∧ f 40 = x40 ∧ f 41 = x41 ∧ f 44 = x44 ∧ f 45 = x45 ∧ f 46 = x46 :=
  ⟨fun i => a.tmps.getD i undef, mkA_of a h.size h.dn, h.at1, h.at3, h.at6, h.at7, h.at9, h.at10, h.at11, h.at12, h.at13, h.at14, h.at15, h.at18, h.at19, h.at25, h.at26, h.at27, h.at40, h.at41, h.at44, h.at45, h.at46⟩
end Go.Proofs.YtppfldobgemddaaDoor
